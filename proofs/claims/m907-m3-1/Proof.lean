import JvmDerived
import JvmDerived.Pilot.@@N@@Statement
import JvmDerived.Pilot.@@N@@Code
set_option linter.unusedVariables false
set_option linter.unusedSimpArgs false
/- laws to paste: Road.backV, Road.lenW, Road.chN, Road.codOf (cut by pick.py; bodies as the Statement names them) -/
namespace Jvm.Pilot.@@N@@
namespace StrChars
open Jvm Sem ClassFile Op Lib Jvm.Stand Jvm.Free.XT Jvm.Free.ALB Jvm.Free.JM Jvm.Free
open Jvm.Lib.Cold (StaticIs)
/-- a char array whose places are chars -/
def Ch (a : Addr) (A : Cell) (U : State) : Prop := Arr .char a A U ∧ Typed .char A
theorem Ch.mv {a : Addr} {A : Cell} {U U' : State} (h : Ch a A U) (hal : U.vm.Alike U'.vm) (hh : U'.heap = U.heap) : Ch a A U' := ⟨h.1.mv hal hh, h.2⟩
theorem Ch.keep {a : Addr} {A : Cell} {U U' : State} (h : Ch a A U) (hal : U.vm.Alike U'.vm) (hk : U'.heap[a]? = some A) : Ch a A U' := ⟨h.1.keep hal hk, h.2⟩
/-- what place i of a char[]'s cell holds -/
def cv (A : Cell) (i : Nat) : Int32 := match A.slots[i]? with | some (.int x) => x | _ => 0
theorem Ch.get {a : Addr} {A : Cell} {U : State} (h : Ch a A U) {i : Nat} (hi : i < A.slots.size) : A.slots[i]? = some (.int (cv A i)) := by
  have e := Array.getElem?_eq_getElem hi
  have f := h.2 i _ e
  unfold cv; rw [e]
  generalize A.slots[i] = v at f
  cases v <;> simp [fits] at f ⊢
/-- the byte that i2b leaves of a char -/
def lo8 (x : Int32) : Int32 := x.toInt8.toInt32
theorem fits_lo8 (y : Int32) : fits .byte (.int (lo8 y)) = true := by
  have h1 := y.toInt8.le_toInt
  have h2 := y.toInt8.toInt_lt
  simp only [lo8, fits, Bool.and_eq_true, decide_eq_true_eq, Int32.le_iff_toInt_le, Int8.toInt_toInt32, show (-128 : Int32).toInt = -128 from by decide, show (127 : Int32).toInt = 127 from by decide]
  omega
/-- A' is A but that each place j of lo .. hi - 1 holds f j -/
def Laid (A A' : Cell) (lo hi : Nat) (f : Nat → Value) : Prop := A'.cls = A.cls ∧ A'.vm = A.vm ∧ A'.slots.size = A.slots.size ∧ ∀ i, A'.slots[i]? = if lo ≤ i ∧ i < hi then some (f i) else A.slots[i]?
theorem Laid.zero (A : Cell) (lo : Nat) (f : Nat → Value) : Laid A A lo (lo + 0) f := ⟨rfl, rfl, rfl, fun i => by rw [if_neg (by omega)]⟩
theorem Laid.step {A Ak : Cell} {lo k : Nat} {f : Nat → Value} {v : Value} (h : Laid A Ak lo k f) (hlo : lo ≤ k) (hk : k < Ak.slots.size) (hv : v = f k) : Laid A (Ak.setSlot k v) lo (k + 1) f := by
  refine ⟨h.1, h.2.1, by simpa [Cell.setSlot] using h.2.2.1, fun i => ?_⟩
  by_cases e : k = i
  · subst e; rw [Cell.slots_setSlot_self v hk, if_pos (by omega), hv]
  · rw [Cell.slots_setSlot_ne v e, h.2.2.2 i]
    by_cases q : lo ≤ i ∧ i < k
    · rw [if_pos q, if_pos (by omega)]
    · rw [if_neg q, if_neg (by omega)]
def U16 : String := "java/lang/StringUTF16"
namespace Cmp5
def yN : MethodName := ⟨"java/lang/StringUTF16", "compress", "([CI[BII)I"⟩
abbrev yB : ByteArray := jdk_52_method_21_code
theorem d0 : decode yB 0 = .ok (.iconst 0, 1) := by decide +kernel
theorem d1 : decode yB 1 = .ok (.istore 5, 2) := by decide +kernel
theorem d3 : decode yB 3 = .ok (.iload 5, 2) := by decide +kernel
theorem d5 : decode yB 5 = .ok (.iload 4, 2) := by decide +kernel
theorem d7 : decode yB 7 = .ok (.if_icmp (.ge) 37, 3) := by decide +kernel
theorem d10 : decode yB 10 = .ok (.aload_n 0, 1) := by decide +kernel
theorem d11 : decode yB 11 = .ok (.iload_n 1, 1) := by decide +kernel
theorem d12 : decode yB 12 = .ok (.caload, 1) := by decide +kernel
theorem d13 : decode yB 13 = .ok (.istore 6, 2) := by decide +kernel
theorem d15 : decode yB 15 = .ok (.iload 6, 2) := by decide +kernel
theorem d17 : decode yB 17 = .ok (.sipush 255, 3) := by decide +kernel
theorem d20 : decode yB 20 = .ok (.if_icmp (.le) 6, 3) := by decide +kernel
theorem d26 : decode yB 26 = .ok (.aload_n 2, 1) := by decide +kernel
theorem d27 : decode yB 27 = .ok (.iload_n 3, 1) := by decide +kernel
theorem d28 : decode yB 28 = .ok (.iload 6, 2) := by decide +kernel
theorem d30 : decode yB 30 = .ok (.i2b, 1) := by decide +kernel
theorem d31 : decode yB 31 = .ok (.bastore, 1) := by decide +kernel
theorem d32 : decode yB 32 = .ok (.iinc 1 1, 3) := by decide +kernel
theorem d35 : decode yB 35 = .ok (.iinc 3 1, 3) := by decide +kernel
theorem d38 : decode yB 38 = .ok (.iinc 5 1, 3) := by decide +kernel
theorem d41 : decode yB 41 = .ok (.goto (-38), 3) := by decide +kernel
theorem d44 : decode yB 44 = .ok (.iload 4, 2) := by decide +kernel
theorem d46 : decode yB 46 = .ok (.ireturn, 1) := by decide +kernel
def site : List Cond := []
def tab : Cond := tabOf yN yB 7 (some .int) site
def P (b : Addr) (A : Cell) (d : Addr) (B : Cell) (o q len : Nat) (args : Array Value) (s : State) : Prop := args = #[.ref b, .int (Int32.ofNat o), .ref d, .int (Int32.ofNat q), .int (Int32.ofNat len)] ∧ Ch b A s ∧ Arr .byte d B s ∧ b ≠ d ∧ o + len ≤ A.slots.size ∧ q + len ≤ B.slots.size ∧ ∀ i, i < len → ¬ 255 < cv A (o + i)
def E (b : Addr) (A : Cell) (d : Addr) (B : Cell) (o q len : Nat) (r : Option Value) (s u : State) : Prop := r = some (.int (Int32.ofNat len)) ∧ ∃ B', Put d B' s u ∧ Laid B B' q (q + len) (fun j => Value.int (lo8 (cv A (o + (j - q)))))
/-- no char of the range above 255: len; the places written hold each char's low byte -/
theorem law (l : Launch) (b : Addr) (A : Cell) (d : Addr) (B : Cell) (o q len : Nat) : Law l yN 5 5 0 0 yB 7 (some .int) site (P b A d B o q len) (E b A d B o q len) (copyLocs d q len) 0 0 := by
  refine Law.of_walk (plainFor_of_name (by decide +kernel)) (by decide +kernel) (by decide +kernel) (by decide) (fun _ _ h => by rw [h.1]; rfl) (fun _ U U' hal hh h => ⟨h.1, h.2.1.mv hal hh, h.2.2.1.mv hal hh, h.2.2.2⟩) (fun r U U' V V' h1 hal h2 h => ⟨h.1, h.2.elim fun B' q => ⟨B', q.1.mv h1 h2, q.2⟩⟩) ?_
  intro p e s m args below meth c s₁ X0 hexec hbytes hml hret hlk hnm hown hh0 W hP
  obtain ⟨rfl, hA, hB, hne, l1, l2, hp⟩ := hP
  have c1 : Steps p.tables e below (s₁.setTop (entryFrame m #[.ref b, .int (Int32.ofNat o), .ref d, .int (Int32.ofNat q), .int (Int32.ofNat len)] 7)) (s₁.setTop (mkF m 0 #[.val (.ref b), .val (.int (Int32.ofNat o)), .val (.ref d), .val (.int (Int32.ofNat q)), .val (.int (Int32.ofNat len)), .unset, .unset] [])) := entry rfl
  have hA0 := hA.1.mv X0.warmed.alike hh0
  have hB0 := hB.mv X0.warmed.alike hh0
  have a31 := hA.1.2.2.2
  have c2 : Steps p.tables e below (s₁.setTop (entryFrame m #[.ref b, .int (Int32.ofNat o), .ref d, .int (Int32.ofNat q), .int (Int32.ofNat len)] 7)) (s₁.setTop (mkF m 3 #[.val (.ref b), .val (.int (Int32.ofNat o)), .val (.ref d), .val (.int (Int32.ofNat q)), .val (.int (Int32.ofNat len)), .val (.int 0), .unset] [])) := c1.trans (by
    refine iconstV X0.here hexec rfl 0 (hb hbytes d0) (by decide) ?_
    refine XS.istore X0.here hexec rfl (hb hbytes d1) rfl rfl ?_
    exact Steps.refl _)
  have loop : ∀ (r i : Nat), i + r = len → ∀ (z : Slot), (z = .unset ∨ ∃ w, z = .val w ∧ w.category = 1) → ∀ (Tl : State) (Bk : Cell), Stand p l e { frames := 0, locals := 0, cells := 0, slots := 0 } s m #[.ref b, .int (Int32.ofNat o), .ref d, .int (Int32.ofNat q), .int (Int32.ofNat len)] below meth c Tl ([] ++ copyLocs d q i) 0 0 → Put d Bk s₁ Tl → Laid B Bk q (q + i) (fun j => Value.int (lo8 (cv A (o + (j - q))))) →
      Steps p.tables e below (s₁.setTop (entryFrame m #[.ref b, .int (Int32.ofNat o), .ref d, .int (Int32.ofNat q), .int (Int32.ofNat len)] 7)) (Tl.setTop (mkF m 3 #[.val (.ref b), .val (.int (Int32.ofNat (o + i))), .val (.ref d), .val (.int (Int32.ofNat (q + i))), .val (.int (Int32.ofNat len)), .val (.int (Int32.ofNat i)), z] [])) → ∃ (T' : State) (B' : Cell) (z' : Slot), Stand p l e { frames := 0, locals := 0, cells := 0, slots := 0 } s m #[.ref b, .int (Int32.ofNat o), .ref d, .int (Int32.ofNat q), .int (Int32.ofNat len)] below meth c T' ([] ++ copyLocs d q len) 0 0 ∧ Put d B' s₁ T' ∧ Laid B B' q (q + len) (fun j => Value.int (lo8 (cv A (o + (j - q))))) ∧
      Steps p.tables e below (s₁.setTop (entryFrame m #[.ref b, .int (Int32.ofNat o), .ref d, .int (Int32.ofNat q), .int (Int32.ofNat len)] 7)) (T'.setTop (mkF m 3 #[.val (.ref b), .val (.int (Int32.ofNat (o + len))), .val (.ref d), .val (.int (Int32.ofNat (q + len))), .val (.int (Int32.ofNat len)), .val (.int (Int32.ofNat len)), z'] [])) := by
    intro r
    induction r with
    | zero =>
      intro i hi z hz Tl Bk Xl pl fl cl
      have hil : i = len := by omega
      rw [hil] at Xl fl cl
      exact ⟨Tl, Bk, z, Xl, pl, fl, cl⟩
    | succ r ih =>
      intro i hi z hz Tl Bk Xl pl fl cl
      have all := X0.warmed.alike.symm.trans Xl.warmed.alike
      have hAl := hA0.keep all (pl.other hne hA0.1)
      have hBk := hB0.like all pl.1 fl.1 fl.2.1 fl.2.2.1
      have hlt : q + i < Bk.slots.size := by rw [fl.2.2.1]; omega
      have c3 : Steps p.tables e below (s₁.setTop (entryFrame m #[.ref b, .int (Int32.ofNat o), .ref d, .int (Int32.ofNat q), .int (Int32.ofNat len)] 7)) (Tl.setTop (mkF m 12 #[.val (.ref b), .val (.int (Int32.ofNat (o + i))), .val (.ref d), .val (.int (Int32.ofNat (q + i))), .val (.int (Int32.ofNat len)), .val (.int (Int32.ofNat i)), z] [.int (Int32.ofNat (o + i)), .ref b])) := cl.trans (by
        refine XS.iload Xl.here hexec rfl (hb hbytes d3) rfl ?_
        refine XS.iload Xl.here hexec rfl (hb hbytes d5) rfl ?_
        refine XS.icmpNo Xl.here hexec rfl (hb hbytes d7) rfl (ii_ge_f (lt32 (by omega) (by omega))) ?_
        refine XS.aloadN Xl.here hexec rfl (hb hbytes d10) rfl rfl ?_
        refine XS.iloadN Xl.here hexec rfl (hb hbytes d11) rfl ?_
        exact Steps.refl _)
      have c4 : Steps p.tables e below (s₁.setTop (entryFrame m #[.ref b, .int (Int32.ofNat o), .ref d, .int (Int32.ofNat q), .int (Int32.ofNat len)] 7)) (Tl.setTop (mkF m 13 #[.val (.ref b), .val (.int (Int32.ofNat (o + i))), .val (.ref d), .val (.int (Int32.ofNat (q + i))), .val (.int (Int32.ofNat len)), .val (.int (Int32.ofNat i)), z] [.int (cv A (o + i))])) := c3.trans (by
        refine Xl.aget hexec hAl rfl (hA.get (i := o + i) (by omega)) rfl rfl (hb hbytes d12) ?_
        exact Steps.refl _)
      have c5 : Steps p.tables e below (s₁.setTop (entryFrame m #[.ref b, .int (Int32.ofNat o), .ref d, .int (Int32.ofNat q), .int (Int32.ofNat len)] 7)) (Tl.setTop (mkF m 15 #[.val (.ref b), .val (.int (Int32.ofNat (o + i))), .val (.ref d), .val (.int (Int32.ofNat (q + i))), .val (.int (Int32.ofNat len)), .val (.int (Int32.ofNat i)), .val (.int (cv A (o + i)))] [])) := c4.trans (by
        refine XS.istoreS Xl.here hexec rfl (hb hbytes d13) rfl rfl hz ?_
        exact Steps.refl _)
      have c6 : Steps p.tables e below (s₁.setTop (entryFrame m #[.ref b, .int (Int32.ofNat o), .ref d, .int (Int32.ofNat q), .int (Int32.ofNat len)] 7)) (Tl.setTop (mkF m 31 #[.val (.ref b), .val (.int (Int32.ofNat (o + i))), .val (.ref d), .val (.int (Int32.ofNat (q + i))), .val (.int (Int32.ofNat len)), .val (.int (Int32.ofNat i)), .val (.int (cv A (o + i)))] [.int (lo8 (cv A (o + i))), .int (Int32.ofNat (q + i)), .ref d])) := c5.trans (by
        refine XS.iload Xl.here hexec rfl (hb hbytes d15) rfl ?_
        refine sipushV Xl.here hexec rfl 255 (hb hbytes d17) (by decide) ?_
        refine XS.icmpYes Xl.here hexec rfl (pc0 := 20) rfl (hb hbytes d20) rfl (ii_le_t (hp i (by omega))) (by decide) rfl ?_
        refine XS.aloadN Xl.here hexec rfl (hb hbytes d26) rfl rfl ?_
        refine XS.iloadN Xl.here hexec rfl (hb hbytes d27) rfl ?_
        refine XS.iload Xl.here hexec rfl (hb hbytes d28) rfl ?_
        refine i2b Xl.here hexec rfl (hb hbytes d30) rfl ?_
        exact Steps.refl _)
      obtain ⟨T7, X7, p7, st7⟩ := Xl.aput hexec hBk rfl hlt rfl (fits_lo8 (cv A (o + i))) (g := (mkF m 31 #[.val (.ref b), .val (.int (Int32.ofNat (o + i))), .val (.ref d), .val (.int (Int32.ofNat (q + i))), .val (.int (Int32.ofNat len)), .val (.int (Int32.ofNat i)), .val (.int (cv A (o + i)))] [.int (lo8 (cv A (o + i))), .int (Int32.ofNat (q + i)), .ref d])) rfl (rest := []) rfl (hb hbytes d31)
      have c8 : Steps p.tables e below (s₁.setTop (entryFrame m #[.ref b, .int (Int32.ofNat o), .ref d, .int (Int32.ofNat q), .int (Int32.ofNat len)] 7)) (T7.setTop (mkF m 32 #[.val (.ref b), .val (.int (Int32.ofNat (o + i))), .val (.ref d), .val (.int (Int32.ofNat (q + i))), .val (.int (Int32.ofNat len)), .val (.int (Int32.ofNat i)), .val (.int (cv A (o + i)))] [])) := c6.trans (st7 _ (Steps.refl _))
      have c9 : Steps p.tables e below (s₁.setTop (entryFrame m #[.ref b, .int (Int32.ofNat o), .ref d, .int (Int32.ofNat q), .int (Int32.ofNat len)] 7)) (T7.setTop (mkF m 3 #[.val (.ref b), .val (.int (Int32.ofNat (o + i) + 1)), .val (.ref d), .val (.int (Int32.ofNat (q + i) + 1)), .val (.int (Int32.ofNat len)), .val (.int (Int32.ofNat i + 1)), .val (.int (cv A (o + i)))] [])) := c8.trans (by
        refine iincV X7.here hexec rfl 1 (hb hbytes d32) (by decide) rfl rfl ?_
        refine iincV X7.here hexec rfl 1 (hb hbytes d35) (by decide) rfl rfl ?_
        refine iincV X7.here hexec rfl 1 (hb hbytes d38) (by decide) rfl rfl ?_
        refine XS.goto X7.here hexec rfl (pc0 := 41) rfl (hb hbytes d41) (by decide) rfl ?_
        exact Steps.refl _)
      have c10 : Steps p.tables e below (s₁.setTop (entryFrame m #[.ref b, .int (Int32.ofNat o), .ref d, .int (Int32.ofNat q), .int (Int32.ofNat len)] 7)) (T7.setTop (mkF m 3 #[.val (.ref b), .val (.int (Int32.ofNat (o + (i + 1)))), .val (.ref d), .val (.int (Int32.ofNat (q + (i + 1)))), .val (.int (Int32.ofNat len)), .val (.int (Int32.ofNat (i + 1))), .val (.int (cv A (o + i)))] [])) := by
        have := c9
        rw [succ32, succ32, succ32] at this
        exact this
      exact ih (i + 1) (by omega) _ (Or.inr ⟨_, rfl, rfl⟩) T7 _ (by rw [copyLocs_step, ← List.append_assoc]; exact X7) (pl.trans p7) (fl.step (by omega) hlt (by simp)) c10
  obtain ⟨T9, B9, z9, X9, p9, f9, g9⟩ := loop len 0 (by omega) .unset (Or.inl rfl) s₁ B (by simpa [copyLocs] using X0) ⟨hB0.1, fun _ _ => rfl, rfl⟩ (Laid.zero _ _ _) c2
  have c11 : Steps p.tables e below (s₁.setTop (entryFrame m #[.ref b, .int (Int32.ofNat o), .ref d, .int (Int32.ofNat q), .int (Int32.ofNat len)] 7)) (T9.setTop (mkF m 46 #[.val (.ref b), .val (.int (Int32.ofNat (o + len))), .val (.ref d), .val (.int (Int32.ofNat (q + len))), .val (.int (Int32.ofNat len)), .val (.int (Int32.ofNat len)), z9] [.int (Int32.ofNat len)])) := g9.trans (by
    refine XS.iload X9.here hexec rfl (hb hbytes d3) rfl ?_
    refine XS.iload X9.here hexec rfl (hb hbytes d5) rfl ?_
    refine XS.icmpYes X9.here hexec rfl (pc0 := 7) rfl (hb hbytes d7) rfl (ii_ge_t (nlt32 (by omega) (Nat.le_refl _))) (by decide) rfl ?_
    refine XS.iload X9.here hexec rfl (hb hbytes d44) rfl ?_
    exact Steps.refl _)
  exact ⟨T9, some (.int (Int32.ofNat len)), _, _, _, X9, by simp, rfl, rfl, (fun h => by cases h), ⟨rfl, B9, p9.from hh0, f9⟩, fun fs hl => c11.trans (X9.ireturnOut hexec hret rfl (Or.inl rfl) (hb hbytes d46) hl)⟩
end Cmp5
namespace Cmp3
def yN : MethodName := ⟨"java/lang/StringUTF16", "compress", "([CII)[B"⟩
abbrev yB : ByteArray := jdk_52_method_16_code
theorem d0 : decode yB 0 = .ok (.iload_n 2, 1) := by decide +kernel
theorem d1 : decode yB 1 = .ok (.newarray .byte, 2) := by decide +kernel
theorem d3 : decode yB 3 = .ok (.astore_n 3, 1) := by decide +kernel
theorem d4 : decode yB 4 = .ok (.aload_n 0, 1) := by decide +kernel
theorem d5 : decode yB 5 = .ok (.iload_n 1, 1) := by decide +kernel
theorem d6 : decode yB 6 = .ok (.aload_n 3, 1) := by decide +kernel
theorem d7 : decode yB 7 = .ok (.iconst 0, 1) := by decide +kernel
theorem d8 : decode yB 8 = .ok (.iload_n 2, 1) := by decide +kernel
theorem d9 : decode yB 9 = .ok (.invokestatic 115, 3) := by decide +kernel
theorem d12 : decode yB 12 = .ok (.istore 4, 2) := by decide +kernel
theorem d14 : decode yB 14 = .ok (.iload 4, 2) := by decide +kernel
theorem d16 : decode yB 16 = .ok (.iload_n 2, 1) := by decide +kernel
theorem d17 : decode yB 17 = .ok (.if_icmp (.eq) 40, 3) := by decide +kernel
theorem d57 : decode yB 57 = .ok (.aload_n 3, 1) := by decide +kernel
theorem d58 : decode yB 58 = .ok (.areturn, 1) := by decide +kernel
def site : List Cond := [.arrayClass .byte, Cmp5.tab] ++ staticW U16 115 Cmp5.yN
def tab : Cond := tabOf yN yB 6 (some (.array .byte)) site
def P (b : Addr) (A : Cell) (o len : Nat) (args : Array Value) (s : State) : Prop := args = #[.ref b, .int (Int32.ofNat o), .int (Int32.ofNat len)] ∧ Ch b A s ∧ o + len ≤ A.slots.size ∧ len ≤ 536870912 ∧ ∀ i, i < len → ¬ 255 < cv A (o + i)
def E (b : Addr) (A : Cell) (o len : Nat) (r : Option Value) (s u : State) : Prop := NewArr .byte "[B" len (fun j => .int (lo8 (cv A (o + j)))) r s u ∧ u.heap.size = s.heap.size + 1
/-- no char of the range above 255: a new byte[] of their low bytes -/
theorem law (l : Launch) (b : Addr) (A : Cell) (o len : Nat) : Law l yN 3 3 1 18 yB 6 (some (.array .byte)) site (P b A o len) (E b A o len) [] 1 len := by
  refine Law.of_walk (plainFor_of_name (by decide +kernel)) (by decide +kernel) (by decide +kernel) (by decide) (fun _ _ h => by rw [h.1]; rfl) (fun _ U U' hal hh h => ⟨h.1, h.2.1.mv hal hh, h.2.2⟩) (fun r U U' V V' h1 hal h2 h => ⟨NewArr.mv r U U' V V' h1 hal h2 h.1, by rw [h1, h2]; exact h.2⟩) ?_
  intro p e s m args below meth c s₁ X0 hexec hbytes hml hret hlk hnm hown hh0 W hP
  obtain ⟨rfl, hA, l1, l2, hp⟩ := hP
  have a31 := hA.1.2.2.2
  have c1 : Steps p.tables e below (s₁.setTop (entryFrame m #[.ref b, .int (Int32.ofNat o), .int (Int32.ofNat len)] 6)) (s₁.setTop (mkF m 0 #[.val (.ref b), .val (.int (Int32.ofNat o)), .val (.int (Int32.ofNat len)), .unset, .unset, .unset] [])) := entry rfl
  have c2 : Steps p.tables e below (s₁.setTop (entryFrame m #[.ref b, .int (Int32.ofNat o), .int (Int32.ofNat len)] 6)) (s₁.setTop (mkF m 1 #[.val (.ref b), .val (.int (Int32.ofNat o)), .val (.int (Int32.ofNat len)), .unset, .unset, .unset] [.int (Int32.ofNat len)])) := c1.trans (by
    refine XS.iloadN X0.here hexec rfl (hb hbytes d0) rfl ?_
    exact Steps.refl _)
  obtain ⟨T3, B3, X3, ba3, bs3, bv3, bh3, bf3, st3⟩ := X0.anew hexec (atype := .byte) (wk W (.arrayClass .byte)) rfl (by show len * 1 ≤ _; omega) (by omega) (g := (mkF m 1 #[.val (.ref b), .val (.int (Int32.ofNat o)), .val (.int (Int32.ofNat len)), .unset, .unset, .unset] [.int (Int32.ofNat len)])) rfl (hb hbytes d1) (rest := []) rfl (Nat.le_refl _) (by show 0 + len ≤ len; omega)
  rw [hh0] at ba3 st3
  have kp3 : XT.Kept s T3 := (XT.Kept.of_eq hh0).push bh3
  have hA3 := hA.keep X3.warmed.alike (kp3 _ _ hA.1.1)
  have hne : b ≠ s.heap.size := hA.1.ne
  have c4 : Steps p.tables e below (s₁.setTop (entryFrame m #[.ref b, .int (Int32.ofNat o), .int (Int32.ofNat len)] 6)) (T3.setTop (mkF m 3 #[.val (.ref b), .val (.int (Int32.ofNat o)), .val (.int (Int32.ofNat len)), .unset, .unset, .unset] [.ref s.heap.size])) := c2.trans (st3 _ (Steps.refl _))
  have c5 : Steps p.tables e below (s₁.setTop (entryFrame m #[.ref b, .int (Int32.ofNat o), .int (Int32.ofNat len)] 6)) (T3.setTop (mkF m 9 #[.val (.ref b), .val (.int (Int32.ofNat o)), .val (.int (Int32.ofNat len)), .val (.ref s.heap.size), .unset, .unset] [.int (Int32.ofNat len), .int 0, .ref s.heap.size, .int (Int32.ofNat o), .ref b])) := c4.trans (by
    refine XS.astoreN X3.here hexec rfl (hb hbytes d3) rfl rfl rfl ?_
    refine XS.aloadN X3.here hexec rfl (hb hbytes d4) rfl rfl ?_
    refine XS.iloadN X3.here hexec rfl (hb hbytes d5) rfl ?_
    refine XS.aloadN X3.here hexec rfl (hb hbytes d6) rfl rfl ?_
    refine iconstV X3.here hexec rfl 0 (hb hbytes d7) (by decide) ?_
    refine XS.iloadN X3.here hexec rfl (hb hbytes d8) rfl ?_
    exact Steps.refl _)
  obtain ⟨v6, T6, X6, E6, g6⟩ := X3.callS hexec (Cmp5.law l b A s.heap.size B3 o 0 len) hown (wks W (staticW U16 115 Cmp5.yN)) (wk W Cmp5.tab) (W := 0) (Nat.le_of_ble_eq_true rfl) (Nat.le_of_ble_eq_true rfl) (Nat.le_refl _) (by show 0 + len + 0 ≤ len; omega) (g := (mkF m 9 #[.val (.ref b), .val (.int (Int32.ofNat o)), .val (.int (Int32.ofNat len)), .val (.ref s.heap.size), .unset, .unset] [.int (Int32.ofNat len), .int (Int32.ofNat 0), .ref s.heap.size, .int (Int32.ofNat o), .ref b])) rfl (by rw [hml]; rfl) c5 (argsL := [.ref b, .int (Int32.ofNat o), .ref s.heap.size, .int (Int32.ofNat 0), .int (Int32.ofNat len)]) (rest := []) rfl rfl (by show 2 * 0 + 0 ≤ _; decide) (hb hbytes d9) (⟨rfl, hA3, ba3, hne, l1, by rw [bs3]; simp, hp⟩)
  obtain ⟨rfl, B6, p6, f6⟩ := E6
  have c7 : Steps p.tables e below (s₁.setTop (entryFrame m #[.ref b, .int (Int32.ofNat o), .int (Int32.ofNat len)] 6)) (T6.setTop (mkF m 12 #[.val (.ref b), .val (.int (Int32.ofNat o)), .val (.int (Int32.ofNat len)), .val (.ref s.heap.size), .unset, .unset] [.int (Int32.ofNat len)])) := g6
  have c8 : Steps p.tables e below (s₁.setTop (entryFrame m #[.ref b, .int (Int32.ofNat o), .int (Int32.ofNat len)] 6)) (T6.setTop (mkF m 58 #[.val (.ref b), .val (.int (Int32.ofNat o)), .val (.int (Int32.ofNat len)), .val (.ref s.heap.size), .val (.int (Int32.ofNat len)), .unset] [.ref s.heap.size])) := c7.trans (by
    refine XS.istore X6.here hexec rfl (hb hbytes d12) rfl rfl ?_
    refine XS.iload X6.here hexec rfl (hb hbytes d14) rfl ?_
    refine XS.iloadN X6.here hexec rfl (hb hbytes d16) rfl ?_
    refine XS.icmpYes X6.here hexec rfl (pc0 := 17) rfl (hb hbytes d17) rfl (ii_eq_t rfl) (by decide) rfl ?_
    refine XS.aloadN X6.here hexec rfl (hb hbytes d57) rfl rfl ?_
    exact Steps.refl _)
  have X8 := X6.wide (L' := []) (cells' := 1) (slots' := len) (fun x hx hlt => by
    simp only [List.nil_append, copyLocs, List.mem_map, List.mem_range] at hx
    obtain ⟨i, -, rfl⟩ := hx
    exact absurd hlt (Nat.lt_irrefl _)) (Nat.le_refl _) (by omega)
  exact ⟨T6, some (.ref s.heap.size), _, _, _, X8, rfl, rfl, rfl, (fun h => by cases h), ⟨⟨rfl, B6, ba3.like (X3.warmed.alike.symm.trans X6.warmed.alike) p6.1 f6.1 f6.2.1 f6.2.2.1, f6.2.1.trans bv3, by rw [X6.warmed.alike.findClass, f6.1]; exact bf3, by rw [f6.2.2.1, bs3]; simp, fun j hj => by rw [f6.2.2.2 j, if_pos (by omega)]; rfl, kp3.put p6 (Nat.le_refl _)⟩, by rw [p6.2.2, bh3, hh0]; simp⟩, fun fs hl => c8.trans (X8.areturnOut hexec rfl hret rfl (hb hbytes d58) hl)⟩
end Cmp3
namespace CodL
def yN : MethodName := ⟨"java/lang/StringUTF16", "coderFromArrayLen", "([BI)B"⟩
abbrev yB : ByteArray := jdk_52_method_15_code
theorem d0 : decode yB 0 = .ok (.iload_n 1, 1) := by decide +kernel
theorem d1 : decode yB 1 = .ok (.aload_n 0, 1) := by decide +kernel
theorem d2 : decode yB 2 = .ok (.arraylength, 1) := by decide +kernel
theorem d3 : decode yB 3 = .ok (.isub, 1) := by decide +kernel
theorem d4 : decode yB 4 = .ok (.bipush 31, 2) := by decide +kernel
theorem d6 : decode yB 6 = .ok (.iushr, 1) := by decide +kernel
theorem d7 : decode yB 7 = .ok (.i2b, 1) := by decide +kernel
theorem d8 : decode yB 8 = .ok (.ireturn, 1) := by decide +kernel
def site : List Cond := []
def tab : Cond := tabOf yN yB 2 (some .byte) site
def P (d : Addr) (B : Cell) (args : Array Value) (s : State) : Prop := args = #[.ref d, .int (Int32.ofNat B.slots.size)] ∧ Arr .byte d B s
def E (r : Option Value) (s u : State) : Prop := XT.PureE (some (.int 0)) r s u
/-- an array as long as the number of chars: LATIN1 -/
theorem law (l : Launch) (d : Addr) (B : Cell) : Law l yN 2 2 0 0 yB 2 (some .byte) site (P d B) E [] 0 0 := by
  refine Law.of_walk (plainFor_of_name (by decide +kernel)) (by decide +kernel) (by decide +kernel) (by decide) (fun _ _ h => by rw [h.1]; rfl) (fun _ U U' hal hh h => ⟨h.1, h.2.mv hal hh⟩) (fun r U U' V V' h1 hal h2 h => XT.PureE.mv r U U' V V' h1 hal h2 h) ?_
  intro p e s m args below meth c s₁ X0 hexec hbytes hml hret hlk hnm hown hh0 W hP
  obtain ⟨rfl, hB⟩ := hP
  have hB0 := hB.mv X0.warmed.alike hh0
  have c1 : Steps p.tables e below (s₁.setTop (entryFrame m #[.ref d, .int (Int32.ofNat B.slots.size)] 2)) (s₁.setTop (mkF m 0 #[.val (.ref d), .val (.int (Int32.ofNat B.slots.size))] [])) := entry rfl
  have c2 : Steps p.tables e below (s₁.setTop (entryFrame m #[.ref d, .int (Int32.ofNat B.slots.size)] 2)) (s₁.setTop (mkF m 2 #[.val (.ref d), .val (.int (Int32.ofNat B.slots.size))] [.ref d, .int (Int32.ofNat B.slots.size)])) := c1.trans (by
    refine XS.iloadN X0.here hexec rfl (hb hbytes d0) rfl ?_
    refine XS.aloadN X0.here hexec rfl (hb hbytes d1) rfl rfl ?_
    exact Steps.refl _)
  have c3 : Steps p.tables e below (s₁.setTop (entryFrame m #[.ref d, .int (Int32.ofNat B.slots.size)] 2)) (s₁.setTop (mkF m 8 #[.val (.ref d), .val (.int (Int32.ofNat B.slots.size))] [.int (lo8 (ushr (Int32.ofNat B.slots.size - Int32.ofNat B.slots.size) 31))])) := c2.trans (by
    refine X0.alen hexec hB0 rfl rfl (hb hbytes d2) ?_
    refine XS.isub X0.here hexec rfl (hb hbytes d3) rfl ?_
    refine bipushV X0.here hexec rfl 31 (hb hbytes d4) (by decide) ?_
    refine iushr X0.here hexec rfl (hb hbytes d6) rfl ?_
    refine i2b X0.here hexec rfl (hb hbytes d7) rfl ?_
    exact Steps.refl _)
  have e0 : lo8 (ushr (Int32.ofNat B.slots.size - Int32.ofNat B.slots.size) 31) = 0 := by rw [Int32.sub_self]; decide
  rw [e0] at c3
  exact ⟨s₁, some (.int 0), _, _, _, X0, rfl, rfl, rfl, (fun h => by cases h), ⟨rfl, hh0⟩, fun fs hl => c3.trans (X0.ireturnOut hexec hret rfl (Or.inr (Or.inr (Or.inl rfl))) (hb hbytes d8) hl)⟩
end CodL
/-- the String at a is Latin-1 over a new byte[] (the heap's one new cell): the low bytes of the len chars of A from o on; every cell but a is kept -/
def Got (a : Addr) (D : Cell) (fV fC : Field) (A : Cell) (o len : Nat) (r : Option Value) (s u : State) : Prop := r = none ∧ ∃ D' V : Cell, Blank "java/lang/String" a D' u ∧ Same D D' [fV.slot, fC.slot] ∧ D'.slots[fV.slot]? = some (.ref s.heap.size) ∧ D'.slots[fC.slot]? = some (.int 0) ∧ Arr .byte s.heap.size V u ∧ V.vm = .none ∧ u.vm.findClass "[B" = some V.cls ∧ V.slots.size = len ∧ (∀ j, j < len → V.slots[j]? = some (.int (lo8 (cv A (o + j))))) ∧ (∀ (y : Addr) (c : Cell), y ≠ a → s.heap[y]? = some c → u.heap[y]? = some c) ∧ u.heap.size = s.heap.size + 1
theorem Got.mv {a : Addr} {D A : Cell} {fV fC : Field} {o len : Nat} : ∀ r (U U' V V' : State), U'.heap = U.heap → V.vm.Alike V'.vm → V'.heap = V.heap → Got a D fV fC A o len r U V → Got a D fV fC A o len r U' V' :=
  fun r U U' V V' h1 hal h2 ⟨e0, D', X, a1, a2, a3, a4, a5, a6, a7, a8, a9, a10, a11⟩ => ⟨e0, D', X, a1.mv hal h2, a2, by rw [h1]; exact a3, a4, by rw [h1]; exact a5.mv hal h2, a6, by rw [hal.findClass]; exact a7, a8, a9, by rw [h1, h2]; exact a10, by rw [h1, h2]; exact a11⟩
namespace New4
def yN : MethodName := ⟨"java/lang/String", "<init>", "([CIILjava/lang/Void;)V"⟩
abbrev yB : ByteArray := jdk_42_method_149_code
theorem d0 : decode yB 0 = .ok (.aload_n 0, 1) := by decide +kernel
theorem d1 : decode yB 1 = .ok (.invokespecial 1, 3) := by decide +kernel
theorem d4 : decode yB 4 = .ok (.iload_n 3, 1) := by decide +kernel
theorem d5 : decode yB 5 = .ok (.ifCond (.ne) 22, 3) := by decide +kernel
theorem d27 : decode yB 27 = .ok (.getstatic 38, 3) := by decide +kernel
theorem d30 : decode yB 30 = .ok (.ifCond (.eq) 28, 3) := by decide +kernel
theorem d33 : decode yB 33 = .ok (.aload_n 1, 1) := by decide +kernel
theorem d34 : decode yB 34 = .ok (.iload_n 2, 1) := by decide +kernel
theorem d35 : decode yB 35 = .ok (.iload_n 3, 1) := by decide +kernel
theorem d36 : decode yB 36 = .ok (.invokestatic 177, 3) := by decide +kernel
theorem d39 : decode yB 39 = .ok (.astore 5, 2) := by decide +kernel
theorem d41 : decode yB 41 = .ok (.aload_n 0, 1) := by decide +kernel
theorem d42 : decode yB 42 = .ok (.aload 5, 2) := by decide +kernel
theorem d44 : decode yB 44 = .ok (.iload_n 3, 1) := by decide +kernel
theorem d45 : decode yB 45 = .ok (.invokestatic 47, 3) := by decide +kernel
theorem d48 : decode yB 48 = .ok (.putfield 15, 3) := by decide +kernel
theorem d51 : decode yB 51 = .ok (.aload_n 0, 1) := by decide +kernel
theorem d52 : decode yB 52 = .ok (.aload 5, 2) := by decide +kernel
theorem d54 : decode yB 54 = .ok (.putfield 9, 3) := by decide +kernel
theorem d57 : decode yB 57 = .ok (.return_, 1) := by decide +kernel
def site : List Cond := [.fieldLink "java/lang/String" 38 "java/lang/String" "COMPACT_STRINGS" "Z", Cmp3.tab, CodL.tab, .laysFinal "java/lang/String" "java/lang/String" "value" "[B", .fieldLink "java/lang/String" 9 "java/lang/String" "value" "[B", .laysFinal "java/lang/String" "java/lang/String" "coder" "B", .fieldLink "java/lang/String" 15 "java/lang/String" "coder" "B"] ++ objW "java/lang/String" 1 ++ staticW "java/lang/String" 177 Cmp3.yN ++ staticW "java/lang/String" 47 CodL.yN
def tab : Cond := tabOf yN yB 6 none site
def P (a : Addr) (D : Cell) (fV fC : Field) (b : Addr) (A : Cell) (z : Int32) (o len : Nat) (args : Array Value) (s : State) : Prop := args = #[.ref a, .ref b, .int (Int32.ofNat o), .int (Int32.ofNat len), .null] ∧ Blank "java/lang/String" a D s ∧ Found "java/lang/String" "value" "[B" fV s ∧ Found "java/lang/String" "coder" "B" fC s ∧ Ch b A s ∧ StaticIs s "java/lang/String" "COMPACT_STRINGS" "Z" (.int z) ∧ ¬ z = 0 ∧ 0 < len ∧ o + len ≤ A.slots.size ∧ len ≤ 536870912 ∧ ∀ i, i < len → ¬ 255 < cv A (o + i)
def E (a : Addr) (D : Cell) (fV fC : Field) (A : Cell) (o len : Nat) (r : Option Value) (s u : State) : Prop := Got a D fV fC A o len r s u
/-- len > 0, no char of the range above 255: a Latin-1 String of their low bytes -/
theorem law (l : Launch) (a : Addr) (D : Cell) (fV fC : Field) (b : Addr) (A : Cell) (z : Int32) (o len : Nat) : Law l yN 5 4 2 35 yB 6 none site (P a D fV fC b A z o len) (E a D fV fC A o len) [⟨a, fC.slot⟩, ⟨a, fV.slot⟩] 1 len := by
  refine Law.of_walk (plainFor_of_name (by decide +kernel)) (by decide +kernel) (by decide +kernel) (by decide) (fun _ _ h => by rw [h.1]; rfl) (fun _ U U' hal hh h => ⟨h.1, h.2.1.mv hal hh, h.2.2.1.al hal, h.2.2.2.1.al hal, h.2.2.2.2.1.mv hal hh, h.2.2.2.2.2.1.there hal hh, h.2.2.2.2.2.2⟩) (fun r U U' V V' h1 hal h2 h => Got.mv r U U' V V' h1 hal h2 h) ?_
  intro p e s m args below meth c s₁ X0 hexec hbytes hml hret hlk hnm hown hh0 W hP
  obtain ⟨rfl, hB, f1, f2, hA, s1, hz, l0, l1, l2, hp⟩ := hP
  have a31 := hA.1.2.2.2
  have c1 : Steps p.tables e below (s₁.setTop (entryFrame m #[.ref a, .ref b, .int (Int32.ofNat o), .int (Int32.ofNat len), .null] 6)) (s₁.setTop (mkF m 0 #[.val (.ref a), .val (.ref b), .val (.int (Int32.ofNat o)), .val (.int (Int32.ofNat len)), .val .null, .unset] [])) := entry rfl
  have c2 : Steps p.tables e below (s₁.setTop (entryFrame m #[.ref a, .ref b, .int (Int32.ofNat o), .int (Int32.ofNat len), .null] 6)) (s₁.setTop (mkF m 1 #[.val (.ref a), .val (.ref b), .val (.int (Int32.ofNat o)), .val (.int (Int32.ofNat len)), .val .null, .unset] [.ref a])) := c1.trans (by
    refine XS.aloadN X0.here hexec rfl (hb hbytes d0) rfl rfl ?_
    exact Steps.refl _)
  obtain ⟨T3, X3, q3, st3⟩ := X0.oinit hexec hown (wks W (objW "java/lang/String" 1)) (g := (mkF m 1 #[.val (.ref a), .val (.ref b), .val (.int (Int32.ofNat o)), .val (.int (Int32.ofNat len)), .val .null, .unset] [.ref a])) rfl (by rw [hml]; rfl) (rest := []) rfl (hb hbytes d1) (W := 0) (by show 2 * 0 + 0 ≤ _; decide) (Nat.le_of_ble_eq_true rfl) (Nat.le_of_ble_eq_true rfl)
  have hh3 := q3.trans hh0
  have c4 : Steps p.tables e below (s₁.setTop (entryFrame m #[.ref a, .ref b, .int (Int32.ofNat o), .int (Int32.ofNat len), .null] 6)) (T3.setTop (mkF m 27 #[.val (.ref a), .val (.ref b), .val (.int (Int32.ofNat o)), .val (.int (Int32.ofNat len)), .val .null, .unset] [])) := (c2.trans (st3 _ (Steps.refl _))).trans (by
    refine XS.iloadN X3.here hexec rfl (hb hbytes d4) rfl ?_
    refine XS.ifYes X3.here hexec rfl (pc0 := 5) rfl (hb hbytes d5) rfl (i0_ne_t (nz32 (by omega) l0)) (by decide) rfl ?_
    exact Steps.refl _)
  obtain ⟨T5, X5, q5, st5⟩ := X3.sget hexec hown (wk W (.fieldLink "java/lang/String" 38 "java/lang/String" "COMPACT_STRINGS" "Z")) s1 (fun _ _ h => by rw [hh3]; exact h) (g := (mkF m 27 #[.val (.ref a), .val (.ref b), .val (.int (Int32.ofNat o)), .val (.int (Int32.ofNat len)), .val .null, .unset] [])) rfl (hb hbytes d27)
  have hh5 := q5.trans hh3
  have c6 : Steps p.tables e below (s₁.setTop (entryFrame m #[.ref a, .ref b, .int (Int32.ofNat o), .int (Int32.ofNat len), .null] 6)) (T5.setTop (mkF m 30 #[.val (.ref a), .val (.ref b), .val (.int (Int32.ofNat o)), .val (.int (Int32.ofNat len)), .val .null, .unset] [.int z])) := c4.trans (st5 _ (Steps.refl _))
  have c7 : Steps p.tables e below (s₁.setTop (entryFrame m #[.ref a, .ref b, .int (Int32.ofNat o), .int (Int32.ofNat len), .null] 6)) (T5.setTop (mkF m 36 #[.val (.ref a), .val (.ref b), .val (.int (Int32.ofNat o)), .val (.int (Int32.ofNat len)), .val .null, .unset] [.int (Int32.ofNat len), .int (Int32.ofNat o), .ref b])) := c6.trans (by
    refine XS.ifNo X5.here hexec rfl (hb hbytes d30) rfl (i0_eq_f hz) ?_
    refine XS.aloadN X5.here hexec rfl (hb hbytes d33) rfl rfl ?_
    refine XS.iloadN X5.here hexec rfl (hb hbytes d34) rfl ?_
    refine XS.iloadN X5.here hexec rfl (hb hbytes d35) rfl ?_
    exact Steps.refl _)
  obtain ⟨v8, T8, X8, E8, g8⟩ := X5.callS hexec (Cmp3.law l b A o len) hown (wks W (staticW "java/lang/String" 177 Cmp3.yN)) (wk W Cmp3.tab) (W := 0) (Nat.le_of_ble_eq_true rfl) (Nat.le_of_ble_eq_true rfl) (Nat.le_refl _) (by show 0 + len ≤ len; omega) (g := (mkF m 36 #[.val (.ref a), .val (.ref b), .val (.int (Int32.ofNat o)), .val (.int (Int32.ofNat len)), .val .null, .unset] [.int (Int32.ofNat len), .int (Int32.ofNat o), .ref b])) rfl (by rw [hml]; rfl) c7 (argsL := [.ref b, .int (Int32.ofNat o), .int (Int32.ofNat len)]) (rest := []) rfl rfl (by show 2 * 0 + 0 ≤ _; decide) (hb hbytes d36) (⟨rfl, hA.mv X5.warmed.alike hh5, l1, l2, hp⟩)
  obtain ⟨e8, z8⟩ := E8
  obtain ⟨rfl, N, n1, n2, n3, n4, n5, n6⟩ := NewArr.mv _ T5 s _ _ hh5.symm (Vm.Alike.refl _) rfl e8
  rw [hh5] at z8
  have hB1 := hB.keep X8.warmed.alike (n6 _ _ hB.1)
  have hne : s.heap.size ≠ a := (Nat.ne_of_lt (Array.getElem?_eq_some_iff.mp hB.1).1).symm
  have c9 : Steps p.tables e below (s₁.setTop (entryFrame m #[.ref a, .ref b, .int (Int32.ofNat o), .int (Int32.ofNat len), .null] 6)) (T8.setTop (mkF m 39 #[.val (.ref a), .val (.ref b), .val (.int (Int32.ofNat o)), .val (.int (Int32.ofNat len)), .val .null, .unset] [.ref s.heap.size])) := g8
  have c10 : Steps p.tables e below (s₁.setTop (entryFrame m #[.ref a, .ref b, .int (Int32.ofNat o), .int (Int32.ofNat len), .null] 6)) (T8.setTop (mkF m 45 #[.val (.ref a), .val (.ref b), .val (.int (Int32.ofNat o)), .val (.int (Int32.ofNat len)), .val .null, .val (.ref s.heap.size)] [.int (Int32.ofNat N.slots.size), .ref s.heap.size, .ref a])) := by
    have hc : Steps p.tables e below (s₁.setTop (entryFrame m #[.ref a, .ref b, .int (Int32.ofNat o), .int (Int32.ofNat len), .null] 6)) (T8.setTop (mkF m 45 #[.val (.ref a), .val (.ref b), .val (.int (Int32.ofNat o)), .val (.int (Int32.ofNat len)), .val .null, .val (.ref s.heap.size)] [.int (Int32.ofNat len), .ref s.heap.size, .ref a])) := c9.trans (by
      refine XS.astore X8.here hexec rfl (hb hbytes d39) rfl rfl rfl ?_
      refine XS.aloadN X8.here hexec rfl (hb hbytes d41) rfl rfl ?_
      refine XS.aload X8.here hexec rfl (hb hbytes d42) rfl rfl ?_
      refine XS.iloadN X8.here hexec rfl (hb hbytes d44) rfl ?_
      exact Steps.refl _)
    rw [n4]; exact hc
  obtain ⟨v11, T11, X11, E11, g11⟩ := X8.callS hexec (CodL.law l s.heap.size N) hown (wks W (staticW "java/lang/String" 47 CodL.yN)) (wk W CodL.tab) (W := 1) (Nat.le_of_ble_eq_true rfl) (Nat.le_of_ble_eq_true rfl) (Nat.le_refl _) (by show 0 + len + 0 ≤ len; omega) (g := (mkF m 45 #[.val (.ref a), .val (.ref b), .val (.int (Int32.ofNat o)), .val (.int (Int32.ofNat len)), .val .null, .val (.ref s.heap.size)] [.int (Int32.ofNat N.slots.size), .ref s.heap.size, .ref a])) rfl (by rw [hml]; rfl) c10 (argsL := [.ref s.heap.size, .int (Int32.ofNat N.slots.size)]) (rest := [.ref a]) rfl rfl (by show 2 * 0 + (1 + 0) ≤ _; decide) (hb hbytes d45) (⟨rfl, n1⟩)
  obtain ⟨rfl, q11⟩ := E11
  have hB11 := hB1.mv (X8.warmed.alike.symm.trans X11.warmed.alike) q11
  have c12 : Steps p.tables e below (s₁.setTop (entryFrame m #[.ref a, .ref b, .int (Int32.ofNat o), .int (Int32.ofNat len), .null] 6)) (T11.setTop (mkF m 48 #[.val (.ref a), .val (.ref b), .val (.int (Int32.ofNat o)), .val (.int (Int32.ofNat len)), .val .null, .val (.ref s.heap.size)] [.int 0, .ref a])) := g11
  obtain ⟨T13, X13, p13, bl13, sl13, st13⟩ := X11.finit hexec hown (wk W (.fieldLink "java/lang/String" 15 "java/lang/String" "coder" "B")) (Or.inr ⟨_, (wk W (.laysFinal "java/lang/String" "java/lang/String" "coder" "B"))⟩) (Or.inl ⟨rfl, hnm⟩) f2 (Or.inl rfl) hB11 (t := .byte) (by decide +kernel) rfl (g := (mkF m 48 #[.val (.ref a), .val (.ref b), .val (.int (Int32.ofNat o)), .val (.int (Int32.ofNat len)), .val .null, .val (.ref s.heap.size)] [.int 0, .ref a])) rfl (rest := []) rfl (hb hbytes d48)
  have c14 : Steps p.tables e below (s₁.setTop (entryFrame m #[.ref a, .ref b, .int (Int32.ofNat o), .int (Int32.ofNat len), .null] 6)) (T13.setTop (mkF m 54 #[.val (.ref a), .val (.ref b), .val (.int (Int32.ofNat o)), .val (.int (Int32.ofNat len)), .val .null, .val (.ref s.heap.size)] [.ref s.heap.size, .ref a])) := (c12.trans (st13 _ (Steps.refl _))).trans (by
    refine XS.aloadN X13.here hexec rfl (hb hbytes d51) rfl rfl ?_
    refine XS.aload X13.here hexec rfl (hb hbytes d52) rfl rfl ?_
    exact Steps.refl _)
  obtain ⟨T15, X15, p15, bl15, sl15, st15⟩ := X13.finit hexec hown (wk W (.fieldLink "java/lang/String" 9 "java/lang/String" "value" "[B")) (Or.inr ⟨_, (wk W (.laysFinal "java/lang/String" "java/lang/String" "value" "[B"))⟩) (Or.inl ⟨rfl, hnm⟩) f1 (Or.inl rfl) bl13 (t := (.array .byte)) (by decide +kernel) rfl (g := (mkF m 54 #[.val (.ref a), .val (.ref b), .val (.int (Int32.ofNat o)), .val (.int (Int32.ofNat len)), .val .null, .val (.ref s.heap.size)] [.ref s.heap.size, .ref a])) rfl (rest := []) rfl (hb hbytes d54)
  have c16 : Steps p.tables e below (s₁.setTop (entryFrame m #[.ref a, .ref b, .int (Int32.ofNat o), .int (Int32.ofNat len), .null] 6)) (T15.setTop (mkF m 57 #[.val (.ref a), .val (.ref b), .val (.int (Int32.ofNat o)), .val (.int (Int32.ofNat len)), .val .null, .val (.ref s.heap.size)] [])) := c14.trans (st15 _ (Steps.refl _))
  have ap := apart (Or.inr ⟨_, (wk W (.laysFinal "java/lang/String" "java/lang/String" "value" "[B"))⟩) (Or.inr ⟨_, (wk W (.laysFinal "java/lang/String" "java/lang/String" "coder" "B"))⟩) f1 f2 (t₁ := .array .byte) (t₂ := .byte) (by decide +kernel) (by decide +kernel) (by decide)
  have al := X8.warmed.alike.symm.trans X15.warmed.alike
  have n7 : T11.heap[s.heap.size]? = some N := by rw [q11]; exact n1.1
  exact ⟨T15, none, _, _, _, X15, by simp, rfl, by omega, (fun _ => rfl), ⟨rfl, _, N, bl15, ((Same.refl D _).set _ (by simp)).set _ (by simp), sl15, (Cell.slots_setSlot_ne _ ap).trans sl13, n1.keep al (p15.other hne (p13.other hne n7)), n2, by rw [al.findClass]; exact n3, n4, n5, fun y c h1 h2 => p15.other h1 (p13.other h1 (by rw [q11]; exact n6 y c h2)), by rw [p15.2.2, p13.2.2, q11]; exact z8⟩, fun fs hl => c16.trans (X15.returnOut hexec hret (hb hbytes d57) hl)⟩
end New4
namespace New1
def yN : MethodName := ⟨"java/lang/String", "<init>", "([C)V"⟩
abbrev yB : ByteArray := jdk_42_method_3_code
theorem d0 : decode yB 0 = .ok (.aload_n 0, 1) := by decide +kernel
theorem d1 : decode yB 1 = .ok (.aload_n 1, 1) := by decide +kernel
theorem d2 : decode yB 2 = .ok (.iconst 0, 1) := by decide +kernel
theorem d3 : decode yB 3 = .ok (.aload_n 1, 1) := by decide +kernel
theorem d4 : decode yB 4 = .ok (.arraylength, 1) := by decide +kernel
theorem d5 : decode yB 5 = .ok (.aconst_null, 1) := by decide +kernel
theorem d6 : decode yB 6 = .ok (.invokespecial 27, 3) := by decide +kernel
theorem d9 : decode yB 9 = .ok (.return_, 1) := by decide +kernel
def site : List Cond := [New4.tab] ++ initW "java/lang/String" 27 New4.yN
def tab : Cond := tabOf yN yB 2 none site
def P (a : Addr) (D : Cell) (fV fC : Field) (b : Addr) (A : Cell) (z : Int32) (args : Array Value) (s : State) : Prop := args = #[.ref a, .ref b] ∧ Blank "java/lang/String" a D s ∧ Found "java/lang/String" "value" "[B" fV s ∧ Found "java/lang/String" "coder" "B" fC s ∧ Ch b A s ∧ StaticIs s "java/lang/String" "COMPACT_STRINGS" "Z" (.int z) ∧ ¬ z = 0 ∧ 0 < A.slots.size ∧ A.slots.size ≤ 536870912 ∧ ∀ i, i < A.slots.size → ¬ 255 < cv A i
def E (a : Addr) (D : Cell) (fV fC : Field) (A : Cell) (r : Option Value) (s u : State) : Prop := Got a D fV fC A 0 A.slots.size r s u
/-- new String(chars), not empty, no char above 255: a Latin-1 String of their low bytes -/
theorem law (l : Launch) (a : Addr) (D : Cell) (fV fC : Field) (b : Addr) (A : Cell) (z : Int32) : Law l yN 2 1 3 52 yB 2 none site (P a D fV fC b A z) (E a D fV fC A) [⟨a, fC.slot⟩, ⟨a, fV.slot⟩] 1 A.slots.size := by
  refine Law.of_walk (plainFor_of_name (by decide +kernel)) (by decide +kernel) (by decide +kernel) (by decide) (fun _ _ h => by rw [h.1]; rfl) (fun _ U U' hal hh h => ⟨h.1, h.2.1.mv hal hh, h.2.2.1.al hal, h.2.2.2.1.al hal, h.2.2.2.2.1.mv hal hh, h.2.2.2.2.2.1.there hal hh, h.2.2.2.2.2.2⟩) (fun r U U' V V' h1 hal h2 h => Got.mv r U U' V V' h1 hal h2 h) ?_
  intro p e s m args below meth c s₁ X0 hexec hbytes hml hret hlk hnm hown hh0 W hP
  obtain ⟨rfl, hB, f1, f2, hA, s1, hz, l0, l2, hp⟩ := hP
  have c1 : Steps p.tables e below (s₁.setTop (entryFrame m #[.ref a, .ref b] 2)) (s₁.setTop (mkF m 0 #[.val (.ref a), .val (.ref b)] [])) := entry rfl
  have c2 : Steps p.tables e below (s₁.setTop (entryFrame m #[.ref a, .ref b] 2)) (s₁.setTop (mkF m 6 #[.val (.ref a), .val (.ref b)] [.null, .int (Int32.ofNat A.slots.size), .int 0, .ref b, .ref a])) := c1.trans (by
    refine XS.aloadN X0.here hexec rfl (hb hbytes d0) rfl rfl ?_
    refine XS.aloadN X0.here hexec rfl (hb hbytes d1) rfl rfl ?_
    refine iconstV X0.here hexec rfl 0 (hb hbytes d2) (by decide) ?_
    refine XS.aloadN X0.here hexec rfl (hb hbytes d3) rfl rfl ?_
    refine X0.alen hexec (hA.1.mv X0.warmed.alike hh0) rfl rfl (hb hbytes d4) ?_
    refine XS.aconstNull X0.here hexec rfl (hb hbytes d5) ?_
    exact Steps.refl _)
  obtain ⟨v3, T3, X3, E3, g3⟩ := X0.callN hexec (New4.law l a D fV fC b A z 0 A.slots.size) rfl hown (wks W (initW "java/lang/String" 27 New4.yN)) (W New4.tab (by simp only [site, List.mem_cons, List.mem_append, true_or, or_true])) (W := 0) (Nat.le_of_ble_eq_true rfl) (Nat.le_of_ble_eq_true rfl) (Nat.le_refl _) (by show 0 + A.slots.size ≤ A.slots.size; omega) (g := (mkF m 6 #[.val (.ref a), .val (.ref b)] [.null, .int (Int32.ofNat A.slots.size), .int (Int32.ofNat 0), .ref b, .ref a])) rfl (by rw [hml]; rfl) c2 (argsL := [.ref b, .int (Int32.ofNat 0), .int (Int32.ofNat A.slots.size), .null]) (rest := []) rfl rfl (by show 2 * 0 + 0 ≤ _; decide) (hb hbytes d6) (⟨rfl, hB.mv X0.warmed.alike hh0, f1.al X0.warmed.alike, f2.al X0.warmed.alike, hA.mv X0.warmed.alike hh0, s1.there X0.warmed.alike hh0, hz, l0, by omega, l2, fun i hi => by rw [Nat.zero_add]; exact hp i hi⟩)
  have e0 := Got.mv _ s₁ s _ _ hh0.symm (Vm.Alike.refl _) rfl E3
  obtain rfl := e0.1
  have c4 : Steps p.tables e below (s₁.setTop (entryFrame m #[.ref a, .ref b] 2)) (T3.setTop (mkF m 9 #[.val (.ref a), .val (.ref b)] [])) := g3
  exact ⟨T3, none, _, _, _, X3, by simp, rfl, by omega, (fun _ => rfl), e0, fun fs hl => c4.trans (X3.returnOut hexec hret (hb hbytes d9) hl)⟩
theorem pays {l : Launch} {R : Room} {p : Program} {e : Env} {below : List Frame} {s : State} {sargs : Array Value} {len W : Nat} (a : Addr) (D : Cell) (fV fC : Field) (b : Addr) (A : Cell) (z : Int32) (htab : tab.before sargs s = true) (hfr : 4 ≤ R.frames) (hlo : W + 65 ≤ R.locals) :
    Back l R p e below s sargs yN len W (fun A₁ a₁ => A₁.cells + 1 ≤ R.cells ∧ A₁.slots + A.slots.size ≤ R.slots ∧ P a D fV fC b A z a₁ A₁.U) (fun A₁ _ v₁ B₁ => E a D fV fC A v₁ A₁.U B₁.U ∧ B₁.locs = A₁.locs ++ [⟨a, fC.slot⟩, ⟨a, fV.slot⟩] ∧ B₁.cells = A₁.cells + 1 ∧ B₁.slots = A₁.slots + A.slots.size) :=
  (law l a D fV fC b A z).pays htab hfr (by omega)
end New1
/-- the byte, read back as charAt reads it, is the char -/
theorem lo8_mask {x : Int32} (h0 : ¬ x < 0) (h1 : ¬ 255 < x) : lo8 x &&& 255 = x := by
  have t : ∀ k : Fin 256, lo8 (Int32.ofNat k.val) &&& 255 = Int32.ofNat k.val := by decide +kernel
  rw [Int32.lt_iff_toInt_lt] at h0 h1
  have e0 : (0 : Int32).toInt = 0 := rfl
  have e1 : (255 : Int32).toInt = 255 := rfl
  obtain ⟨k, hk⟩ : ∃ k : Nat, x.toInt = k := ⟨x.toInt.toNat, by omega⟩
  have hx : x = Int32.ofNat k := Int32.toInt_inj.mp (by rw [hk, Int32.toInt_ofNat_small (by omega)])
  rw [hx]
  exact t ⟨k, by omega⟩
end StrChars
namespace StrChars.Road
open Jvm Sem ClassFile Op Lib Jvm.Stand Jvm.Free Jvm.Free.XT
open Jvm.Lib.Cold (StaticIs)
abbrev ST : String := "java/lang/String"
/-- every table word that New1's law asks, flat -/
abbrev words : List Jvm.Cond := [.code New1.yN New1.yB 2 none, .initialized ST, .methodLink ST 27 New4.yN, .instanceMethod New4.yN,
  .code New4.yN New4.yB 6 none, .fieldLink ST 38 ST "COMPACT_STRINGS" "Z", .laysFinal ST ST "value" "[B", .fieldLink ST 9 ST "value" "[B", .laysFinal ST ST "coder" "B", .fieldLink ST 15 ST "coder" "B",
  .methodLink ST 1 Lib.objectInit, .instanceMethod Lib.objectInit, .code Lib.objectInit ⟨#[0xb1]⟩ 1 none, .methodLink ST 177 Cmp3.yN, .static Cmp3.yN, .methodLink ST 47 CodL.yN, .static CodL.yN,
  .code Cmp3.yN Cmp3.yB 6 (some (.array .byte)), .initialized U16, .arrayClass .byte, .methodLink U16 115 Cmp5.yN, .static Cmp5.yN, .code Cmp5.yN Cmp5.yB 7 (some .int), .code CodL.yN CodL.yB 2 (some .byte)]
theorem tab_of {a : Array Value} {s : State} (h : ∀ w ∈ words, w.before a s = true) : New1.tab.before a s = true := by
  have h5 : Cmp5.tab.before a s = true := unparts (wk h (.code Cmp5.yN Cmp5.yB 7 (some .int))) (wks h (.initialized Cmp5.yN.cls :: Cmp5.site))
  have hc : CodL.tab.before a s = true := unparts (wk h (.code CodL.yN CodL.yB 2 (some .byte))) (wks h (.initialized CodL.yN.cls :: CodL.site))
  have q5 : ∀ w ∈ Cmp5.tab :: words, w.before a s = true := fun w hw => (List.mem_cons.mp hw).elim (fun e => e ▸ h5) (h w)
  have h3 : Cmp3.tab.before a s = true := unparts (wk q5 (.code Cmp3.yN Cmp3.yB 6 (some (.array .byte)))) (wks q5 (.initialized Cmp3.yN.cls :: Cmp3.site))
  have q3 : ∀ w ∈ Cmp3.tab :: CodL.tab :: words, w.before a s = true := fun w hw => (List.mem_cons.mp hw).elim (fun e => e ▸ h3) fun hw => (List.mem_cons.mp hw).elim (fun e => e ▸ hc) (h w)
  have h4 : New4.tab.before a s = true := unparts (wk q3 (.code New4.yN New4.yB 6 none)) (wks q3 (.initialized New4.yN.cls :: New4.site))
  have q4 : ∀ w ∈ New4.tab :: words, w.before a s = true := fun w hw => (List.mem_cons.mp hw).elim (fun e => e ▸ h4) (h w)
  exact unparts (wk q4 (.code New1.yN New1.yB 2 none)) (wks q4 (.initialized New1.yN.cls :: New1.site))
/-- the words ride from the start Z to the walk's own state -/
theorem moved {Z s : State} {a0 args : Array Value} (hZ : Z.Warmed39 s.vm) (hw : ∀ d ∈ words, d.before a0 Z = true) : ∀ d ∈ words, d.before args s = true := fun d hd => by
  have q := hw d hd
  have t : ∀ d ∈ words, d = .arrayClass .byte ∨ (d.onTables && d.keepsFace) = true := by decide +kernel
  rcases t d hd with rfl | t
  · exact RoadKit.mvA hZ q
  · exact RoadKit.mv hZ q t
/-- WHAT COMES BACK, over the tables of the start Z: h the heap at the call, h' behind it -/
def Q (Z : State) (x : Addr) (A : Cell) (h : Heap) (v : Option Value) (h' : Heap) (L : List Loc) : Prop := v = none ∧ (∀ y ∈ L, y.base = x) ∧ RoadKit.Keep h h' [x] ∧ h'.size = h.size + 1 ∧ RoadKit.Exa Z h' x ST ∧ RoadKit.Fld Z h' x ST "value" "[B" (.ref h.size) ∧ RoadKit.Fld Z h' x ST "coder" "B" (.int 0) ∧
  (∃ V : Cell, RoadKit.Arr Z h' h.size V .byte ∧ V.vm = .none ∧ Z.vm.findClass "[B" = some V.cls ∧ V.slots.size = A.slots.size ∧ ∀ j, j < A.slots.size → V.slots[j]? = some (.int (lo8 (cv A j)))) ∧
  ∀ (O n d : String) (w : Value), RoadKit.Fld Z h x O n d w → RoadKit.slotOf Z O n d ≠ RoadKit.slotOf Z ST "value" "[B" → RoadKit.slotOf Z O n d ≠ RoadKit.slotOf Z ST "coder" "B" → RoadKit.Fld Z h' x O n d w
/-- **new String(chars) AT A CALL, IN THE ROAD'S FORM**: for specialBack behind newO: x the fresh String, b the char[] with the cell A -/
theorem back {p : Program} {l : Launch} {e : Env} {R : Room} {s : State} {args : Array Value} {below : List Frame} {len W : Nat} {Z : State} {a0 : Array Value} {h : Heap} (hZ : Z.Warmed39 s.vm) (hw : ∀ d ∈ words, d.before a0 Z = true) {kI : Nat} (wi : (Jvm.Cond.instantiable ST kI).before a0 Z = true)
    {x b : Addr} {A : Cell} {z : Int32} {v0 c0 : Value} (E : RoadKit.Exa Z h x ST) (V : RoadKit.Fld Z h x ST "value" "[B" v0) (C : RoadKit.Fld Z h x ST "coder" "B" c0) (K : RoadKit.Arr Z h b A .char) (hty : Typed .char A) (S : RoadKit.Sta Z h ST "COMPACT_STRINGS" "Z" (.int z)) (hz : ¬ z = 0)
    (l0 : 0 < A.slots.size) (l2 : A.slots.size ≤ 536870912) (hp : ∀ i, i < A.slots.size → ¬ 255 < cv A i) (hfr : 4 ≤ R.frames) (hlo : W + 65 ≤ R.locals) :
    Back l R p e below s args New1.yN len W (fun P a => a = #[.ref x, .ref b] ∧ P.U.heap = h ∧ P.cells + 1 ≤ R.cells ∧ P.slots + A.slots.size ≤ R.slots)
      (fun P _ v B => ∃ L, Q Z x A h v B.U.heap L ∧ B.locs = P.locs ++ L ∧ B.cells = P.cells + 1 ∧ B.slots = P.slots + A.slots.size) := by
  intro m meth c P g ig mk a X hg hsize hdg hW hn hp'
  obtain ⟨rfl, rfl, r1, r2⟩ := hp'
  have al : Z.vm.Alike P.U.vm := hZ.alike.trans X.warmed.alike
  obtain ⟨D, cfV, kV, iV, fV, hD, gV, stV, knV, obV, asV, slV⟩ := id V
  obtain ⟨D', cfC, kC, iC, fC, hD', gC, stC, -, -, asC, slC⟩ := id C
  cases hD.symm.trans hD'
  obtain ⟨D2, kD, e1, e2, e3, e4, e5⟩ := id E
  cases hD.symm.trans e1
  obtain ⟨c2, k2, i1, i2, i3, -⟩ := Cond.instantiable_spec wi
  cases e2.symm.trans i1
  cases e3.symm.trans i2
  obtain ⟨kU, u1, u2⟩ := al.2.2 _ _ e3
  have hB : Blank ST x D P.U := ⟨hD, ⟨knV, fun q hq => by rw [hq] at obV; cases obV⟩, by rw [al.findClass]; exact e2, kU, u1, by rw [u2]; exact i3, by rw [u2]; exact e5 i3⟩
  have F1 : Found ST "value" "[B" fV P.U := ⟨SBG.found_only al ⟨cfV, kV, iV, gV⟩, stV⟩
  have F2 : Found ST "coder" "B" fC P.U := ⟨SBG.found_only al ⟨cfC, kC, iC, gC⟩, stC⟩
  have hA : Ch b A P.U := ⟨⟨K.1, State.isArrayOf_alike al K.2.1, K.2.2, by omega⟩, hty⟩
  have hS : StaticIs P.U ST "COMPACT_STRINGS" "Z" (.int z) := by
    obtain ⟨cfS, iS, kS, fS, st, cS, t1, t2, t3, t4, t5, t6, t7⟩ := S
    exact StaticIs.there (s := { Z with heap := P.U.heap }) ⟨cfS, iS, kS, fS, st, cS, t1, t2, t3, t4, t5, (fun q => by rw [q] at t6; cases t6), t7⟩ al rfl
  obtain ⟨v, B, X', ⟨⟨hv, E', V', q1, q2, q3, q4, q5, q6, q7, q8, q9, q10, q11⟩, hl, hc, hs⟩, st⟩ := New1.pays x D fV fC b A z (tab_of (moved hZ hw)) hfr hlo m meth c P g ig mk _ X hg hsize hdg hW hn ⟨r1, r2, rfl, hB, F1, F2, hA, hS, hz, l0, l2, hp⟩
  have al' : Z.vm.Alike B.U.vm := hZ.alike.trans X'.warmed.alike
  have hsz : E'.slots.size = D.slots.size := by
    obtain ⟨-, -, -, kB, w1, w2, w3⟩ := q1
    obtain ⟨kB', y1, y2⟩ := al'.2.2 _ _ e3
    rw [q2.2.1] at w1
    cases w1.symm.trans y1
    rw [w3, e5 i3, y2]
  refine ⟨v, B, X', ⟨_, ⟨hv, ?_, ⟨by omega, fun y cy hy hn' => q10 y cy (by simpa using hn') hy, fun y cy hy => ?_⟩, q11, ⟨E', _, q1.1, by rw [q2.2.1]; exact e2, by rw [q2.2.1]; exact e3, by rw [q2.1]; exact obV, fun _ => by rw [hsz]; exact e5 i3⟩,
    ⟨E', cfV, kV, iV, fV, q1.1, gV, stV, by rw [q2.1]; exact knV, by rw [q2.1]; exact obV, by rw [q2.2.1]; exact asV, q3⟩, ⟨E', cfC, kC, iC, fC, q1.1, gC, stC, by rw [q2.1]; exact knV, by rw [q2.1]; exact obV, by rw [q2.2.1]; exact asC, q4⟩,
    ⟨V', ⟨q5.1, State.isArrayOf_alike al'.symm q5.2.1, q5.2.2.1⟩, q6, by rw [← al'.findClass]; exact q7, q8, fun j hj => by have := q9 j hj; rwa [Nat.zero_add] at this⟩, fun O n d w F n1 n2 => ?_⟩, hl, hc, hs⟩, st⟩
  · intro y hy
    simp only [List.mem_cons, List.not_mem_nil, or_false] at hy
    rcases hy with rfl | rfl <;> rfl
  · by_cases q : y = x
    · subst q
      cases hD.symm.trans hy
      exact ⟨E', q1.1, q2.2.1, q2.1, hsz⟩
    · exact ⟨cy, q10 y cy q hy, rfl, rfl, rfl⟩
  · obtain ⟨D3, cf, k, i, f, g1, g2, g3, g4, g5, g6, g7⟩ := F
    cases hD.symm.trans g1
    simp only [RoadKit.slotOf, g2, gV, gC, Option.map_some, Option.getD_some] at n1 n2
    exact ⟨E', cf, k, i, f, q1.1, g2, g3, by rw [q2.1]; exact g4, by rw [q2.1]; exact g5, by rw [q2.2.1]; exact g6, by rw [q2.2.2 f.slot (by simp [n1, n2])]; exact g7⟩
end StrChars.Road
namespace StrChars.Road
open Jvm Sem ClassFile Op Lib Jvm.Stand Jvm.Free Jvm.Free.XT
/-- WHAT COMES BACK, the byte[] as a list of values -/
def QA (Z : State) (x : Addr) (zn : Int32) (cs : List Int32) (h : Heap) (v : Option Value) (h' : Heap) (L : List Loc) : Prop := v = none ∧ (∀ y ∈ L, y.base = x) ∧ RoadKit.Keep h h' [x] ∧ h'.size = h.size + 1 ∧ RoadKit.Exa Z h' x ST ∧ RoadKit.Fld Z h' x ST "value" "[B" (.ref h.size) ∧ RoadKit.Fld Z h' x ST "coder" "B" (.int 0) ∧
  (∃ kb, Z.vm.findClass "[B" = some kb ∧ RoadKit.Arv Z h' h.size kb .byte zn (cs.map fun c => .int (lo8 c)) (.int 0)) ∧
  ∀ (O n d : String) (w : Value), RoadKit.Fld Z h x O n d w → RoadKit.slotOf Z O n d ≠ RoadKit.slotOf Z ST "value" "[B" → RoadKit.slotOf Z O n d ≠ RoadKit.slotOf Z ST "coder" "B" → RoadKit.Fld Z h' x O n d w
/-- **new String(chars) AT A CALL, THE ARRAYS AS LISTS**: the char[] at b holds cs, not empty, no char above 255 -/
theorem backArv {p : Program} {l : Launch} {e : Env} {R : Room} {s : State} {args : Array Value} {below : List Frame} {len W : Nat} {Z : State} {a0 : Array Value} {h : Heap} (hZ : Z.Warmed39 s.vm) (hw : ∀ d ∈ words, d.before a0 Z = true) {kI : Nat} (wi : (Jvm.Cond.instantiable ST kI).before a0 Z = true)
    {x b : Addr} {k : ClassId} {zn z : Int32} {cs : List Int32} {dv v0 c0 : Value} (E : RoadKit.Exa Z h x ST) (V : RoadKit.Fld Z h x ST "value" "[B" v0) (C : RoadKit.Fld Z h x ST "coder" "B" c0) (K : RoadKit.Arv Z h b k .char zn (cs.map Value.int) dv) (S : RoadKit.Sta Z h ST "COMPACT_STRINGS" "Z" (.int z)) (hz : ¬ z = 0)
    (hlen : zn.toNatClampNeg = cs.length) (h0 : 0 < cs.length) (hbig : cs.length ≤ 536870912) (hall : ∀ c ∈ cs, ¬ 255 < c) (hfr : 4 ≤ R.frames) (hlo : W + 65 ≤ R.locals) :
    Back l R p e below s args New1.yN len W (fun P a => a = #[.ref x, .ref b] ∧ P.U.heap = h ∧ P.cells + 1 ≤ R.cells ∧ P.slots + cs.length ≤ R.slots)
      (fun P _ v B => ∃ L, QA Z x zn cs h v B.U.heap L ∧ B.locs = P.locs ++ L ∧ B.cells = P.cells + 1 ∧ B.slots = P.slots + cs.length) := by
  obtain ⟨A, K1, K2, K3, K4, K5, K6⟩ := K
  have e : A.slots.size = cs.length := K3.trans hlen
  have hat : ∀ (i : Nat) (hi : i < cs.length), A.slots[i]? = some (.int cs[i]) := fun i hi => by rw [K5 i (by omega)]; simp [List.getD_eq_getElem?_getD, hi]
  have hcv : ∀ (i : Nat) (hi : i < cs.length), cv A i = cs[i] := fun i hi => by unfold cv; rw [hat i hi]
  have hty : Typed .char A := fun i v hv => by
    have hi : i < A.slots.size := (Array.getElem?_eq_some_iff.mp hv).1
    have q := K5 i hi
    rw [hv] at q
    rw [Option.some.inj q]
    exact K6 i hi
  refine Back.mono (back hZ hw wi E V C K1 hty S hz (by omega) (by omega) (fun i hi => by rw [hcv i (by omega)]; exact hall _ (List.getElem_mem _)) hfr hlo) (fun P a hp => ⟨hp.1, hp.2.1, hp.2.2.1, by rw [e]; exact hp.2.2.2⟩) (fun P a v B hp hq => ?_)
  obtain ⟨L, ⟨q1, q2, q3, q4, q5, q6, q7, ⟨V', v1, v2, v3, v4, v5⟩, q9⟩, hl, hc, hs⟩ := hq
  refine ⟨L, ⟨q1, q2, q3, q4, q5, q6, q7, ⟨V'.cls, v3, V', v1, rfl, by rw [v4, e, hlen], K4, fun i hi => ?_, fun i hi => ?_⟩, q9⟩, hl, hc, by rw [hs, e]⟩
  · have hi' : i < cs.length := by omega
    rw [v5 i (by omega), hcv i hi']; simp [List.getD_eq_getElem?_getD, hi']
  · have hi' : i < cs.length := by omega
    simp only [List.getD_eq_getElem?_getD, List.getElem?_map, List.getElem?_eq_getElem hi', Option.map_some, Option.getD_some]
    exact fits_lo8 _
end StrChars.Road
namespace StrChars.Road
open Jvm Sem ClassFile Op Lib Jvm.Stand Jvm.Free Jvm.Free.XT
/-- WHAT COMES BACK, in the writer's own shape -/
def QV (Z : State) (x : Addr) (N : Int32) (bs : List Int32) (h : Heap) (n0 : Nat) (v : Option Value) (h' : Heap) (L : List Loc) : Prop := v = none ∧ RoadKit.Fr n0 L ∧ RoadKit.Keep h h' [x] ∧ RoadKit.Exa Z h' x ST ∧ RoadKit.Fld Z h' x ST "coder" "B" (.int 0) ∧
  ∃ (t : Addr) (kb : ClassId), n0 ≤ t ∧ h.size ≤ t ∧ ¬ t = x ∧ RoadKit.Fld Z h' x ST "value" "[B" (.ref t) ∧ RoadKit.Arv Z h' t kb .byte N (bs.map Value.int) (.int 0)
/-- **new String(chars) AT A CALL, FOR THE WRITER**: a char[] of n known ints, each 0 to 255 -/
theorem backV {p : Program} {l : Launch} {e : Env} {R : Room} {s : State} {args : Array Value} {below : List Frame} {len W : Nat} {Z : State} {a0 : Array Value} {h : Heap} (hZ : Z.Warmed39 s.vm) (hw : ∀ d ∈ words, d.before a0 Z = true) {kI : Nat} (wi : (Jvm.Cond.instantiable ST kI).before a0 Z = true)
    {x b : Addr} {kC : ClassId} {cs bs : List Int32} {d v0 c0 : Value} {z N : Int32} {n n0 : Nat} (hx0 : n0 ≤ x) (hh0 : n0 ≤ h.size) (E : RoadKit.Exa Z h x ST) (V : RoadKit.Fld Z h x ST "value" "[B" v0) (C : RoadKit.Fld Z h x ST "coder" "B" c0) (K : RoadKit.Arv Z h b kC .char N (cs.map Value.int) d) (S : RoadKit.Sta Z h ST "COMPACT_STRINGS" "Z" (.int z)) (hz : ¬ z = 0)
    (hn : cs.length = n) (hN : N = Int32.ofNat n) (l0 : 0 < n) (l2 : n ≤ 4000) (hp : ∀ c ∈ cs, ¬ c < 0 ∧ ¬ (255 : Int32) < c) (hb : bs = cs.map (fun c => c.toInt8.toInt32)) (hfr : 4 ≤ R.frames) (hlo : W + 65 ≤ R.locals) :
    Back l R p e below s args (⟨"java/lang/String", "<init>", "([C)V"⟩ : MethodName) len W (fun P a => a = #[.ref x, .ref b] ∧ P.U.heap = h ∧ P.cells + 1 ≤ R.cells ∧ P.slots + n ≤ R.slots)
      (fun P _ v B => ∃ L, QV Z x N bs h n0 v B.U.heap L ∧ B.locs = P.locs ++ L ∧ B.cells = P.cells + 1 ∧ B.slots = P.slots + n) := by
  subst hn hN hb
  refine Back.mono (backArv hZ hw wi E V C K S hz (n32 (by omega)) l0 (by omega) (fun c hc => (hp c hc).2) hfr hlo) (fun P a hp => hp) (fun P a v B hp hq => ?_)
  obtain ⟨L, ⟨q1, q2, q3, q4, q5, q6, q7, ⟨kb, v1, v2⟩, q9⟩, hl, hc, hs⟩ := hq
  exact ⟨L, ⟨q1, fun y hy => by rw [q2 y hy]; exact hx0, q3, q5, q7, h.size, kb, hh0, Nat.le_refl _, Nat.ne_of_gt E.lt, q6, by rw [List.map_map]; exact v2⟩, hl, hc, hs⟩
end StrChars.Road
namespace StrChars
open Jvm Sem ClassFile Op Lib Jvm.Stand Jvm.Free.XT Jvm.Free.ALB Jvm.Free.JM Jvm.Free
open Jvm.Lib.Cold (StaticIs)
def hi8 (x : Int32) : Int32 := lo8 (x >>> ((8 : Int32) &&& 31))
/-- what StringUTF16.getChar makes of two bytes -/
def pairCh (u v : Int32) : Int32 := (((u &&& 255) <<< ((0 : Int32) &&& 31)) ||| ((v &&& 255) <<< ((8 : Int32) &&& 31))).toUInt32.toUInt16.toUInt32.toInt32
theorem shr0 (c : Int32) : c >>> ((0 : Int32) &&& 31) = c := by
  have e : ((0 : Int32) &&& 31) = 0 := by decide
  rw [e]
  apply Int32.toBitVec_inj.mp
  rw [Int32.toBitVec_shiftRight]
  have e1 : ((0 : Int32).toBitVec.smod 32) = 0#32 := by decide
  rw [e1, BitVec.sshiftRight_eq']
  exact BitVec.sshiftRight_zero
theorem lo8_and (x : Int32) : (lo8 x &&& 255).toBitVec.toNat = x.toBitVec.toNat % 256 := by
  have h : (lo8 x).toBitVec = (x.toBitVec.signExtend 8).signExtend 32 := by rw [lo8, Int8.toBitVec_toInt32, Int32.toBitVec_toInt8]
  rw [Int32.toBitVec_and, BitVec.toNat_and, h]
  have e : ((x.toBitVec.signExtend 8).signExtend 32).toNat % 256 = x.toBitVec.toNat % 256 := by
    rw [BitVec.toNat_signExtend]
    have hlt := x.toBitVec.isLt
    simp only [BitVec.toNat_setWidth, BitVec.toNat_signExtend]
    split <;> split <;> omega
  rw [← e]
  exact Nat.and_two_pow_sub_one_eq_mod _ 8
theorem pair_says {c : Int32} (h0 : ¬ c < 0) (h1 : ¬ 65535 < c) : pairCh (lo8 c) (hi8 c) = c := by
  rw [Int32.lt_iff_toInt_lt] at h0 h1
  have e0 : (0 : Int32).toInt = 0 := rfl
  have e1 : (65535 : Int32).toInt = 65535 := rfl
  have hc : c.toInt = c.toBitVec.toNat := by
    have := c.toBitVec.isLt
    have e : c.toInt = c.toBitVec.toInt := rfl
    rw [e] at h0 h1
    rw [e]
    rw [BitVec.toInt_eq_toNat_cond] at h0 h1 ⊢
    split at h0 <;> split <;> omega
  have hn : c.toBitVec.toNat < 65536 := by omega
  have a1 := lo8_and c
  have a2 : (hi8 c &&& 255).toBitVec.toNat = c.toBitVec.toNat / 256 := by
    rw [hi8, lo8_and]
    have e : ((8 : Int32) &&& 31) = 8 := by decide
    rw [e, Int32.toBitVec_shiftRight]
    have e2 : ((8 : Int32).toBitVec.smod 32) = 8#32 := by decide
    rw [e2, BitVec.sshiftRight_eq', BitVec.toNat_sshiftRight_of_msb_false (by rw [BitVec.msb_eq_false_iff_two_mul_lt]; omega)]
    show c.toBitVec.toNat >>> 8 % 256 = _
    rw [Nat.shiftRight_eq_div_pow]
    omega
  unfold pairCh
  apply Int32.toBitVec_inj.mp
  apply BitVec.eq_of_toNat_eq
  have f0 : ((0 : Int32) &&& 31) = 0 := by decide
  have f8 : ((8 : Int32) &&& 31) = 8 := by decide
  rw [f0, f8]
  have g : (((lo8 c &&& 255) <<< (0 : Int32)) ||| ((hi8 c &&& 255) <<< (8 : Int32))).toBitVec.toNat = c.toBitVec.toNat := by
    rw [Int32.toBitVec_or, Int32.toBitVec_shiftLeft, Int32.toBitVec_shiftLeft]
    have s0 : ((0 : Int32).toBitVec.smod 32) = 0#32 := by decide
    have s8 : ((8 : Int32).toBitVec.smod 32) = 8#32 := by decide
    rw [s0, s8, BitVec.toNat_or]
    simp only [BitVec.shiftLeft_eq', BitVec.toNat_shiftLeft, a1, a2]
    show (c.toBitVec.toNat % 256) <<< 0 % 2 ^ 32 ||| (c.toBitVec.toNat / 256) <<< 8 % 2 ^ 32 = _
    rw [Nat.shiftLeft_zero, Nat.mod_eq_of_lt (show c.toBitVec.toNat % 256 < 2 ^ 32 by omega), Nat.mod_eq_of_lt (show (c.toBitVec.toNat / 256) <<< 8 < 2 ^ 32 by rw [Nat.shiftLeft_eq]; omega), Nat.or_comm, ← Nat.shiftLeft_add_eq_or_of_lt (by omega), Nat.shiftLeft_eq]
    omega
  show BitVec.toNat (((((lo8 c &&& 255) <<< (0 : Int32)) ||| ((hi8 c &&& 255) <<< (8 : Int32))).toBitVec.setWidth 16).setWidth 32) = _
  rw [BitVec.toNat_setWidth, BitVec.toNat_setWidth, g]
  omega
end StrChars
namespace StrChars
open Jvm Sem ClassFile Op Lib Jvm.Stand Jvm.Free.XT Jvm.Free.ALB Jvm.Free.JM Jvm.Free
open Jvm.Lib.Cold (StaticIs)
theorem shr1 {n : Nat} (h : 2 * n < 2 ^ 31) : Int32.ofNat (2 * n) >>> ((1 : Int32) &&& 31) = Int32.ofNat n := by
  have e : ((1 : Int32) &&& 31) = 1 := by decide
  rw [e]
  apply Int32.toBitVec_inj.mp
  rw [Int32.toBitVec_shiftRight]
  have e1 : ((1 : Int32).toBitVec.smod 32) = 1#32 := by decide
  have hm : (BitVec.ofNat 32 (2 * n)).toNat = 2 * n := by rw [BitVec.toNat_ofNat, Nat.mod_eq_of_lt (by omega)]
  rw [e1, BitVec.sshiftRight_eq']
  apply BitVec.eq_of_toNat_eq
  show ((BitVec.ofNat 32 (2 * n)).sshiftRight 1).toNat = (BitVec.ofNat 32 n).toNat
  rw [BitVec.toNat_sshiftRight_of_msb_false (by rw [BitVec.msb_eq_false_iff_two_mul_lt, hm]; omega), hm, BitVec.toNat_ofNat, Nat.shiftRight_eq_div_pow]
  omega
/-- charAt's cast of a byte read back -/
def chr8 (u : Int32) : Int32 := (u &&& 255).toUInt32.toUInt16.toUInt32.toInt32
theorem chr8_lo8 {c : Int32} (h0 : ¬ c < 0) (h1 : ¬ 255 < c) : chr8 (lo8 c) = c := by
  have t : ∀ k : Fin 256, (Int32.ofNat k.val).toUInt32.toUInt16.toUInt32.toInt32 = Int32.ofNat k.val := by decide +kernel
  unfold chr8
  rw [lo8_mask h0 h1]
  rw [Int32.lt_iff_toInt_lt] at h0 h1
  have e0 : (0 : Int32).toInt = 0 := rfl
  have e1 : (255 : Int32).toInt = 255 := rfl
  obtain ⟨k, hk⟩ : ∃ k : Nat, c.toInt = k := ⟨c.toInt.toNat, by omega⟩
  have hx : c = Int32.ofNat k := Int32.toInt_inj.mp (by rw [hk, Int32.toInt_ofNat_small (by omega)])
  rw [hx]
  exact t ⟨k, by omega⟩
theorem narrow_ch {c : Int32} (h0 : ¬ c < 0) (h1 : ¬ 65535 < c) : narrow .char (.int c) = .int c := by
  have q : narrow .char (.int (pairCh (lo8 c) (hi8 c))) = .int (pairCh (lo8 c) (hi8 c)) := narrow_c _
  rwa [pair_says h0 h1] at q
/-- the array's cell V codes the n chars f 0 .. f (n - 1) by the coder cd, as the JDK does: coder 1 just where some char is above 255 -/
def Cod (cd : Int32) (n : Nat) (f : Nat → Int32) (V : Cell) : Prop := (cd = 0 ∧ V.slots.size = n ∧ ∀ j, j < n → V.slots[j]? = some (.int (lo8 (f j))) ∧ ¬ 255 < f j) ∨ (cd = 1 ∧ V.slots.size = 2 * n ∧ (∀ j, j < n → V.slots[2 * j]? = some (.int (lo8 (f j))) ∧ V.slots[2 * j + 1]? = some (.int (hi8 (f j)))) ∧ ∃ j, j < n ∧ 255 < f j)
theorem Cod.cd {cd : Int32} {n : Nat} {f : Nat → Int32} {V : Cell} (h : Cod cd n f V) : cd = 0 ∨ cd = 1 := h.imp (fun q => q.1) fun q => q.1
theorem Cod.len {cd : Int32} {n : Nat} {f : Nat → Int32} {V : Cell} (h : Cod cd n f V) (hs : V.slots.size < 2 ^ 31) : Int32.ofNat V.slots.size >>> (cd &&& 31) = Int32.ofNat n := by
  rcases h with ⟨rfl, h, -⟩ | ⟨rfl, h, -⟩
  · rw [shr0, h]
  · rw [h, shr1 (by omega)]
/-- **x is a String of the n chars f 0 .. f (n - 1)**, Latin-1 or UTF-16; its array at t has the cell V -/
def Txt (x t : Addr) (V : Cell) (cd : Int32) (n : Nat) (f : Nat → Int32) (U : State) : Prop := Exact "java/lang/String" x U ∧ Has x "java/lang/String" "value" "[B" (.ref t) U ∧ Has x "java/lang/String" "coder" "B" (.int cd) U ∧ XT.Arr .byte t V U ∧ Cod cd n f V ∧ ∀ j, j < n → ¬ f j < 0 ∧ ¬ 65535 < f j
theorem Txt.mv {x t : Addr} {V : Cell} {cd : Int32} {n : Nat} {f : Nat → Int32} {U U' : State} (h : Txt x t V cd n f U) (hal : U.vm.Alike U'.vm) (hh : U'.heap = U.heap) : Txt x t V cd n f U' := ⟨h.1.mv hal hh, h.2.1.mv hal hh, h.2.2.1.mv hal hh, h.2.2.2.1.mv hal hh, h.2.2.2.2⟩
namespace Cdr
def yN : MethodName := ⟨"java/lang/String", "coder", "()B"⟩
abbrev yB : ByteArray := jdk_42_method_152_code
theorem d0 : decode yB 0 = .ok (.getstatic 38, 3) := by decide +kernel
theorem d3 : decode yB 3 = .ok (.ifCond (.eq) 10, 3) := by decide +kernel
theorem d6 : decode yB 6 = .ok (.aload_n 0, 1) := by decide +kernel
theorem d7 : decode yB 7 = .ok (.getfield 15, 3) := by decide +kernel
theorem d10 : decode yB 10 = .ok (.goto 4, 3) := by decide +kernel
theorem d14 : decode yB 14 = .ok (.ireturn, 1) := by decide +kernel
def site : List Cond := [.fieldLink "java/lang/String" 38 "java/lang/String" "COMPACT_STRINGS" "Z", .fieldLink "java/lang/String" 15 "java/lang/String" "coder" "B"]
def tab : Cond := tabOf yN yB 1 (some .byte) site
def P (x : Addr) (cd z : Int32) (args : Array Value) (s : State) : Prop := args = #[.ref x] ∧ Has x "java/lang/String" "coder" "B" (.int cd) s ∧ (cd = 0 ∨ cd = 1) ∧ StaticIs s "java/lang/String" "COMPACT_STRINGS" "Z" (.int z) ∧ ¬ z = 0
def E (cd : Int32) (r : Option Value) (s u : State) : Prop := XT.PureE (some (.int cd)) r s u
theorem law (l : Launch) (x : Addr) (cd z : Int32) : Law l yN 1 0 0 0 yB 1 (some .byte) site (P x cd z) (E cd) [] 0 0 := by
  refine Law.of_walk (plainFor_of_name (by decide +kernel)) (by decide +kernel) (by decide +kernel) (by decide) (fun _ _ h => by rw [h.1]; rfl) (fun _ U U' hal hh h => ⟨h.1, h.2.1.mv hal hh, h.2.2.1, h.2.2.2.1.there hal hh, h.2.2.2.2⟩) (fun r U U' V V' h1 hal h2 h => XT.PureE.mv r U U' V V' h1 hal h2 h) ?_
  intro p e s m args below meth c s₁ X0 hexec hbytes hml hret hlk hnm hown hh0 W hP
  obtain ⟨rfl, hx, hc, s1, hz⟩ := hP
  have c1 : Steps p.tables e below (s₁.setTop (entryFrame m #[.ref x] 1)) (s₁.setTop (mkF m 0 #[.val (.ref x)] [])) := entry rfl
  obtain ⟨T2, X2, q2, st2⟩ := X0.sget hexec hown (wk W (.fieldLink "java/lang/String" 38 "java/lang/String" "COMPACT_STRINGS" "Z")) s1 (fun _ _ h => by rw [hh0]; exact h) (g := (mkF m 0 #[.val (.ref x)] [])) rfl (hb hbytes d0)
  have hh2 := q2.trans hh0
  have c3 : Steps p.tables e below (s₁.setTop (entryFrame m #[.ref x] 1)) (T2.setTop (mkF m 7 #[.val (.ref x)] [.ref x])) := (c1.trans (st2 _ (Steps.refl _))).trans (by
    refine XS.ifNo X2.here hexec rfl (hb hbytes d3) rfl (i0_eq_f hz) ?_
    refine XS.aloadN X2.here hexec rfl (hb hbytes d6) rfl rfl ?_
    exact Steps.refl _)
  obtain ⟨T4, X4, q4, st4⟩ := X2.hget hexec hown (wk W (.fieldLink "java/lang/String" 15 "java/lang/String" "coder" "B")) (hx.mv X2.warmed.alike hh2) (g := (mkF m 7 #[.val (.ref x)] [.ref x])) rfl (rest := []) rfl (hb hbytes d7)
  have c5 : Steps p.tables e below (s₁.setTop (entryFrame m #[.ref x] 1)) (T4.setTop (mkF m 14 #[.val (.ref x)] [.int cd])) := (c3.trans (st4 _ (Steps.refl _))).trans (by
    refine XS.goto X4.here hexec rfl (pc0 := 10) rfl (hb hbytes d10) (by decide) rfl ?_
    exact Steps.refl _)
  exact ⟨T4, some (.int cd), _, _, _, X4, rfl, rfl, rfl, (fun h => by cases h), ⟨rfl, q4.trans hh2⟩, fun fs hl => c5.trans (X4.ireturnOut hexec hret (by rcases hc with rfl | rfl <;> rfl) (Or.inr (Or.inr (Or.inl rfl))) (hb hbytes d14) hl)⟩
end Cdr
namespace Len
def yN : MethodName := ⟨"java/lang/String", "length", "()I"⟩
abbrev yB : ByteArray := jdk_42_method_54_code
theorem d0 : decode yB 0 = .ok (.aload_n 0, 1) := by decide +kernel
theorem d1 : decode yB 1 = .ok (.getfield 9, 3) := by decide +kernel
theorem d4 : decode yB 4 = .ok (.arraylength, 1) := by decide +kernel
theorem d5 : decode yB 5 = .ok (.aload_n 0, 1) := by decide +kernel
theorem d6 : decode yB 6 = .ok (.invokevirtual 335, 3) := by decide +kernel
theorem d9 : decode yB 9 = .ok (.ishr, 1) := by decide +kernel
theorem d10 : decode yB 10 = .ok (.ireturn, 1) := by decide +kernel
def site : List Cond := [.fieldLink "java/lang/String" 9 "java/lang/String" "value" "[B", Cdr.tab] ++ virtW "java/lang/String" 335 "java/lang/String" Cdr.yN Cdr.yN
def tab : Cond := tabOf yN yB 1 (some .int) site
def P (x t : Addr) (V : Cell) (cd : Int32) (n : Nat) (f : Nat → Int32) (z : Int32) (args : Array Value) (s : State) : Prop := args = #[.ref x] ∧ Txt x t V cd n f s ∧ StaticIs s "java/lang/String" "COMPACT_STRINGS" "Z" (.int z) ∧ ¬ z = 0
def E (n : Nat) (r : Option Value) (s u : State) : Prop := XT.PureE (some (.int (Int32.ofNat n))) r s u
/-- length() of a String of n chars, in either coding -/
theorem law (l : Launch) (x t : Addr) (V : Cell) (cd : Int32) (n : Nat) (f : Nat → Int32) (z : Int32) : Law l yN 1 0 1 13 yB 1 (some .int) site (P x t V cd n f z) (E n) [] 0 0 := by
  refine Law.of_walk (plainFor_of_name (by decide +kernel)) (by decide +kernel) (by decide +kernel) (by decide) (fun _ _ h => by rw [h.1]; rfl) (fun _ U U' hal hh h => ⟨h.1, h.2.1.mv hal hh, h.2.2.1.there hal hh, h.2.2.2⟩) (fun r U U' V V' h1 hal h2 h => XT.PureE.mv r U U' V V' h1 hal h2 h) ?_
  intro p e s m args below meth c s₁ X0 hexec hbytes hml hret hlk hnm hown hh0 W hP
  obtain ⟨rfl, hx, s1, hz⟩ := hP
  have v31 := hx.2.2.2.1.2.2.2
  have c1 : Steps p.tables e below (s₁.setTop (entryFrame m #[.ref x] 1)) (s₁.setTop (mkF m 1 #[.val (.ref x)] [.ref x])) := Steps.trans (entry rfl) (by
    show Steps p.tables e below (s₁.setTop (mkF m 0 #[.val (.ref x)] [])) _
    refine XS.aloadN X0.here hexec rfl (hb hbytes d0) rfl rfl ?_
    exact Steps.refl _)
  obtain ⟨T2, X2, q2, st2⟩ := X0.hget hexec hown (wk W (.fieldLink "java/lang/String" 9 "java/lang/String" "value" "[B")) (hx.mv X0.warmed.alike hh0).2.1 (g := (mkF m 1 #[.val (.ref x)] [.ref x])) rfl (rest := []) rfl (hb hbytes d1)
  have hh2 := q2.trans hh0
  have hx2 := hx.mv X2.warmed.alike hh2
  have c3 : Steps p.tables e below (s₁.setTop (entryFrame m #[.ref x] 1)) (T2.setTop (mkF m 6 #[.val (.ref x)] [.ref x, .int (Int32.ofNat V.slots.size)])) := (c1.trans (st2 _ (Steps.refl _))).trans (by
    refine X2.alen hexec hx2.2.2.2.1 rfl rfl (hb hbytes d4) ?_
    refine XS.aloadN X2.here hexec rfl (hb hbytes d5) rfl rfl ?_
    exact Steps.refl _)
  obtain ⟨v4, T4, X4, E4, g4⟩ := X2.callV hexec (Cdr.law l x cd z) hown (wks W (virtW "java/lang/String" 335 "java/lang/String" Cdr.yN Cdr.yN)) rfl (by decide) (wk W Cdr.tab) (W := 1) (Nat.le_of_ble_eq_true rfl) (Nat.le_of_ble_eq_true rfl) (Nat.le_refl _) (Nat.le_refl _) (hx2.1.fc X2.warmed.alike) hx2.1.is (g := (mkF m 6 #[.val (.ref x)] [.ref x, .int (Int32.ofNat V.slots.size)])) rfl (by rw [hml]; rfl) c3 (argsL := []) (rest := [.int (Int32.ofNat V.slots.size)]) rfl rfl (by show 2 * 0 + (1 + 0) ≤ _; decide) (hb hbytes d6) (⟨rfl, hx2.2.2.1, hx.2.2.2.2.1.cd, s1.there X2.warmed.alike hh2, hz⟩)
  obtain ⟨rfl, q4⟩ := E4
  have c5 : Steps p.tables e below (s₁.setTop (entryFrame m #[.ref x] 1)) (T4.setTop (mkF m 10 #[.val (.ref x)] [.int (Int32.ofNat V.slots.size >>> (cd &&& 31))])) := Steps.trans g4 (by
    refine ishr X4.here hexec rfl (hb hbytes d9) rfl ?_
    exact Steps.refl _)
  rw [hx.2.2.2.2.1.len v31] at c5
  exact ⟨T4, some (.int (Int32.ofNat n)), _, _, _, X4, rfl, rfl, rfl, (fun h => by cases h), ⟨rfl, q4.trans hh2⟩, fun fs hl => c5.trans (X4.ireturnOut hexec hret rfl (Or.inl rfl) (hb hbytes d10) hl)⟩
theorem pays {l : Launch} {R : Room} {p : Program} {e : Env} {below : List Frame} {s : State} {sargs : Array Value} {len W : Nat} (x t : Addr) (V : Cell) (cd : Int32) (n : Nat) (f : Nat → Int32) (z : Int32) (htab : tab.before sargs s = true) (hfr : 2 ≤ R.frames) (hlo : W + 25 ≤ R.locals) :
    Back l R p e below s sargs yN len W (fun A₁ a₁ => A₁.cells + 0 ≤ R.cells ∧ A₁.slots + 0 ≤ R.slots ∧ P x t V cd n f z a₁ A₁.U) (fun A₁ _ v₁ B₁ => E n v₁ A₁.U B₁.U ∧ B₁.locs = A₁.locs ++ [] ∧ B₁.cells = A₁.cells + 0 ∧ B₁.slots = A₁.slots + 0) :=
  (law l x t V cd n f z).pays htab hfr (by omega)
end Len
namespace IsL
def yN : MethodName := ⟨"java/lang/String", "isLatin1", "()Z"⟩
abbrev yB : ByteArray := jdk_42_method_154_code
theorem d0 : decode yB 0 = .ok (.getstatic 38, 3) := by decide +kernel
theorem d3 : decode yB 3 = .ok (.ifCond (.eq) 14, 3) := by decide +kernel
theorem d6 : decode yB 6 = .ok (.aload_n 0, 1) := by decide +kernel
theorem d7 : decode yB 7 = .ok (.getfield 15, 3) := by decide +kernel
theorem d10 : decode yB 10 = .ok (.ifCond (.ne) 7, 3) := by decide +kernel
theorem d13 : decode yB 13 = .ok (.iconst 1, 1) := by decide +kernel
theorem d14 : decode yB 14 = .ok (.goto 4, 3) := by decide +kernel
theorem d17 : decode yB 17 = .ok (.iconst 0, 1) := by decide +kernel
theorem d18 : decode yB 18 = .ok (.ireturn, 1) := by decide +kernel
def site : List Cond := [.fieldLink "java/lang/String" 38 "java/lang/String" "COMPACT_STRINGS" "Z", .fieldLink "java/lang/String" 15 "java/lang/String" "coder" "B"]
def tab : Cond := tabOf yN yB 1 (some .boolean) site
def P (x : Addr) (cd z : Int32) (args : Array Value) (s : State) : Prop := args = #[.ref x] ∧ Has x "java/lang/String" "coder" "B" (.int cd) s ∧ (cd = 0 ∨ cd = 1) ∧ StaticIs s "java/lang/String" "COMPACT_STRINGS" "Z" (.int z) ∧ ¬ z = 0
def E (cd : Int32) (r : Option Value) (s u : State) : Prop := XT.PureE (some (.int (1 - cd))) r s u
theorem law (l : Launch) (x : Addr) (cd z : Int32) : Law l yN 1 0 0 0 yB 1 (some .boolean) site (P x cd z) (E cd) [] 0 0 := by
  refine Law.of_walk (plainFor_of_name (by decide +kernel)) (by decide +kernel) (by decide +kernel) (by decide) (fun _ _ h => by rw [h.1]; rfl) (fun _ U U' hal hh h => ⟨h.1, h.2.1.mv hal hh, h.2.2.1, h.2.2.2.1.there hal hh, h.2.2.2.2⟩) (fun r U U' V V' h1 hal h2 h => XT.PureE.mv r U U' V V' h1 hal h2 h) ?_
  intro p e s m args below meth c s₁ X0 hexec hbytes hml hret hlk hnm hown hh0 W hP
  obtain ⟨rfl, hx, hc, s1, hz⟩ := hP
  have c1 : Steps p.tables e below (s₁.setTop (entryFrame m #[.ref x] 1)) (s₁.setTop (mkF m 0 #[.val (.ref x)] [])) := entry rfl
  obtain ⟨T2, X2, q2, st2⟩ := X0.sget hexec hown (wk W (.fieldLink "java/lang/String" 38 "java/lang/String" "COMPACT_STRINGS" "Z")) s1 (fun _ _ h => by rw [hh0]; exact h) (g := (mkF m 0 #[.val (.ref x)] [])) rfl (hb hbytes d0)
  have hh2 := q2.trans hh0
  have c3 : Steps p.tables e below (s₁.setTop (entryFrame m #[.ref x] 1)) (T2.setTop (mkF m 7 #[.val (.ref x)] [.ref x])) := (c1.trans (st2 _ (Steps.refl _))).trans (by
    refine XS.ifNo X2.here hexec rfl (hb hbytes d3) rfl (i0_eq_f hz) ?_
    refine XS.aloadN X2.here hexec rfl (hb hbytes d6) rfl rfl ?_
    exact Steps.refl _)
  obtain ⟨T4, X4, q4, st4⟩ := X2.hget hexec hown (wk W (.fieldLink "java/lang/String" 15 "java/lang/String" "coder" "B")) (hx.mv X2.warmed.alike hh2) (g := (mkF m 7 #[.val (.ref x)] [.ref x])) rfl (rest := []) rfl (hb hbytes d7)
  have c5 : Steps p.tables e below (s₁.setTop (entryFrame m #[.ref x] 1)) (T4.setTop (mkF m 10 #[.val (.ref x)] [.int cd])) := c3.trans (st4 _ (Steps.refl _))
  have c6 : Steps p.tables e below (s₁.setTop (entryFrame m #[.ref x] 1)) (T4.setTop (mkF m 18 #[.val (.ref x)] [.int (1 - cd)])) := by
    rcases hc with rfl | rfl
    · exact c5.trans (by
        refine XS.ifNo X4.here hexec rfl (hb hbytes d10) rfl (i0_ne_f rfl) ?_
        refine iconstV X4.here hexec rfl 1 (hb hbytes d13) (by decide) ?_
        refine XS.goto X4.here hexec rfl (pc0 := 14) rfl (hb hbytes d14) (by decide) rfl ?_
        exact Steps.refl _)
    · exact c5.trans (by
        refine XS.ifYes X4.here hexec rfl (pc0 := 10) rfl (hb hbytes d10) rfl (i0_ne_t (by decide)) (by decide) rfl ?_
        refine iconstV X4.here hexec rfl 0 (hb hbytes d17) (by decide) ?_
        exact Steps.refl _)
  exact ⟨T4, some (.int (1 - cd)), _, _, _, X4, rfl, rfl, rfl, (fun h => by cases h), ⟨rfl, q4.trans hh2⟩, fun fs hl => c6.trans (X4.ireturnOut hexec hret (by rcases hc with rfl | rfl <;> rfl) (Or.inr (Or.inl rfl)) (hb hbytes d18) hl)⟩
end IsL
namespace LChA
def yN : MethodName := ⟨"java/lang/StringLatin1", "charAt", "([BI)C"⟩
abbrev yB : ByteArray := jdk_43_method_2_code
theorem d0 : decode yB 0 = .ok (.iload_n 1, 1) := by decide +kernel
theorem d1 : decode yB 1 = .ok (.aload_n 0, 1) := by decide +kernel
theorem d2 : decode yB 2 = .ok (.arraylength, 1) := by decide +kernel
theorem d3 : decode yB 3 = .ok (.invokestatic 9, 3) := by decide +kernel
theorem d6 : decode yB 6 = .ok (.aload_n 0, 1) := by decide +kernel
theorem d7 : decode yB 7 = .ok (.iload_n 1, 1) := by decide +kernel
theorem d8 : decode yB 8 = .ok (.baload, 1) := by decide +kernel
theorem d9 : decode yB 9 = .ok (.sipush 255, 3) := by decide +kernel
theorem d12 : decode yB 12 = .ok (.iand, 1) := by decide +kernel
theorem d13 : decode yB 13 = .ok (.i2c, 1) := by decide +kernel
theorem d14 : decode yB 14 = .ok (.ireturn, 1) := by decide +kernel
def site : List Cond := [JO.Str_checkIndex.tab] ++ staticW "java/lang/StringLatin1" 9 JO.Str_checkIndex.yN
def tab : Cond := tabOf yN yB 2 (some .char) site
def P (t : Addr) (V : Cell) (i : Nat) (u : Int32) (fm : Value) (args : Array Value) (s : State) : Prop := args = #[.ref t, .int (Int32.ofNat i)] ∧ XT.Arr .byte t V s ∧ V.slots[i]? = some (.int u) ∧ (StaticIs s "jdk/internal/util/Preconditions" "SIOOBE_FORMATTER" "Ljava/util/function/BiFunction;" fm ∧ fm.isRef = true)
def E (u : Int32) (r : Option Value) (s w : State) : Prop := XT.PureE (some (.int (chr8 u))) r s w
theorem law (l : Launch) (t : Addr) (V : Cell) (i : Nat) (u : Int32) (fm : Value) : Law l yN 2 2 2 27 yB 2 (some .char) site (P t V i u fm) (E u) [] 0 0 := by
  refine Law.of_walk (plainFor_of_name (by decide +kernel)) (by decide +kernel) (by decide +kernel) (by decide) (fun _ _ h => by rw [h.1]; rfl) (fun _ U U' hal hh h => ⟨h.1, h.2.1.mv hal hh, h.2.2.1, h.2.2.2.1.there hal hh, h.2.2.2.2⟩) (fun r U U' V V' h1 hal h2 h => XT.PureE.mv r U U' V V' h1 hal h2 h) ?_
  intro p e s m args below meth c s₁ X0 hexec hbytes hml hret hlk hnm hown hh0 W hP
  obtain ⟨rfl, hV, hu, s1, rf⟩ := hP
  have v31 := hV.2.2.2
  have hi : i < V.slots.size := (Array.getElem?_eq_some_iff.mp hu).1
  have c1 : Steps p.tables e below (s₁.setTop (entryFrame m #[.ref t, .int (Int32.ofNat i)] 2)) (s₁.setTop (mkF m 0 #[.val (.ref t), .val (.int (Int32.ofNat i))] [])) := entry rfl
  have c2 : Steps p.tables e below (s₁.setTop (entryFrame m #[.ref t, .int (Int32.ofNat i)] 2)) (s₁.setTop (mkF m 3 #[.val (.ref t), .val (.int (Int32.ofNat i))] [.int (Int32.ofNat V.slots.size), .int (Int32.ofNat i)])) := c1.trans (by
    refine XS.iloadN X0.here hexec rfl (hb hbytes d0) rfl ?_
    refine XS.aloadN X0.here hexec rfl (hb hbytes d1) rfl rfl ?_
    refine X0.alen hexec (hV.mv X0.warmed.alike hh0) rfl rfl (hb hbytes d2) ?_
    exact Steps.refl _)
  obtain ⟨v3, T3, X3, E3, g3⟩ := X0.callS hexec (JO.Str_checkIndex.law l (Int32.ofNat i) (Int32.ofNat V.slots.size) fm) hown (wks W (staticW "java/lang/StringLatin1" 9 JO.Str_checkIndex.yN)) (wk W JO.Str_checkIndex.tab) (W := 0) (Nat.le_of_ble_eq_true rfl) (Nat.le_of_ble_eq_true rfl) (Nat.le_refl _) (Nat.le_refl _) (g := (mkF m 3 #[.val (.ref t), .val (.int (Int32.ofNat i))] [.int (Int32.ofNat V.slots.size), .int (Int32.ofNat i)])) rfl (by rw [hml]; rfl) c2 (argsL := [.int (Int32.ofNat i), .int (Int32.ofNat V.slots.size)]) (rest := []) rfl rfl (by show 2 * 0 + 0 ≤ _; decide) (hb hbytes d3) (⟨rfl, rf, s1.there X0.warmed.alike hh0, Int32.ofNat_not_neg (by omega), lt32 v31 hi⟩)
  obtain ⟨rfl, q3⟩ := E3
  have hh3 := q3.trans hh0
  have c4 : Steps p.tables e below (s₁.setTop (entryFrame m #[.ref t, .int (Int32.ofNat i)] 2)) (T3.setTop (mkF m 14 #[.val (.ref t), .val (.int (Int32.ofNat i))] [.int (chr8 u)])) := Steps.trans g3 (by
    refine XS.aloadN X3.here hexec rfl (hb hbytes d6) rfl rfl ?_
    refine XS.iloadN X3.here hexec rfl (hb hbytes d7) rfl ?_
    refine X3.aget hexec (hV.mv X3.warmed.alike hh3) rfl hu rfl rfl (hb hbytes d8) ?_
    refine sipushV X3.here hexec rfl 255 (hb hbytes d9) (by decide) ?_
    refine XS.iand X3.here hexec rfl (hb hbytes d12) rfl ?_
    refine i2c X3.here hexec rfl (hb hbytes d13) rfl ?_
    exact Steps.refl _)
  exact ⟨T3, some (.int (chr8 u)), _, _, _, X3, rfl, rfl, rfl, (fun h => by cases h), ⟨rfl, hh3⟩, fun fs hl => c4.trans (X3.ireturnOut hexec hret (narrow_c _) (Or.inr (Or.inr (Or.inr (Or.inl rfl)))) (hb hbytes d14) hl)⟩
end LChA
end StrChars
namespace StrChars.Road
open Jvm Sem ClassFile Op Lib Jvm.Stand Jvm.Free Jvm.Free.XT
open Jvm.Lib.Cold (StaticIs)
theorem consq {a : Array Value} {s : State} {c : Jvm.Cond} {L : List Jvm.Cond} (h0 : c.before a s = true) (h : ∀ w ∈ L, w.before a s = true) : ∀ w ∈ c :: L, w.before a s = true := fun w hw => (List.mem_cons.mp hw).elim (fun e => e ▸ h0) (h w)
/-- the words of String.length(), either coding -/
abbrev wordsLen : List Jvm.Cond := [.code Len.yN Len.yB 1 (some .int), .initialized ST, .fieldLink ST 9 ST "value" "[B", .fieldLink ST 38 ST "COMPACT_STRINGS" "Z", .fieldLink ST 15 ST "coder" "B", .code Cdr.yN Cdr.yB 1 (some .byte), .methodLink ST 335 Cdr.yN, .declares Cdr.yN, .selects ST Cdr.yN Cdr.yN, .instanceMethod Cdr.yN]
theorem tabLen_of {a : Array Value} {s : State} (h : ∀ w ∈ wordsLen, w.before a s = true) : Len.tab.before a s = true := by
  have hc : Cdr.tab.before a s = true := unparts (wk h (.code Cdr.yN Cdr.yB 1 (some .byte))) (wks h (.initialized Cdr.yN.cls :: Cdr.site))
  have q := consq hc h
  exact unparts (wk q (.code Len.yN Len.yB 1 (some .int))) (wks q (.initialized Len.yN.cls :: Len.site))
theorem movedLen {Z s : State} {a0 args : Array Value} (hZ : Z.Warmed39 s.vm) (hw : ∀ d ∈ wordsLen, d.before a0 Z = true) : ∀ d ∈ wordsLen, d.before args s = true := fun d hd => by
  have q := hw d hd
  have t : ∀ d ∈ wordsLen, d = .arrayClass .byte ∨ (d.onTables && d.keepsFace) = true := by decide +kernel
  rcases t d hd with rfl | t
  · exact RoadKit.mvA hZ q
  · exact RoadKit.mv hZ q t
/-- the bytes of the chars cs, low before high -/
def wideBytes : List Int32 → List Value
  | [] => []
  | c :: cs => .int (lo8 c) :: .int (hi8 c) :: wideBytes cs
theorem wide_lo (d : Value) : ∀ (cs : List Int32) (j : Nat), j < cs.length → (wideBytes cs).getD (2 * j) d = .int (lo8 (cs.getD j 0))
  | [], j, h => absurd h (Nat.not_lt_zero j)
  | c :: cs, 0, _ => rfl
  | c :: cs, j + 1, h => by
    have q := wide_lo d cs j (by simpa using h)
    rw [show 2 * (j + 1) = 2 * j + 1 + 1 from by omega]
    simpa [wideBytes] using q
theorem wide_hi (d : Value) : ∀ (cs : List Int32) (j : Nat), j < cs.length → (wideBytes cs).getD (2 * j + 1) d = .int (hi8 (cs.getD j 0))
  | [], j, h => absurd h (Nat.not_lt_zero j)
  | c :: cs, 0, _ => rfl
  | c :: cs, j + 1, h => by
    have q := wide_hi d cs j (by simpa using h)
    rw [show 2 * (j + 1) + 1 = 2 * j + 1 + 1 + 1 from by omega]
    simpa [wideBytes] using q
theorem low_at (d : Value) (cs : List Int32) (j : Nat) (h : j < cs.length) : (cs.map fun c => Value.int (lo8 c)).getD j d = .int (lo8 (cs.getD j 0)) := by
  simp [List.getD_eq_getElem?_getD, h]
/-- an array of N2 bytes vs codes the chars cs by the coder cd -/
def CodA (cs : List Int32) (cd N2 : Int32) (vs : List Value) : Prop := (cd = 0 ∧ N2 = Int32.ofNat cs.length ∧ vs = (cs.map fun c => Value.int (lo8 c)) ∧ ∀ c ∈ cs, ¬ 255 < c) ∨ (cd = 1 ∧ N2 = Int32.ofNat (2 * cs.length) ∧ vs = wideBytes cs ∧ ∃ c ∈ cs, 255 < c)
theorem CodA.cod {cs : List Int32} {cd N2 : Int32} {vs : List Value} {V : Cell} (h : CodA cs cd N2 vs) (hn : 2 * cs.length < 2 ^ 31) (hs : V.slots.size = N2.toNatClampNeg) (hv : RoadKit.Has V vs (.int 0)) : Cod cd cs.length (fun j => cs.getD j 0) V := by
  rcases h with ⟨rfl, rfl, rfl, h⟩ | ⟨rfl, rfl, rfl, c, hc, hw⟩
  · rw [n32 (by omega)] at hs
    exact Or.inl ⟨rfl, hs, fun j hj => ⟨by rw [hv j (by omega), low_at _ _ _ hj], by
      have e : cs.getD j 0 = cs[j] := by simp [List.getD_eq_getElem?_getD, hj]
      show ¬ 255 < cs.getD j 0
      rw [e]; exact h _ (List.getElem_mem _)⟩⟩
  · rw [n32 (by omega)] at hs
    obtain ⟨j, hj, rfl⟩ := List.getElem_of_mem hc
    exact Or.inr ⟨rfl, hs, fun j hj => ⟨by rw [hv _ (by omega), wide_lo _ _ _ hj], by rw [hv _ (by omega), wide_hi _ _ _ hj]⟩, j, hj, by
      have e : cs.getD j 0 = cs[j] := by simp [List.getD_eq_getElem?_getD, hj]
      show 255 < cs.getD j 0
      rw [e]; exact hw⟩
/-- an object of exactly java/lang/String, its two fields found: as the laws ask it -/
theorem strObj {Z U : State} {a0 : Array Value} {kI : Nat} (wi : (Jvm.Cond.instantiable ST kI).before a0 Z = true) (al : Z.vm.Alike U.vm) {x : Addr} {v0 c0 : Value} (E : RoadKit.Exa Z U.heap x ST) (V : RoadKit.Fld Z U.heap x ST "value" "[B" v0) (C : RoadKit.Fld Z U.heap x ST "coder" "B" c0) :
    ∃ (D : Cell) (fV fC : Field), Blank ST x D U ∧ Found ST "value" "[B" fV U ∧ Found ST "coder" "B" fC U ∧ D.slots[fV.slot]? = some v0 ∧ D.slots[fC.slot]? = some c0 ∧ RoadKit.slotOf Z ST "value" "[B" = fV.slot ∧ RoadKit.slotOf Z ST "coder" "B" = fC.slot := by
  obtain ⟨D, cfV, kV, iV, fV, hD, gV, stV, knV, obV, asV, slV⟩ := V
  obtain ⟨D', cfC, kC, iC, fC, hD', gC, stC, -, -, asC, slC⟩ := C
  cases hD.symm.trans hD'
  obtain ⟨D2, kD, e1, e2, e3, e4, e5⟩ := E
  cases hD.symm.trans e1
  obtain ⟨c2, k2, i1, i2, i3, -⟩ := Cond.instantiable_spec wi
  cases e2.symm.trans i1
  cases e3.symm.trans i2
  obtain ⟨kU, u1, u2⟩ := al.2.2 _ _ e3
  exact ⟨D, fV, fC, ⟨hD, ⟨knV, fun q hq => by rw [hq] at obV; cases obV⟩, by rw [al.findClass]; exact e2, kU, u1, by rw [u2]; exact i3, by rw [u2]; exact e5 i3⟩, ⟨SBG.found_only al ⟨cfV, kV, iV, gV⟩, stV⟩, ⟨SBG.found_only al ⟨cfC, kC, iC, gC⟩, stC⟩, slV, slC, by simp [RoadKit.slotOf, gV], by simp [RoadKit.slotOf, gC]⟩
theorem sta_is {Z U : State} (al : Z.vm.Alike U.vm) {C n d : String} {v : Value} (S : RoadKit.Sta Z U.heap C n d v) : StaticIs U C n d v := by
  obtain ⟨cfS, iS, kS, fS, st, cS, t1, t2, t3, t4, t5, t6, t7⟩ := S
  exact StaticIs.there (s := { Z with heap := U.heap }) ⟨cfS, iS, kS, fS, st, cS, t1, t2, t3, t4, t5, (fun q => by rw [q] at t6; cases t6), t7⟩ al rfl
/-- **length() OF SUCH A STRING** -/
theorem lenW {p : Program} {l : Launch} {e : Env} {R : Room} {s : State} {args : Array Value} {below : List Frame} {len W : Nat} {Z : State} {a0 : Array Value} {h : Heap} (hZ : Z.Warmed39 s.vm) (hw : ∀ d ∈ wordsLen, d.before a0 Z = true) {kI : Nat} (wi : (Jvm.Cond.instantiable ST kI).before a0 Z = true)
    {x t : Addr} {kb : ClassId} {cs : List Int32} {cd N2 z : Int32} {vs : List Value} (E : RoadKit.Exa Z h x ST) (V : RoadKit.Fld Z h x ST "value" "[B" (.ref t)) (C : RoadKit.Fld Z h x ST "coder" "B" (.int cd)) (K : RoadKit.Arv Z h t kb .byte N2 vs (.int 0)) (hc : CodA cs cd N2 vs) (hb : ∀ c ∈ cs, ¬ c < 0 ∧ ¬ (65535 : Int32) < c)
    (S : RoadKit.Sta Z h ST "COMPACT_STRINGS" "Z" (.int z)) (hz : ¬ z = 0) (l2 : cs.length ≤ 4000) (hfr : 2 ≤ R.frames) (hlo : W + 25 ≤ R.locals) :
    Back l R p e below s args (⟨"java/lang/String", "length", "()I"⟩ : MethodName) len W (fun P a => a = #[.ref x] ∧ P.U.heap = h ∧ P.cells + 0 ≤ R.cells ∧ P.slots + 0 ≤ R.slots)
      (fun P _ v B => ∃ L, (v = some (.int (Int32.ofNat cs.length)) ∧ L = [] ∧ B.U.heap = h) ∧ B.locs = P.locs ++ L ∧ B.cells = P.cells + 0 ∧ B.slots = P.slots + 0) := by
  obtain ⟨A, K1, K2, K3, K4, K5, K6⟩ := K
  have hcod := hc.cod (by omega) K3 K5
  intro m meth c P g ig mk a X hg hsize hdg hW hn hp'
  obtain ⟨rfl, rfl, r1, r2⟩ := hp'
  have al : Z.vm.Alike P.U.vm := hZ.alike.trans X.warmed.alike
  obtain ⟨D, fV, fC, hB, F1, F2, g1, g2, -, -⟩ := strObj wi al E V C
  have hx : Txt x t A cd cs.length (fun j => cs.getD j 0) P.U := ⟨⟨_, hB.2.2.1, D, hB.1, rfl, by cases q : D.vm <;> first | rfl | exact absurd q (hB.2.1.2 _)⟩, Has.of hB F1 g1, Has.of hB F2 g2, ⟨K1.1, State.isArrayOf_alike al K1.2.1, K1.2.2, by rcases hcod with ⟨-, q, -⟩ | ⟨-, q, -⟩ <;> omega⟩, hcod, fun j hj => by
    have e : cs.getD j 0 = cs[j] := by simp [List.getD_eq_getElem?_getD, hj]
    show ¬ cs.getD j 0 < 0 ∧ ¬ 65535 < cs.getD j 0
    rw [e]; exact hb _ (List.getElem_mem _)⟩
  obtain ⟨v, B, X', ⟨⟨hv, hh⟩, hl, hk, hs⟩, st⟩ := Len.pays x t A cd cs.length (fun j => cs.getD j 0) z (tabLen_of (movedLen hZ hw)) hfr hlo m meth c P g ig mk _ X hg hsize hdg hW hn ⟨r1, r2, rfl, hx, sta_is al S, hz⟩
  exact ⟨v, B, X', ⟨[], ⟨hv, rfl, hh⟩, hl, hk, hs⟩, st⟩
end StrChars.Road
namespace StrChars.Road
open Jvm Sem ClassFile Op Lib Jvm.Stand Jvm.Free Jvm.Free.XT
open Jvm.Lib.Cold (StaticIs)
/-- the road's facts of a String, as the laws ask it -/
theorem txt_of {Z U : State} {a0 : Array Value} {kI : Nat} (wi : (Jvm.Cond.instantiable ST kI).before a0 Z = true) (al : Z.vm.Alike U.vm) {x t : Addr} {kb : ClassId} {cs : List Int32} {cd N2 : Int32} {vs : List Value} (E : RoadKit.Exa Z U.heap x ST) (V : RoadKit.Fld Z U.heap x ST "value" "[B" (.ref t)) (C : RoadKit.Fld Z U.heap x ST "coder" "B" (.int cd)) (K : RoadKit.Arv Z U.heap t kb .byte N2 vs (.int 0)) (hc : CodA cs cd N2 vs) (hb : ∀ c ∈ cs, ¬ c < 0 ∧ ¬ (65535 : Int32) < c) (l2 : cs.length ≤ 4000) :
    ∃ A, Txt x t A cd cs.length (fun j => cs.getD j 0) U := by
  obtain ⟨A, K1, K2, K3, K4, K5, K6⟩ := K
  have hcod := hc.cod (by omega) K3 K5
  obtain ⟨D, fV, fC, hB, F1, F2, g1, g2, -, -⟩ := strObj wi al E V C
  exact ⟨A, ⟨_, hB.2.2.1, D, hB.1, rfl, by cases q : D.vm <;> first | rfl | exact absurd q (hB.2.1.2 _)⟩, Has.of hB F1 g1, Has.of hB F2 g2, ⟨K1.1, State.isArrayOf_alike al K1.2.1, K1.2.2, by rcases hcod with ⟨-, q, -⟩ | ⟨-, q, -⟩ <;> omega⟩, hcod, fun j hj => by
    have e : cs.getD j 0 = cs[j] := by simp [List.getD_eq_getElem?_getD, hj]
    show ¬ cs.getD j 0 < 0 ∧ ¬ 65535 < cs.getD j 0
    rw [e]; exact hb _ (List.getElem_mem _)⟩
end StrChars.Road
namespace StrChars
open Jvm Sem ClassFile Op Lib Jvm.Stand Jvm.Free.XT Jvm.Free.ALB Jvm.Free.JM Jvm.Free
open Jvm.Lib.Cold (StaticIs)
namespace ChN
def yN : MethodName := ⟨"java/lang/String", "charAt", "(I)C"⟩
abbrev yB : ByteArray := jdk_42_method_56_code
theorem d0 : decode yB 0 = .ok (.aload_n 0, 1) := by decide +kernel
theorem d1 : decode yB 1 = .ok (.invokevirtual 492, 3) := by decide +kernel
theorem d4 : decode yB 4 = .ok (.ifCond (.eq) 12, 3) := by decide +kernel
theorem d7 : decode yB 7 = .ok (.aload_n 0, 1) := by decide +kernel
theorem d8 : decode yB 8 = .ok (.getfield 9, 3) := by decide +kernel
theorem d11 : decode yB 11 = .ok (.iload_n 1, 1) := by decide +kernel
theorem d12 : decode yB 12 = .ok (.invokestatic 495, 3) := by decide +kernel
theorem d15 : decode yB 15 = .ok (.ireturn, 1) := by decide +kernel
def site : List Cond := [.fieldLink "java/lang/String" 9 "java/lang/String" "value" "[B", IsL.tab, LChA.tab] ++ virtW "java/lang/String" 492 "java/lang/String" IsL.yN IsL.yN ++ staticW "java/lang/String" 495 LChA.yN
def tab : Cond := tabOf yN yB 2 (some .char) site
def P (x t : Addr) (V : Cell) (n : Nat) (f : Nat → Int32) (z : Int32) (fm : Value) (i : Nat) (args : Array Value) (s : State) : Prop := args = #[.ref x, .int (Int32.ofNat i)] ∧ Txt x t V 0 n f s ∧ i < n ∧ StaticIs s "java/lang/String" "COMPACT_STRINGS" "Z" (.int z) ∧ ¬ z = 0 ∧ StaticIs s "jdk/internal/util/Preconditions" "SIOOBE_FORMATTER" "Ljava/util/function/BiFunction;" fm ∧ fm.isRef = true
def E (f : Nat → Int32) (i : Nat) (r : Option Value) (s u : State) : Prop := XT.PureE (some (.int (f i))) r s u
/-- charAt(i) of a Latin-1 String of n chars, i < n: f i -/
theorem law (l : Launch) (x t : Addr) (V : Cell) (n : Nat) (f : Nat → Int32) (z : Int32) (fm : Value) (i : Nat) : Law l yN 2 1 3 40 yB 2 (some .char) site (P x t V n f z fm i) (E f i) [] 0 0 := by
  refine Law.of_walk (plainFor_of_name (by decide +kernel)) (by decide +kernel) (by decide +kernel) (by decide) (fun _ _ h => by rw [h.1]; rfl) (fun _ U U' hal hh h => ⟨h.1, h.2.1.mv hal hh, h.2.2.1, h.2.2.2.1.there hal hh, h.2.2.2.2.1, h.2.2.2.2.2.1.there hal hh, h.2.2.2.2.2.2⟩) (fun r U U' V V' h1 hal h2 h => XT.PureE.mv r U U' V V' h1 hal h2 h) ?_
  intro p e s m args below meth c s₁ X0 hexec hbytes hml hret hlk hnm hown hh0 W hP
  obtain ⟨rfl, hx, hi, s1, hz, s3, rf⟩ := hP
  have v31 := hx.2.2.2.1.2.2.2
  have hr := hx.2.2.2.2.2 i hi
  have hx0 := hx.mv X0.warmed.alike hh0
  have c1 : Steps p.tables e below (s₁.setTop (entryFrame m #[.ref x, .int (Int32.ofNat i)] 2)) (s₁.setTop (mkF m 1 #[.val (.ref x), .val (.int (Int32.ofNat i))] [.ref x])) := Steps.trans (entry rfl) (by
    show Steps p.tables e below (s₁.setTop (mkF m 0 #[.val (.ref x), .val (.int (Int32.ofNat i))] [])) _
    refine XS.aloadN X0.here hexec rfl (hb hbytes d0) rfl rfl ?_
    exact Steps.refl _)
  obtain ⟨v2, T2, X2, E2, g2⟩ := X0.callV hexec (IsL.law l x 0 z) hown (wks W (virtW "java/lang/String" 492 "java/lang/String" IsL.yN IsL.yN)) rfl (by decide) (wk W IsL.tab) (W := 0) (Nat.le_of_ble_eq_true rfl) (Nat.le_of_ble_eq_true rfl) (Nat.le_refl _) (Nat.le_refl _) (hx0.1.fc X0.warmed.alike) hx0.1.is (g := (mkF m 1 #[.val (.ref x), .val (.int (Int32.ofNat i))] [.ref x])) rfl (by rw [hml]; rfl) c1 (argsL := []) (rest := []) rfl rfl (by show 2 * 0 + 0 ≤ _; decide) (hb hbytes d1) (⟨rfl, hx0.2.2.1, hx.2.2.2.2.1.cd, s1.there X0.warmed.alike hh0, hz⟩)
  obtain ⟨rfl, q2⟩ := E2
  have hh2 := q2.trans hh0
  have hx2 := hx.mv X2.warmed.alike hh2
  obtain ⟨-, k1, k2⟩ | ⟨k0, -⟩ := hx.2.2.2.2.1
  · have c3 : Steps p.tables e below (s₁.setTop (entryFrame m #[.ref x, .int (Int32.ofNat i)] 2)) (T2.setTop (mkF m 8 #[.val (.ref x), .val (.int (Int32.ofNat i))] [.ref x])) := Steps.trans g2 (by
      refine XS.ifNo X2.here hexec rfl (hb hbytes d4) rfl (i0_eq_f (by decide)) ?_
      refine XS.aloadN X2.here hexec rfl (hb hbytes d7) rfl rfl ?_
      exact Steps.refl _)
    obtain ⟨T4, X4, q4, st4⟩ := X2.hget hexec hown (wk W (.fieldLink "java/lang/String" 9 "java/lang/String" "value" "[B")) hx2.2.1 (g := (mkF m 8 #[.val (.ref x), .val (.int (Int32.ofNat i))] [.ref x])) rfl (rest := []) rfl (hb hbytes d8)
    have hh4 := q4.trans hh2
    have c5 : Steps p.tables e below (s₁.setTop (entryFrame m #[.ref x, .int (Int32.ofNat i)] 2)) (T4.setTop (mkF m 12 #[.val (.ref x), .val (.int (Int32.ofNat i))] [.int (Int32.ofNat i), .ref t])) := (c3.trans (st4 _ (Steps.refl _))).trans (by
      refine XS.iloadN X4.here hexec rfl (hb hbytes d11) rfl ?_
      exact Steps.refl _)
    obtain ⟨v6, T6, X6, E6, g6⟩ := X4.callS hexec (LChA.law l t V i (lo8 (f i)) fm) hown (wks W (staticW "java/lang/String" 495 LChA.yN)) (wk W LChA.tab) (W := 0) (Nat.le_of_ble_eq_true rfl) (Nat.le_of_ble_eq_true rfl) (Nat.le_refl _) (Nat.le_refl _) (g := (mkF m 12 #[.val (.ref x), .val (.int (Int32.ofNat i))] [.int (Int32.ofNat i), .ref t])) rfl (by rw [hml]; rfl) c5 (argsL := [.ref t, .int (Int32.ofNat i)]) (rest := []) rfl rfl (by show 2 * 0 + 0 ≤ _; decide) (hb hbytes d12) (⟨rfl, hx.2.2.2.1.mv X4.warmed.alike hh4, (k2 i hi).1, s3.there X4.warmed.alike hh4, rf⟩)
    obtain ⟨rfl, q6⟩ := E6
    rw [chr8_lo8 hr.1 (k2 i hi).2] at g6
    exact ⟨T6, some (.int (f i)), _, _, _, X6, rfl, rfl, rfl, (fun h => by cases h), ⟨rfl, q6.trans hh4⟩, fun fs hl => Steps.trans g6 (X6.ireturnOut hexec hret (narrow_ch hr.1 hr.2) (Or.inr (Or.inr (Or.inr (Or.inl rfl)))) (hb hbytes d15) hl)⟩
  · exact absurd k0 (by decide)
theorem pays {l : Launch} {R : Room} {p : Program} {e : Env} {below : List Frame} {s : State} {sargs : Array Value} {len W : Nat} (x t : Addr) (V : Cell) (n : Nat) (f : Nat → Int32) (z : Int32) (fm : Value) (i : Nat) (htab : tab.before sargs s = true) (hfr : 4 ≤ R.frames) (hlo : W + 53 ≤ R.locals) :
    Back l R p e below s sargs yN len W (fun A₁ a₁ => A₁.cells + 0 ≤ R.cells ∧ A₁.slots + 0 ≤ R.slots ∧ P x t V n f z fm i a₁ A₁.U) (fun A₁ _ v₁ B₁ => E f i v₁ A₁.U B₁.U ∧ B₁.locs = A₁.locs ++ [] ∧ B₁.cells = A₁.cells + 0 ∧ B₁.slots = A₁.slots + 0) :=
  (law l x t V n f z fm i).pays htab hfr (by omega)
end ChN
end StrChars
namespace StrChars.Road
open Jvm Sem ClassFile Op Lib Jvm.Stand Jvm.Free Jvm.Free.XT
open Jvm.Lib.Cold (StaticIs)
/-- the words of String.charAt(int), the Latin-1 road alone -/
abbrev wordsChN : List Jvm.Cond := [.code ChN.yN ChN.yB 2 (some .char), .initialized ST, .fieldLink ST 9 ST "value" "[B", .fieldLink ST 38 ST "COMPACT_STRINGS" "Z", .fieldLink ST 15 ST "coder" "B", .code IsL.yN IsL.yB 1 (some .boolean), .methodLink ST 492 IsL.yN, .declares IsL.yN, .selects ST IsL.yN IsL.yN, .instanceMethod IsL.yN,
  .methodLink ST 495 LChA.yN, .static LChA.yN, .code LChA.yN LChA.yB 2 (some .char), .initialized "java/lang/StringLatin1", .methodLink "java/lang/StringLatin1" 9 JO.Str_checkIndex.yN, .static JO.Str_checkIndex.yN, .code JO.Str_checkIndex.yN JO.Str_checkIndex.yB 2 none,
  .fieldLink ST 1053 "jdk/internal/util/Preconditions" "SIOOBE_FORMATTER" "Ljava/util/function/BiFunction;", .methodLink ST 1059 JC.PreCheck.yN, .static JC.PreCheck.yN, .code JC.PreCheck.yN JC.PreCheck.yB 3 (some .int), .initialized "jdk/internal/util/Preconditions"]
theorem tabChN_of {a : Array Value} {s : State} (h : ∀ w ∈ wordsChN, w.before a s = true) : ChN.tab.before a s = true := by
  have hp : JC.PreCheck.tab.before a s = true := unparts (wk h (.code JC.PreCheck.yN JC.PreCheck.yB 3 (some .int))) (wks h (.initialized JC.PreCheck.yN.cls :: JC.PreCheck.site))
  have qk := consq hp h
  have hk : JO.Str_checkIndex.tab.before a s = true := unparts (wk qk (.code JO.Str_checkIndex.yN JO.Str_checkIndex.yB 2 none)) (wks qk (.initialized JO.Str_checkIndex.yN.cls :: JO.Str_checkIndex.site))
  have ql := consq hk h
  have hl : LChA.tab.before a s = true := unparts (wk ql (.code LChA.yN LChA.yB 2 (some .char))) (wks ql (.initialized LChA.yN.cls :: LChA.site))
  have hi : IsL.tab.before a s = true := unparts (wk h (.code IsL.yN IsL.yB 1 (some .boolean))) (wks h (.initialized IsL.yN.cls :: IsL.site))
  have q := consq hi (consq hl h)
  exact unparts (wk q (.code ChN.yN ChN.yB 2 (some .char))) (wks q (.initialized ChN.yN.cls :: ChN.site))
theorem movedChN {Z s : State} {a0 args : Array Value} (hZ : Z.Warmed39 s.vm) (hw : ∀ d ∈ wordsChN, d.before a0 Z = true) : ∀ d ∈ wordsChN, d.before args s = true := fun d hd => by
  have t : ∀ d ∈ wordsChN, (d.onTables && d.keepsFace) = true := by decide +kernel
  exact RoadKit.mv hZ (hw d hd) (t d hd)
/-- **charAt(i) OF A LATIN-1 STRING**, i < n: the char -/
theorem chN {p : Program} {l : Launch} {e : Env} {R : Room} {s : State} {args : Array Value} {below : List Frame} {len W : Nat} {Z : State} {a0 : Array Value} {h : Heap} (hZ : Z.Warmed39 s.vm) (hw : ∀ d ∈ wordsChN, d.before a0 Z = true) {kI : Nat} (wi : (Jvm.Cond.instantiable ST kI).before a0 Z = true)
    {x t : Addr} {kb : ClassId} {cs : List Int32} {N2 z : Int32} {vs : List Value} {fm : Value} {i : Nat} {j : Int32} (E : RoadKit.Exa Z h x ST) (V : RoadKit.Fld Z h x ST "value" "[B" (.ref t)) (C : RoadKit.Fld Z h x ST "coder" "B" (.int 0)) (K : RoadKit.Arv Z h t kb .byte N2 vs (.int 0)) (hc : CodA cs 0 N2 vs) (hb : ∀ c ∈ cs, ¬ c < 0 ∧ ¬ (65535 : Int32) < c)
    (S : RoadKit.Sta Z h ST "COMPACT_STRINGS" "Z" (.int z)) (hz : ¬ z = 0) (F : RoadKit.Sta Z h "jdk/internal/util/Preconditions" "SIOOBE_FORMATTER" "Ljava/util/function/BiFunction;" fm) (rf : fm.isRef = true) (l2 : cs.length ≤ 4000) (hi : i < cs.length) (hj : j = Int32.ofNat i) (hfr : 4 ≤ R.frames) (hlo : W + 53 ≤ R.locals) :
    Back l R p e below s args (⟨"java/lang/String", "charAt", "(I)C"⟩ : MethodName) len W (fun P a => a = #[.ref x, .int j] ∧ P.U.heap = h ∧ P.cells + 0 ≤ R.cells ∧ P.slots + 0 ≤ R.slots)
      (fun P _ v B => ∃ L, (v = some (.int (cs.getD i 0)) ∧ L = [] ∧ B.U.heap = h) ∧ B.locs = P.locs ++ L ∧ B.cells = P.cells + 0 ∧ B.slots = P.slots + 0) := by
  subst hj
  intro m meth c P g ig mk a X hg hsize hdg hW hn hp'
  obtain ⟨rfl, rfl, r1, r2⟩ := hp'
  have al : Z.vm.Alike P.U.vm := hZ.alike.trans X.warmed.alike
  obtain ⟨A, hx⟩ := txt_of wi al E V C K hc hb l2
  obtain ⟨v, B, X', ⟨⟨hv, hh⟩, hl, hk, hs⟩, st⟩ := ChN.pays x t A cs.length (fun j => cs.getD j 0) z fm i (tabChN_of (movedChN hZ hw)) hfr hlo m meth c P g ig mk _ X hg hsize hdg hW hn ⟨r1, r2, rfl, hx, hi, sta_is al S, hz, sta_is al F, rf⟩
  exact ⟨v, B, X', ⟨[], ⟨hv, rfl, hh⟩, hl, hk, hs⟩, st⟩
/-- what backV says of its String, as the contracts of this text ask it: cs's low bytes, coder 0 -/
theorem codOf {cs : List Int32} {n : Nat} (hn : cs.length = n) (hb : ∀ c ∈ cs, ¬ 255 < c) : CodA cs 0 (Int32.ofNat n) ((cs.map lo8).map Value.int) := Or.inl ⟨rfl, by rw [hn], by simp [List.map_map, Function.comp_def], hb⟩
end StrChars.Road
end Jvm.Pilot.@@N@@
namespace Jvm.Pilot.@@N@@
open Jvm Jvm.ClassFile Sem Op Lib Jvm.Free Jvm.Stand Jvm.LawKit Jvm.RoadKit Bundle Jvm.Pilot.@@N@@.Jvm.D
namespace Own
open Jvm Jvm.ClassFile Sem Op Lib Jvm.Free Jvm.Stand Jvm.LawKit Jvm.RoadKit Bundle
abbrev i2c (x : Int32) : Int32 := x.toUInt32.toUInt16.toUInt32.toInt32
/-- from the frame g of T the run comes to an end of which G speaks -/
def Go (p : Program) (e : Env) (below : List Frame) (G : State → Prop) (T : State) (g : JFrame) : Prop := ∃ t, Steps p.tables e below (T.setTop g) t ∧ G t
/-- where a walk stands: Stand, the run's own machine, the heap, the tables, its class, what was written, what was kept -/
def NK (p : Program) (l : Launch) (e : Env) (R : Room) (s : State) (m : MethodId) (args : Array Value) (below : List Frame) (meth : Method) (c : Code) (Z : State) (own : String) (n0 : Nat) (h0 : Heap) (ws : List Addr) (T : State) (h : Heap) (locs : List Loc) (cells slots : Nat) : Prop :=
  Stand p l e R s m args below meth c T locs cells slots ∧ p.tables.exec = Jvm.exec ∧ T.heap = h ∧ Z.Warmed39 s.vm ∧ s.vm.findClass own = some m.cls ∧ Fr n0 locs ∧ Keep h0 h ws ∧ n0 ≤ h0.size ∧ meth.locks = false
theorem Keep.toExt {h h' : Heap} (K : Keep h h' []) : Ext h h' := ⟨K.1, fun a c q => K.2.1 a c q nin0⟩
theorem Keep.ofExt {h h' : Heap} (E : Ext h h') (ws : List Addr) : Keep h h' ws := (Keep.refl h ws).ext E
theorem Ext.rfl' (h : Heap) : Ext h h := ⟨Nat.le_refl _, fun _ _ q => q⟩
theorem Ext.tr {h h' h2 : Heap} (E : Ext h h') (E' : Ext h' h2) : Ext h h2 := ⟨Nat.le_trans E.1 E'.1, fun a c q => E'.2 a c (E.2 a c q)⟩
section Steps1
variable {p : Program} {l : Launch} {e : Env} {R : Room} {s : State} {m : MethodId} {args : Array Value} {below : List Frame} {meth : Method} {c : Code} {Z : State} {own : String} {n0 : Nat} {h0 : Heap} {ws : List Addr} {T T' : State} {h h' : Heap} {locs : List Loc} {cells slots : Nat} {G : State → Prop} {g g' : JFrame} {a0 : Array Value} {pc pc' : Nat} {Ls Ls' : Array Slot} {st rest : List Value}
theorem Go.by1 (f : ∀ t, Steps p.tables e below (T'.setTop g') t → Steps p.tables e below (T.setTop g) t) (k : Go p e below G T' g') : Go p e below G T g := by
  obtain ⟨t, a, b⟩ := k
  exact ⟨t, f t a, b⟩
theorem Go.tr (f : Steps p.tables e below (T.setTop g) (T'.setTop g')) (k : Go p e below G T' g') : Go p e below G T g := by
  obtain ⟨t, a, b⟩ := k
  exact ⟨t, f.trans a, b⟩
/-- a value gets a name -/
theorem lets {α : Type} {P : α → Prop} (x : α) (k : ∀ y, y = x → P y) : P x := k x rfl
theorem NK.iloadN (W : NK p l e R s m args below meth c Z own n0 h0 ws T h locs cells slots) {k : Fin 4} {v : Int32} (hd : decode c.code pc = .ok (.iload_n k, 1)) (hl : Ls[k.val]? = some (.val (.int v))) (hp : pc + 1 = pc') (k' : Go p e below G T (mkF m pc' Ls (.int v :: st))) : Go p e below G T (mkF m pc Ls (st)) := by
  subst hp; exact Go.by1 (fun t q => XS.iloadN W.1.here W.2.1 rfl hd hl q) k'
theorem NK.iload (W : NK p l e R s m args below meth c Z own n0 h0 ws T h locs cells slots) {k : Nat} {v : Int32} (hd : decode c.code pc = .ok (.iload k, 2)) (hl : Ls[k]? = some (.val (.int v))) (hp : pc + 2 = pc') (k' : Go p e below G T (mkF m pc' Ls (.int v :: st))) : Go p e below G T (mkF m pc Ls (st)) := by
  subst hp; exact Go.by1 (fun t q => XS.iload W.1.here W.2.1 rfl hd hl q) k'
theorem NK.istoreN (W : NK p l e R s m args below meth c Z own n0 h0 ws T h locs cells slots) {k : Fin 4} {x : Int32} (hd : decode c.code pc = .ok (.istore_n k, 1)) (hl : storeLocals Ls k.val (.int x) = some Ls') (hp : pc + 1 = pc') (k' : Go p e below G T (mkF m pc' Ls' (rest))) : Go p e below G T (mkF m pc Ls (.int x :: rest)) := by
  subst hp; exact Go.by1 (fun t q => XS.istoreN W.1.here W.2.1 rfl hd rfl hl q) k'
theorem NK.istore (W : NK p l e R s m args below meth c Z own n0 h0 ws T h locs cells slots) {k : Nat} {x : Int32} (hd : decode c.code pc = .ok (.istore k, 2)) (hl : storeLocals Ls k (.int x) = some Ls') (hp : pc + 2 = pc') (k' : Go p e below G T (mkF m pc' Ls' (rest))) : Go p e below G T (mkF m pc Ls (.int x :: rest)) := by
  subst hp; exact Go.by1 (fun t q => XS.istore W.1.here W.2.1 rfl hd rfl hl q) k'
theorem NK.lloadN (W : NK p l e R s m args below meth c Z own n0 h0 ws T h locs cells slots) {k : Fin 4} {v : Int64} (hd : decode c.code pc = .ok (.lload_n k, 1)) (hl : Ls[k.val]? = some (.val (.long v))) (hp : pc + 1 = pc') (k' : Go p e below G T (mkF m pc' Ls (.long v :: st))) : Go p e below G T (mkF m pc Ls (st)) := by
  subst hp; exact Go.by1 (fun t q => XT.lloadN W.1.here W.2.1 rfl hd hl q) k'
theorem NK.lload (W : NK p l e R s m args below meth c Z own n0 h0 ws T h locs cells slots) {k : Nat} {v : Int64} (hd : decode c.code pc = .ok (.lload k, 2)) (hl : Ls[k]? = some (.val (.long v))) (hp : pc + 2 = pc') (k' : Go p e below G T (mkF m pc' Ls (.long v :: st))) : Go p e below G T (mkF m pc Ls (st)) := by
  subst hp; exact Go.by1 (fun t q => XT.lload W.1.here W.2.1 rfl hd hl q) k'
theorem NK.lstoreN (W : NK p l e R s m args below meth c Z own n0 h0 ws T h locs cells slots) {k : Fin 4} {x : Int64} (hd : decode c.code pc = .ok (.lstore_n k, 1)) (hl : storeLocals Ls k.val (.long x) = some Ls') (hp : pc + 1 = pc') (k' : Go p e below G T (mkF m pc' Ls' (rest))) : Go p e below G T (mkF m pc Ls (.long x :: rest)) := by
  subst hp; exact Go.by1 (fun t q => XT.lstoreN W.1.here W.2.1 rfl hd rfl hl q) k'
theorem NK.lstore (W : NK p l e R s m args below meth c Z own n0 h0 ws T h locs cells slots) {k : Nat} {x : Int64} (hd : decode c.code pc = .ok (.lstore k, 2)) (hl : storeLocals Ls k (.long x) = some Ls') (hp : pc + 2 = pc') (k' : Go p e below G T (mkF m pc' Ls' (rest))) : Go p e below G T (mkF m pc Ls (.long x :: rest)) := by
  subst hp; exact Go.by1 (fun t q => XT.lstore W.1.here W.2.1 rfl hd rfl hl q) k'
theorem NK.aloadN (W : NK p l e R s m args below meth c Z own n0 h0 ws T h locs cells slots) {k : Fin 4} {v : Value} (hd : decode c.code pc = .ok (.aload_n k, 1)) (hl : Ls[k.val]? = some (.val v)) (hv : v.isRef = true) (hp : pc + 1 = pc') (k' : Go p e below G T (mkF m pc' Ls (v :: st))) : Go p e below G T (mkF m pc Ls (st)) := by
  subst hp; exact Go.by1 (fun t q => XS.aloadN W.1.here W.2.1 rfl hd hl hv q) k'
theorem NK.aload (W : NK p l e R s m args below meth c Z own n0 h0 ws T h locs cells slots) {k : Nat} {v : Value} (hd : decode c.code pc = .ok (.aload k, 2)) (hl : Ls[k]? = some (.val v)) (hv : v.isRef = true) (hp : pc + 2 = pc') (k' : Go p e below G T (mkF m pc' Ls (v :: st))) : Go p e below G T (mkF m pc Ls (st)) := by
  subst hp; exact Go.by1 (fun t q => XS.aload W.1.here W.2.1 rfl hd hl hv q) k'
theorem NK.astoreN (W : NK p l e R s m args below meth c Z own n0 h0 ws T h locs cells slots) {k : Fin 4} {x : Value} (hd : decode c.code pc = .ok (.astore_n k, 1)) (hv : x.isRef = true) (hl : storeLocals Ls k.val x = some Ls') (hp : pc + 1 = pc') (k' : Go p e below G T (mkF m pc' Ls' (rest))) : Go p e below G T (mkF m pc Ls (x :: rest)) := by
  subst hp; exact Go.by1 (fun t q => XS.astoreN W.1.here W.2.1 rfl hd rfl hv hl q) k'
theorem NK.astore (W : NK p l e R s m args below meth c Z own n0 h0 ws T h locs cells slots) {k : Nat} {x : Value} (hd : decode c.code pc = .ok (.astore k, 2)) (hv : x.isRef = true) (hl : storeLocals Ls k x = some Ls') (hp : pc + 2 = pc') (k' : Go p e below G T (mkF m pc' Ls' (rest))) : Go p e below G T (mkF m pc Ls (x :: rest)) := by
  subst hp; exact Go.by1 (fun t q => XS.astore W.1.here W.2.1 rfl hd rfl hv hl q) k'
theorem NK.iconst (W : NK p l e R s m args below meth c Z own n0 h0 ws T h locs cells slots) {i : Int} (v : Int32) (hd : decode c.code pc = .ok (.iconst i, 1)) (hv : Int32.ofInt i = v) (hp : pc + 1 = pc') (k' : Go p e below G T (mkF m pc' Ls (.int v :: st))) : Go p e below G T (mkF m pc Ls (st)) := by
  subst hp; exact Go.by1 (fun t q => XT.iconstV W.1.here W.2.1 rfl v hd hv q) k'
theorem NK.bipush (W : NK p l e R s m args below meth c Z own n0 h0 ws T h locs cells slots) {i : Int} (v : Int32) (hd : decode c.code pc = .ok (.bipush i, 2)) (hv : (Int8.ofInt i).toInt32 = v) (hp : pc + 2 = pc') (k' : Go p e below G T (mkF m pc' Ls (.int v :: st))) : Go p e below G T (mkF m pc Ls (st)) := by
  subst hp; exact Go.by1 (fun t q => XT.bipushV W.1.here W.2.1 rfl v hd hv q) k'
theorem NK.sipush (W : NK p l e R s m args below meth c Z own n0 h0 ws T h locs cells slots) {i : Int} (v : Int32) (hd : decode c.code pc = .ok (.sipush i, 3)) (hv : (Int16.ofInt i).toInt32 = v) (hp : pc + 3 = pc') (k' : Go p e below G T (mkF m pc' Ls (.int v :: st))) : Go p e below G T (mkF m pc Ls (st)) := by
  subst hp; exact Go.by1 (fun t q => XT.sipushV W.1.here W.2.1 rfl v hd hv q) k'
theorem NK.lconst (W : NK p l e R s m args below meth c Z own n0 h0 ws T h locs cells slots) {k : Fin 2} (v : Int64) (hd : decode c.code pc = .ok (.lconst k, 1)) (hv : Int64.ofNat k = v) (hp : pc + 1 = pc') (k' : Go p e below G T (mkF m pc' Ls (.long v :: st))) : Go p e below G T (mkF m pc Ls (st)) := by
  subst hp; exact Go.by1 (fun t q => XT.lconstV W.1.here W.2.1 rfl v hd hv q) k'
theorem NK.aconstNull (W : NK p l e R s m args below meth c Z own n0 h0 ws T h locs cells slots)  (hd : decode c.code pc = .ok (.aconst_null, 1))  (hp : pc + 1 = pc') (k' : Go p e below G T (mkF m pc' Ls (.null :: st))) : Go p e below G T (mkF m pc Ls (st)) := by
  subst hp; exact Go.by1 (fun t q => XS.aconstNull W.1.here W.2.1 rfl hd q) k'
theorem NK.iadd (W : NK p l e R s m args below meth c Z own n0 h0 ws T h locs cells slots) {x y : Int32} (hd : decode c.code pc = .ok (.iadd, 1))  (hp : pc + 1 = pc') (k' : Go p e below G T (mkF m pc' Ls (.int (x + y) :: rest))) : Go p e below G T (mkF m pc Ls (.int y :: .int x :: rest)) := by
  subst hp; exact Go.by1 (fun t q => XS.iadd W.1.here W.2.1 rfl hd rfl q) k'
theorem NK.isub (W : NK p l e R s m args below meth c Z own n0 h0 ws T h locs cells slots) {x y : Int32} (hd : decode c.code pc = .ok (.isub, 1))  (hp : pc + 1 = pc') (k' : Go p e below G T (mkF m pc' Ls (.int (x - y) :: rest))) : Go p e below G T (mkF m pc Ls (.int y :: .int x :: rest)) := by
  subst hp; exact Go.by1 (fun t q => XS.isub W.1.here W.2.1 rfl hd rfl q) k'
theorem NK.iand (W : NK p l e R s m args below meth c Z own n0 h0 ws T h locs cells slots) {x y : Int32} (hd : decode c.code pc = .ok (.iand, 1))  (hp : pc + 1 = pc') (k' : Go p e below G T (mkF m pc' Ls (.int (x &&& y) :: rest))) : Go p e below G T (mkF m pc Ls (.int y :: .int x :: rest)) := by
  subst hp; exact Go.by1 (fun t q => XS.iand W.1.here W.2.1 rfl hd rfl q) k'
theorem NK.imul (W : NK p l e R s m args below meth c Z own n0 h0 ws T h locs cells slots) {x y : Int32} (hd : decode c.code pc = .ok (.imul, 1))  (hp : pc + 1 = pc') (k' : Go p e below G T (mkF m pc' Ls (.int (x * y) :: rest))) : Go p e below G T (mkF m pc Ls (.int y :: .int x :: rest)) := by
  subst hp; exact Go.by1 (fun t q => XS.imul W.1.here W.2.1 rfl hd rfl q) k'
theorem NK.ixor (W : NK p l e R s m args below meth c Z own n0 h0 ws T h locs cells slots) {x y : Int32} (hd : decode c.code pc = .ok (.ixor, 1))  (hp : pc + 1 = pc') (k' : Go p e below G T (mkF m pc' Ls (.int (x ^^^ y) :: rest))) : Go p e below G T (mkF m pc Ls (.int y :: .int x :: rest)) := by
  subst hp; exact Go.by1 (fun t q => XT.ixor W.1.here W.2.1 rfl hd rfl q) k'
theorem NK.ior (W : NK p l e R s m args below meth c Z own n0 h0 ws T h locs cells slots) {x y : Int32} (hd : decode c.code pc = .ok (.ior, 1))  (hp : pc + 1 = pc') (k' : Go p e below G T (mkF m pc' Ls (.int (x ||| y) :: rest))) : Go p e below G T (mkF m pc Ls (.int y :: .int x :: rest)) := by
  subst hp; exact Go.by1 (fun t q => XT.ior W.1.here W.2.1 rfl hd rfl q) k'
theorem NK.ishl (W : NK p l e R s m args below meth c Z own n0 h0 ws T h locs cells slots) {x y : Int32} (hd : decode c.code pc = .ok (.ishl, 1))  (hp : pc + 1 = pc') (k' : Go p e below G T (mkF m pc' Ls (.int (x <<< (y &&& 31)) :: rest))) : Go p e below G T (mkF m pc Ls (.int y :: .int x :: rest)) := by
  subst hp; exact Go.by1 (fun t q => XT.ishl W.1.here W.2.1 rfl hd rfl q) k'
theorem NK.ishr (W : NK p l e R s m args below meth c Z own n0 h0 ws T h locs cells slots) {x y : Int32} (hd : decode c.code pc = .ok (.ishr, 1))  (hp : pc + 1 = pc') (k' : Go p e below G T (mkF m pc' Ls (.int (x >>> (y &&& 31)) :: rest))) : Go p e below G T (mkF m pc Ls (.int y :: .int x :: rest)) := by
  subst hp; exact Go.by1 (fun t q => XT.ishr W.1.here W.2.1 rfl hd rfl q) k'
theorem NK.iushr (W : NK p l e R s m args below meth c Z own n0 h0 ws T h locs cells slots) {x y : Int32} (hd : decode c.code pc = .ok (.iushr, 1))  (hp : pc + 1 = pc') (k' : Go p e below G T (mkF m pc' Ls (.int (XT.ushr x y) :: rest))) : Go p e below G T (mkF m pc Ls (.int y :: .int x :: rest)) := by
  subst hp; exact Go.by1 (fun t q => XT.iushr W.1.here W.2.1 rfl hd rfl q) k'
theorem NK.ladd (W : NK p l e R s m args below meth c Z own n0 h0 ws T h locs cells slots) {x y : Int64} (hd : decode c.code pc = .ok (.ladd, 1))  (hp : pc + 1 = pc') (k' : Go p e below G T (mkF m pc' Ls (.long (x + y) :: rest))) : Go p e below G T (mkF m pc Ls (.long y :: .long x :: rest)) := by
  subst hp; exact Go.by1 (fun t q => XT.ladd W.1.here W.2.1 rfl hd rfl q) k'
theorem NK.lsub (W : NK p l e R s m args below meth c Z own n0 h0 ws T h locs cells slots) {x y : Int64} (hd : decode c.code pc = .ok (.lsub, 1))  (hp : pc + 1 = pc') (k' : Go p e below G T (mkF m pc' Ls (.long (x - y) :: rest))) : Go p e below G T (mkF m pc Ls (.long y :: .long x :: rest)) := by
  subst hp; exact Go.by1 (fun t q => XT.lsub W.1.here W.2.1 rfl hd rfl q) k'
theorem NK.lmul (W : NK p l e R s m args below meth c Z own n0 h0 ws T h locs cells slots) {x y : Int64} (hd : decode c.code pc = .ok (.lmul, 1))  (hp : pc + 1 = pc') (k' : Go p e below G T (mkF m pc' Ls (.long (x * y) :: rest))) : Go p e below G T (mkF m pc Ls (.long y :: .long x :: rest)) := by
  subst hp; exact Go.by1 (fun t q => XT.lmul W.1.here W.2.1 rfl hd rfl q) k'
theorem NK.land (W : NK p l e R s m args below meth c Z own n0 h0 ws T h locs cells slots) {x y : Int64} (hd : decode c.code pc = .ok (.land, 1))  (hp : pc + 1 = pc') (k' : Go p e below G T (mkF m pc' Ls (.long (x &&& y) :: rest))) : Go p e below G T (mkF m pc Ls (.long y :: .long x :: rest)) := by
  subst hp; exact Go.by1 (fun t q => XT.land W.1.here W.2.1 rfl hd rfl q) k'
theorem NK.lor (W : NK p l e R s m args below meth c Z own n0 h0 ws T h locs cells slots) {x y : Int64} (hd : decode c.code pc = .ok (.lor, 1))  (hp : pc + 1 = pc') (k' : Go p e below G T (mkF m pc' Ls (.long (x ||| y) :: rest))) : Go p e below G T (mkF m pc Ls (.long y :: .long x :: rest)) := by
  subst hp; exact Go.by1 (fun t q => XT.lor W.1.here W.2.1 rfl hd rfl q) k'
theorem NK.lxor (W : NK p l e R s m args below meth c Z own n0 h0 ws T h locs cells slots) {x y : Int64} (hd : decode c.code pc = .ok (.lxor, 1))  (hp : pc + 1 = pc') (k' : Go p e below G T (mkF m pc' Ls (.long (x ^^^ y) :: rest))) : Go p e below G T (mkF m pc Ls (.long y :: .long x :: rest)) := by
  subst hp; exact Go.by1 (fun t q => XT.lxor W.1.here W.2.1 rfl hd rfl q) k'
theorem NK.lshl (W : NK p l e R s m args below meth c Z own n0 h0 ws T h locs cells slots) {x : Int64} {y : Int32} (hd : decode c.code pc = .ok (.lshl, 1))  (hp : pc + 1 = pc') (k' : Go p e below G T (mkF m pc' Ls (.long (x <<< (y.toInt64 &&& 63)) :: rest))) : Go p e below G T (mkF m pc Ls (.int y :: .long x :: rest)) := by
  subst hp; exact Go.by1 (fun t q => XT.lshl W.1.here W.2.1 rfl hd rfl q) k'
theorem NK.lshr (W : NK p l e R s m args below meth c Z own n0 h0 ws T h locs cells slots) {x : Int64} {y : Int32} (hd : decode c.code pc = .ok (.lshr, 1))  (hp : pc + 1 = pc') (k' : Go p e below G T (mkF m pc' Ls (.long (x >>> (y.toInt64 &&& 63)) :: rest))) : Go p e below G T (mkF m pc Ls (.int y :: .long x :: rest)) := by
  subst hp; exact Go.by1 (fun t q => XT.lshr W.1.here W.2.1 rfl hd rfl q) k'
theorem NK.lushr (W : NK p l e R s m args below meth c Z own n0 h0 ws T h locs cells slots) {x : Int64} {y : Int32} (hd : decode c.code pc = .ok (.lushr, 1))  (hp : pc + 1 = pc') (k' : Go p e below G T (mkF m pc' Ls (.long (XT.ushrL x y) :: rest))) : Go p e below G T (mkF m pc Ls (.int y :: .long x :: rest)) := by
  subst hp; exact Go.by1 (fun t q => XT.lushr W.1.here W.2.1 rfl hd rfl q) k'
theorem NK.ldiv (W : NK p l e R s m args below meth c Z own n0 h0 ws T h locs cells slots) {x y : Int64} (hd : decode c.code pc = .ok (.ldiv, 1)) (hy : y ≠ 0) (hp : pc + 1 = pc') (k' : Go p e below G T (mkF m pc' Ls (.long (x / y) :: rest))) : Go p e below G T (mkF m pc Ls (.long y :: .long x :: rest)) := by
  subst hp; exact Go.by1 (fun t q => XT.ldiv W.1.here W.2.1 rfl hd rfl hy q) k'
theorem NK.lrem (W : NK p l e R s m args below meth c Z own n0 h0 ws T h locs cells slots) {x y : Int64} (hd : decode c.code pc = .ok (.lrem, 1)) (hy : y ≠ 0) (hp : pc + 1 = pc') (k' : Go p e below G T (mkF m pc' Ls (.long (x - (x / y) * y) :: rest))) : Go p e below G T (mkF m pc Ls (.long y :: .long x :: rest)) := by
  subst hp; exact Go.by1 (fun t q => XT.lrem W.1.here W.2.1 rfl hd rfl hy q) k'
theorem NK.idiv (W : NK p l e R s m args below meth c Z own n0 h0 ws T h locs cells slots) {x y : Int32} (hd : decode c.code pc = .ok (.idiv, 1)) (hy : y ≠ 0) (hp : pc + 1 = pc') (k' : Go p e below G T (mkF m pc' Ls (.int (x / y) :: rest))) : Go p e below G T (mkF m pc Ls (.int y :: .int x :: rest)) := by
  subst hp; exact Go.by1 (fun t q => XS.idiv W.1.here W.2.1 rfl hd rfl hy q) k'
theorem NK.irem (W : NK p l e R s m args below meth c Z own n0 h0 ws T h locs cells slots) {x y : Int32} (hd : decode c.code pc = .ok (.irem, 1)) (hy : y ≠ 0) (hp : pc + 1 = pc') (k' : Go p e below G T (mkF m pc' Ls (.int (x % y) :: rest))) : Go p e below G T (mkF m pc Ls (.int y :: .int x :: rest)) := by
  subst hp; exact Go.by1 (fun t q => iremM W.1 W.2.1 rfl hd rfl hy q) k'
theorem NK.ineg (W : NK p l e R s m args below meth c Z own n0 h0 ws T h locs cells slots) {x : Int32} (hd : decode c.code pc = .ok (.ineg, 1))  (hp : pc + 1 = pc') (k' : Go p e below G T (mkF m pc' Ls (.int (-x) :: rest))) : Go p e below G T (mkF m pc Ls (.int x :: rest)) := by
  subst hp; exact Go.by1 (fun t q => XS.ineg W.1.here W.2.1 rfl hd rfl q) k'
theorem NK.lneg (W : NK p l e R s m args below meth c Z own n0 h0 ws T h locs cells slots) {x : Int64} (hd : decode c.code pc = .ok (.lneg, 1))  (hp : pc + 1 = pc') (k' : Go p e below G T (mkF m pc' Ls (.long (-x) :: rest))) : Go p e below G T (mkF m pc Ls (.long x :: rest)) := by
  subst hp; exact Go.by1 (fun t q => XT.lneg W.1.here W.2.1 rfl hd rfl q) k'
theorem NK.i2l (W : NK p l e R s m args below meth c Z own n0 h0 ws T h locs cells slots) {x : Int32} (hd : decode c.code pc = .ok (.i2l, 1))  (hp : pc + 1 = pc') (k' : Go p e below G T (mkF m pc' Ls (.long x.toInt64 :: rest))) : Go p e below G T (mkF m pc Ls (.int x :: rest)) := by
  subst hp; exact Go.by1 (fun t q => XT.i2l W.1.here W.2.1 rfl hd rfl q) k'
theorem NK.l2i (W : NK p l e R s m args below meth c Z own n0 h0 ws T h locs cells slots) {x : Int64} (hd : decode c.code pc = .ok (.l2i, 1))  (hp : pc + 1 = pc') (k' : Go p e below G T (mkF m pc' Ls (.int x.toInt32 :: rest))) : Go p e below G T (mkF m pc Ls (.long x :: rest)) := by
  subst hp; exact Go.by1 (fun t q => XT.l2i W.1.here W.2.1 rfl hd rfl q) k'
theorem NK.i2b (W : NK p l e R s m args below meth c Z own n0 h0 ws T h locs cells slots) {x : Int32} (hd : decode c.code pc = .ok (.i2b, 1))  (hp : pc + 1 = pc') (k' : Go p e below G T (mkF m pc' Ls (.int x.toInt8.toInt32 :: rest))) : Go p e below G T (mkF m pc Ls (.int x :: rest)) := by
  subst hp; exact Go.by1 (fun t q => XT.i2b W.1.here W.2.1 rfl hd rfl q) k'
theorem NK.i2c (W : NK p l e R s m args below meth c Z own n0 h0 ws T h locs cells slots) {x : Int32} (hd : decode c.code pc = .ok (.i2c, 1))  (hp : pc + 1 = pc') (k' : Go p e below G T (mkF m pc' Ls (.int (i2c x) :: rest))) : Go p e below G T (mkF m pc Ls (.int x :: rest)) := by
  subst hp; exact Go.by1 (fun t q => XT.i2c W.1.here W.2.1 rfl hd rfl q) k'
theorem NK.lcmp (W : NK p l e R s m args below meth c Z own n0 h0 ws T h locs cells slots) {x y : Int64} (hd : decode c.code pc = .ok (.lcmp, 1))  (hp : pc + 1 = pc') (k' : Go p e below G T (mkF m pc' Ls (.int (XT.cmpL x y) :: rest))) : Go p e below G T (mkF m pc Ls (.long y :: .long x :: rest)) := by
  subst hp; exact Go.by1 (fun t q => XT.lcmp W.1.here W.2.1 rfl hd rfl q) k'
theorem NK.iinc (W : NK p l e R s m args below meth c Z own n0 h0 ws T h locs cells slots) {k : Nat} {i : Int} {x : Int32} (v : Int32) (hd : decode c.code pc = .ok (.iinc k i, 3)) (hv : Int32.ofInt i = v) (hl : Ls[k]? = some (.val (.int x))) (hl' : storeLocals Ls k (.int (x + v)) = some Ls') (hp : pc + 3 = pc') (k' : Go p e below G T (mkF m pc' Ls' (st))) : Go p e below G T (mkF m pc Ls (st)) := by
  subst hp; exact Go.by1 (fun t q => XT.iincV W.1.here W.2.1 rfl v hd hv hl hl' q) k'
theorem NK.dup (W : NK p l e R s m args below meth c Z own n0 h0 ws T h locs cells slots) {x : Value} (hd : decode c.code pc = .ok (.dup, 1)) (hc : x.category = 1) (hp : pc + 1 = pc') (k' : Go p e below G T (mkF m pc' Ls (x :: x :: rest))) : Go p e below G T (mkF m pc Ls (x :: rest)) := by
  subst hp; exact Go.by1 (fun t q => XS.dup W.1.here W.2.1 rfl hd rfl hc q) k'
theorem NK.pop (W : NK p l e R s m args below meth c Z own n0 h0 ws T h locs cells slots) {x : Value} (hd : decode c.code pc = .ok (.pop, 1)) (hc : x.category = 1) (hp : pc + 1 = pc') (k' : Go p e below G T (mkF m pc' Ls (rest))) : Go p e below G T (mkF m pc Ls (x :: rest)) := by
  subst hp; exact Go.by1 (fun t q => XT.pop W.1.here W.2.1 rfl hd rfl hc q) k'
theorem NK.dupX1 (W : NK p l e R s m args below meth c Z own n0 h0 ws T h locs cells slots) {x y : Value} (hd : decode c.code pc = .ok (.dup_x1, 1)) (hc : x.category = 1) (hc' : y.category = 1) (hp : pc + 1 = pc') (k' : Go p e below G T (mkF m pc' Ls (x :: y :: x :: rest))) : Go p e below G T (mkF m pc Ls (x :: y :: rest)) := by
  subst hp; exact Go.by1 (fun t q => XT.dupX1 W.1.here W.2.1 rfl hd rfl hc hc' q) k'
theorem NK.dup2 (W : NK p l e R s m args below meth c Z own n0 h0 ws T h locs cells slots) {x y : Value} (hd : decode c.code pc = .ok (.dup2, 1)) (hc : x.category = 1) (hc' : y.category = 1) (hp : pc + 1 = pc') (k' : Go p e below G T (mkF m pc' Ls (x :: y :: x :: y :: rest))) : Go p e below G T (mkF m pc Ls (x :: y :: rest)) := by
  subst hp; exact Go.by1 (fun t q => XT.dup2 W.1.here W.2.1 rfl hd rfl hc hc' q) k'
theorem NK.goto (W : NK p l e R s m args below meth c Z own n0 h0 ws T h locs cells slots)  {o : Int} (hd : decode c.code pc = .ok (.goto o, 3))  (ho : 0 ≤ (pc : Int) + o) (hp : ((pc : Int) + o).toNat = pc') (k' : Go p e below G T (mkF m pc' Ls (rest))) : Go p e below G T (mkF m pc Ls (rest)) := by
  exact Go.by1 (fun t q => XS.goto W.1.here W.2.1 rfl rfl hd ho hp q) k'
theorem NK.ifYes (W : NK p l e R s m args below meth c Z own n0 h0 ws T h locs cells slots) {cd : ClassFile.Cond} {x : Int32} {o : Int} (hd : decode c.code pc = .ok (.ifCond cd o, 3)) (hc : ifCond.holds cd x = true) (ho : 0 ≤ (pc : Int) + o) (hp : ((pc : Int) + o).toNat = pc') (k' : Go p e below G T (mkF m pc' Ls (rest))) : Go p e below G T (mkF m pc Ls (.int x :: rest)) := by
  exact Go.by1 (fun t q => XS.ifYes W.1.here W.2.1 rfl rfl hd rfl hc ho hp q) k'
theorem NK.icmpYes (W : NK p l e R s m args below meth c Z own n0 h0 ws T h locs cells slots) {cd : ClassFile.Cond} {x y : Int32} {o : Int} (hd : decode c.code pc = .ok (.if_icmp cd o, 3)) (hc : if_icmp.holds cd x y = true) (ho : 0 ≤ (pc : Int) + o) (hp : ((pc : Int) + o).toNat = pc') (k' : Go p e below G T (mkF m pc' Ls (rest))) : Go p e below G T (mkF m pc Ls (.int y :: .int x :: rest)) := by
  exact Go.by1 (fun t q => XS.icmpYes W.1.here W.2.1 rfl rfl hd rfl hc ho hp q) k'
theorem NK.ifNo (W : NK p l e R s m args below meth c Z own n0 h0 ws T h locs cells slots) {cd : ClassFile.Cond} {x : Int32} {o : Int} (hd : decode c.code pc = .ok (.ifCond cd o, 3)) (hc : ifCond.holds cd x = false) (hp : pc + 3 = pc') (k' : Go p e below G T (mkF m pc' Ls (rest))) : Go p e below G T (mkF m pc Ls (.int x :: rest)) := by
  subst hp; exact Go.by1 (fun t q => XS.ifNo W.1.here W.2.1 rfl hd rfl hc q) k'
theorem NK.icmpNo (W : NK p l e R s m args below meth c Z own n0 h0 ws T h locs cells slots) {cd : ClassFile.Cond} {x y : Int32} {o : Int} (hd : decode c.code pc = .ok (.if_icmp cd o, 3)) (hc : if_icmp.holds cd x y = false) (hp : pc + 3 = pc') (k' : Go p e below G T (mkF m pc' Ls (rest))) : Go p e below G T (mkF m pc Ls (.int y :: .int x :: rest)) := by
  subst hp; exact Go.by1 (fun t q => XS.icmpNo W.1.here W.2.1 rfl hd rfl hc q) k'
theorem NK.ifnullYes (W : NK p l e R s m args below meth c Z own n0 h0 ws T h locs cells slots)  {o : Int} (hd : decode c.code pc = .ok (.ifnull o, 3))  (ho : 0 ≤ (pc : Int) + o) (hp : ((pc : Int) + o).toNat = pc') (k' : Go p e below G T (mkF m pc' Ls (rest))) : Go p e below G T (mkF m pc Ls (.null :: rest)) := by
  exact Go.by1 (fun t q => XS.ifnullYes W.1.here W.2.1 rfl rfl hd rfl ho hp q) k'
theorem NK.ifnonnullYes (W : NK p l e R s m args below meth c Z own n0 h0 ws T h locs cells slots) {b : Addr} {o : Int} (hd : decode c.code pc = .ok (.ifnonnull o, 3))  (ho : 0 ≤ (pc : Int) + o) (hp : ((pc : Int) + o).toNat = pc') (k' : Go p e below G T (mkF m pc' Ls (rest))) : Go p e below G T (mkF m pc Ls (.ref b :: rest)) := by
  exact Go.by1 (fun t q => XT.ifnonnullYes W.1.here W.2.1 rfl rfl hd rfl ho hp q) k'
theorem NK.ifnullNo (W : NK p l e R s m args below meth c Z own n0 h0 ws T h locs cells slots) {b : Addr} {o : Int} (hd : decode c.code pc = .ok (.ifnull o, 3))  (hp : pc + 3 = pc') (k' : Go p e below G T (mkF m pc' Ls (rest))) : Go p e below G T (mkF m pc Ls (.ref b :: rest)) := by
  subst hp; exact Go.by1 (fun t q => XS.ifnullNo W.1.here W.2.1 rfl hd rfl q) k'
theorem NK.ifnonnullNo (W : NK p l e R s m args below meth c Z own n0 h0 ws T h locs cells slots) {o : Int} (hd : decode c.code pc = .ok (.ifnonnull o, 3))  (hp : pc + 3 = pc') (k' : Go p e below G T (mkF m pc' Ls (rest))) : Go p e below G T (mkF m pc Ls (.null :: rest)) := by
  subst hp; exact Go.by1 (fun t q => XT.ifnonnullNo W.1.here W.2.1 rfl hd rfl q) k'
theorem NK.acmpYes (W : NK p l e R s m args below meth c Z own n0 h0 ws T h locs cells slots) {cd : ClassFile.ACond} {x y : Value} {o : Int} (hd : decode c.code pc = .ok (.if_acmp cd o, 3)) (h1 : x.isRef = true) (h2 : y.isRef = true) (hc : XT.acmp cd x y = true) (ho : 0 ≤ (pc : Int) + o) (hp : ((pc : Int) + o).toNat = pc') (k' : Go p e below G T (mkF m pc' Ls (rest))) : Go p e below G T (mkF m pc Ls (y :: x :: rest)) := by
  exact Go.by1 (fun t q => XT.acmpYes W.1.here W.2.1 rfl rfl hd rfl h1 h2 hc ho hp q) k'
theorem NK.acmpNo (W : NK p l e R s m args below meth c Z own n0 h0 ws T h locs cells slots) {cd : ClassFile.ACond} {x y : Value} {o : Int} (hd : decode c.code pc = .ok (.if_acmp cd o, 3)) (h1 : x.isRef = true) (h2 : y.isRef = true) (hc : XT.acmp cd x y = false) (hp : pc + 3 = pc') (k' : Go p e below G T (mkF m pc' Ls (rest))) : Go p e below G T (mkF m pc Ls (y :: x :: rest)) := by
  subst hp; exact Go.by1 (fun t q => XT.acmpNo W.1.here W.2.1 rfl hd rfl h1 h2 hc q) k'
theorem NK.ldcI (W : NK p l e R s m args below meth c Z own n0 h0 ws T h locs cells slots) {index : Nat} {v : Int32} (hd : decode c.code pc = .ok (.ldc index, 2)) (w : (Cond.constant own index v).before a0 Z = true) (hp : pc + 2 = pc') (k' : Go p e below G T (mkF m pc' Ls (.int v :: st))) : Go p e below G T (mkF m pc Ls (st)) := by
  subst hp; exact Go.by1 (fun t q => W.1.ldcI W.2.1 W.2.2.2.2.1 (mv W.2.2.2.1 w) rfl hd q) k'
theorem NK.ldcWI (W : NK p l e R s m args below meth c Z own n0 h0 ws T h locs cells slots) {index : Nat} {v : Int32} (hd : decode c.code pc = .ok (.ldc_w index, 3)) (w : (Cond.constant own index v).before a0 Z = true) (hp : pc + 3 = pc') (k' : Go p e below G T (mkF m pc' Ls (.int v :: st))) : Go p e below G T (mkF m pc Ls (st)) := by
  subst hp; exact Go.by1 (fun t q => W.1.ldcWI W.2.1 W.2.2.2.2.1 (mv W.2.2.2.1 w) rfl hd q) k'
theorem NK.ldc2J (W : NK p l e R s m args below meth c Z own n0 h0 ws T h locs cells slots) {index : Nat} {v : Int64} (hd : decode c.code pc = .ok (.ldc2_w index, 3)) (w : (Cond.constantLong own index v).before a0 Z = true) (hp : pc + 3 = pc') (k' : Go p e below G T (mkF m pc' Ls (.long v :: st))) : Go p e below G T (mkF m pc Ls (st)) := by
  subst hp; exact Go.by1 (fun t q => W.1.ldc2J W.2.1 W.2.2.2.2.1 (mv W.2.2.2.1 w) rfl hd q) k'
end Steps1
section Nums1
theorem i2c_i2c (x : Int32) : i2c (i2c x) = i2c x := by simp only [i2c, UInt32.toUInt32_toInt32, UInt16.toUInt16_toUInt32]
theorem i2c_toInt (x : Int32) : (i2c x).toInt = x.toInt % 65536 := by
  have h1 : (i2c x).toBitVec = (x.toBitVec.setWidth 16).setWidth 32 := rfl
  have h2 : x.toInt = x.toBitVec.toInt := rfl
  have h3 : (i2c x).toInt = (i2c x).toBitVec.toInt := rfl
  rw [h2, h3, h1, BitVec.toInt_eq_toNat_cond, BitVec.toInt_eq_toNat_cond]
  have := x.toBitVec.isLt
  simp only [BitVec.toNat_setWidth]
  omega
theorem i2c_id {c : Int32} (h0 : ¬ c < 0) (h1 : ¬ 65535 < c) : i2c c = c := by
  apply Int32.toInt_inj.mp
  rw [i2c_toInt]
  simp only [Int32.lt_iff_toInt_lt, Int32.reduceToInt] at h0 h1
  omega
theorem i2c_lo (x : Int32) : ¬ i2c x < 0 ∧ ¬ 65535 < i2c x := by
  simp only [Int32.lt_iff_toInt_lt, Int32.reduceToInt, i2c_toInt]
  omega
theorem and_toInt (x : Int32) (k : Nat) (hk : k < 2^31): (x &&& Int32.ofNat k).toInt = ((x.toBitVec.toNat &&& k : Nat) : Int) := by
  have h3 : (x &&& Int32.ofNat k).toInt = (x.toBitVec &&& (Int32.ofNat k).toBitVec).toInt := rfl
  rw [h3, BitVec.toInt_eq_toNat_cond, BitVec.toNat_and]
  have e : (Int32.ofNat k).toBitVec.toNat = k := by
    show (BitVec.ofNat 32 k).toNat = k
    simp; omega
  rw [e]
  have : (x.toBitVec.toNat &&& k) ≤ k := Nat.and_le_right
  omega
theorem and255_lat (x : Int32) : ¬ (x &&& 255) < 0 ∧ ¬ 255 < (x &&& 255) := by
  have := and_toInt x 255 (by decide)
  have h : (x.toBitVec.toNat &&& 255) ≤ 255 := Nat.and_le_right
  have e : (Int32.ofNat 255) = (255 : Int32) := rfl
  rw [e] at this
  simp only [Int32.lt_iff_toInt_lt, Int32.reduceToInt, this]
  omega
theorem and_nonneg (x : Int32) : ¬ (x &&& 2147483647) < 0 := by
  have := and_toInt x 2147483647 (by decide)
  have e : (Int32.ofNat 2147483647) = (2147483647 : Int32) := rfl
  rw [e] at this
  simp only [Int32.lt_iff_toInt_lt, Int32.reduceToInt, this]
  omega
theorem rem_range {x : Int32} (k : Nat) (hk : 0 < k) (hk2 : k < 2^31) (hx : ¬ x < 0) : ∃ n : Nat, n < k ∧ x % Int32.ofNat k = Int32.ofNat n := by
  have e : (Int32.ofNat k).toInt = k := by
    have hz : Int32.size = 4294967296 := rfl
    rw [Int32.toInt_ofNat', Int.bmod_eq_of_le] <;> omega
  simp only [Int32.lt_iff_toInt_lt, Int32.reduceToInt] at hx
  refine ⟨(x.toInt % k).toNat, ?_, ?_⟩
  · have := Int.emod_lt_of_pos x.toInt (show (0:Int) < k by omega)
    have := Int.emod_nonneg x.toInt (show (k:Int) ≠ 0 by omega)
    omega
  · apply Int32.toInt_inj.mp
    rw [Int32.toInt_mod, e, Int32.toInt_ofNat']
    have := Int.emod_lt_of_pos x.toInt (show (0:Int) < k by omega)
    have := Int.emod_nonneg x.toInt (show (k:Int) ≠ 0 by omega)
    have hz : Int32.size = 4294967296 := rfl
    rw [Int.tmod_eq_emod_of_nonneg (by omega), Int.bmod_eq_of_le] <;> omega

theorem i2c_and255 (x : Int32) : i2c (x &&& 255) = x &&& 255 := i2c_id (and255_lat x).1 (by
  have := (and255_lat x).2
  simp only [Int32.lt_iff_toInt_lt, Int32.reduceToInt] at *; omega)
theorem lat_i2c {c : Int32} (h : ¬ c < 0 ∧ ¬ 255 < c) : i2c c = c := i2c_id h.1 (by
  have := h.2
  simp only [Int32.lt_iff_toInt_lt, Int32.reduceToInt] at *; omega)
theorem lat_and (x : Int32) : ¬ i2c (x &&& 255) < 0 ∧ ¬ 255 < i2c (x &&& 255) := by rw [i2c_and255]; exact and255_lat x
theorem nar_i2c (x : Int32) : nar .char (i2c x) = i2c x := i2c_i2c x
theorem nar_lat {c : Int32} (h : ¬ c < 0 ∧ ¬ 255 < c) : nar .char c = c := lat_i2c h
theorem nar_chr {c : Int32} (h : ¬ c < 0 ∧ ¬ 65535 < c) : nar .char c = c := i2c_id h.1 h.2
theorem nar_ret {z : Int32} (h : nar .char z = z) : narrow .char (.int z) = .int z := congrArg Value.int h
end Nums1
section Nums2
theorem getD_int (cs : List Int32) (i : Nat) : (cs.map Value.int).getD i (.int (0 : Int32)) = .int (cs.getD i 0) := by
  simp only [List.getD_eq_getElem?_getD, List.getElem?_map]
  cases cs[i]? <;> rfl
theorem getD_all {P : Int32 → Prop} {cs : List Int32} (h : ∀ c ∈ cs, P c) (h0 : P 0) (i : Nat) : P (cs.getD i 0) := by
  rw [List.getD_eq_getElem?_getD]
  cases hq : cs[i]? with
  | none => exact h0
  | some v => exact h v (List.mem_of_getElem? hq)
theorem and_le (x : Int32) (k : Nat) (hk : k < 2 ^ 31) : ¬ (x &&& Int32.ofNat k) < 0 ∧ (x &&& Int32.ofNat k).toInt ≤ k := by
  have := and_toInt x k hk
  have h : (x.toBitVec.toNat &&& k) ≤ k := Nat.and_le_right
  simp only [Int32.lt_iff_toInt_lt, Int32.reduceToInt, this]
  omega
theorem rem_nat {x : Int32} (k : Nat) (m : Nat) (hm : m < 2 ^ 31) (hk : 0 < k) (hk2 : k < 2 ^ 31) {i : Int32} (h : i = (x &&& Int32.ofNat m) % Int32.ofNat k) : ∃ n : Nat, n < k ∧ i = Int32.ofNat n := by
  obtain ⟨n, h1, h2⟩ := rem_range (x := x &&& Int32.ofNat m) k hk hk2 (and_le x m hm).1
  exact ⟨n, h1, h.trans h2⟩
theorem ofNat_toInt {n : Nat} (h : n < 2 ^ 31) : (Int32.ofNat n).toInt = n := by
  have hz : Int32.size = 4294967296 := rfl
  rw [Int32.toInt_ofNat', Int.bmod_eq_of_le] <;> omega
theorem ofNat_lt {n k : Nat} (h : n < 2 ^ 31) (h' : k < 2 ^ 31) : Int32.ofNat n < Int32.ofNat k ↔ n < k := by
  rw [Int32.lt_iff_toInt_lt, ofNat_toInt h, ofNat_toInt h']; omega
theorem ofNat_sub {n k : Nat} (h : k ≤ n) : Int32.ofNat n - Int32.ofNat k = Int32.ofNat (n - k) := by
  apply Int32.toBitVec_inj.mp
  apply BitVec.eq_of_toNat_eq
  show (BitVec.ofNat 32 n - BitVec.ofNat 32 k).toNat = (BitVec.ofNat 32 (n - k)).toNat
  simp only [BitVec.toNat_sub, BitVec.toNat_ofNat]
  omega
theorem ofNat_succ (n : Nat) : Int32.ofNat n + 1 = Int32.ofNat (n + 1) := by
  apply Int32.toBitVec_inj.mp
  apply BitVec.eq_of_toNat_eq
  show (BitVec.ofNat 32 n + 1#32).toNat = (BitVec.ofNat 32 (n + 1)).toNat
  simp only [BitVec.toNat_add, BitVec.toNat_ofNat]
  omega
end Nums2
section Heap1
variable {p : Program} {l : Launch} {e : Env} {R : Room} {s : State} {m : MethodId} {args : Array Value} {below : List Frame} {meth : Method} {c : Code} {Z : State} {own : String} {n0 : Nat} {h0 : Heap} {ws ws' : List Addr} {T T' : State} {h h' : Heap} {locs : List Loc} {cells slots : Nat} {G : State → Prop} {g g' : JFrame} {a0 : Array Value} {pc pc' : Nat} {Ls Ls' : Array Slot} {st rest : List Value}
theorem NK.newP (W : NK p l e R s m args below meth c Z own n0 h0 ws T h locs cells slots) {aty : ArrayType} (w : (Cond.arrayClass (newarray.typeOf aty)).before a0 Z = true) {n : Int32} (hd : decode c.code pc = .ok (.newarray aty, 2)) (hp : pc + 2 = pc') (hn : ¬ n < 0) {cap : Nat} (hcap : n.toNatClampNeg ≤ cap) (hb : cap * 8 ≤ 536870912) (hc : cells + 1 ≤ R.cells) (hl : slots + cap ≤ R.slots)
    (k' : ∀ (T' : State) (h' : Heap) (a : Addr) (ka : ClassId), a = h.size → h0.size ≤ a → n0 ≤ a → NK p l e R s m args below meth c Z own n0 h0 ws T' h' locs (cells + 1) (slots + cap) → Ext h h' → Arv Z h' a ka (newarray.typeOf aty) n (List.replicate cap (defaultValue (newarray.typeOf aty))) (defaultValue (newarray.typeOf aty)) → Go p e below G T' (mkF m pc' Ls (.ref a :: rest))) : Go p e below G T (mkF m pc Ls (.int n :: rest)) := by
  obtain ⟨X, hx, eT, hZ, hown, N, K, hn0, hlk⟩ := W
  obtain ⟨T', h', cA, X', e', E, A, st⟩ := RoadKit.newP X hx hZ w eT (g := mkF m pc Ls (.int n :: rest)) rfl hd rfl hn hcap hb hc hl
  subst hp
  exact Go.by1 (fun t q => st t q) (k' T' h' _ cA rfl K.1 (Nat.le_trans hn0 K.1) ⟨X', hx, e', hZ, hown, N, K.ext E, hn0, hlk⟩ E ((Arv.new A hn).pad (by simpa using pad_rep [] _ cap)))
theorem NK.newO (W : NK p l e R s m args below meth c Z own n0 h0 ws T h locs cells slots) {C : String} {index n : Nat} (w : (Cond.classLink own index C).before a0 Z = true) (wi : (Cond.instantiable C n).before a0 Z = true) (wz : (Cond.initialized C).before a0 Z = true) (hd : decode c.code pc = .ok (.new index, 3)) (hp : pc + 3 = pc') (hc : cells + 1 ≤ R.cells) (hl : slots + n ≤ R.slots)
    (k' : ∀ (T' : State) (h' : Heap) (a : Addr), a = h.size → h0.size ≤ a → n0 ≤ a → NK p l e R s m args below meth c Z own n0 h0 ws T' h' locs (cells + 1) (slots + n) → Ext h h' → Exa Z h' a C → (∀ {O nm d : String} {ty : FieldType}, Laid Z a0 C O nm d → parseFieldDescriptor d = some ty → Fld Z h' a O nm d (defaultValue ty)) → Go p e below G T' (mkF m pc' Ls (.ref a :: st))) : Go p e below G T (mkF m pc Ls st) := by
  obtain ⟨X, hx, eT, hZ, hown, N, K, hn0, hlk⟩ := W
  obtain ⟨T', h', X', e', E, A, D, -, stp⟩ := RoadKit.newO X hx hZ hown w wi wz eT (g := mkF m pc Ls st) rfl hd hc hl
  subst hp
  exact Go.by1 (fun t q => stp t q) (k' T' h' _ rfl K.1 (Nat.le_trans hn0 K.1) ⟨X', hx, e', hZ, hown, N, K.ext E, hn0, hlk⟩ E A D)
theorem NK.wrote (W : NK p l e R s m args below meth c Z own n0 h0 ws T h locs cells slots) {a : Addr} {sl : Nat} {v : Value} (X' : Stand p l e R s m args below meth c T' (locs ++ [⟨a, sl⟩]) cells slots) (e' : T'.heap = h') (Wr' : Wr h h' a sl v) (hge : a ∈ ws ∨ h0.size ≤ a) (hn : n0 ≤ a) : NK p l e R s m args below meth c Z own n0 h0 ws T' h' (locs ++ [⟨a, sl⟩]) cells slots := by
  obtain ⟨X, hx, eT, hZ, hown, N, K, hn0, hlk⟩ := W
  exact ⟨X', hx, e', hZ, hown, Fr.snoc X' N hn, K.wr Wr' hge, hn0, hlk⟩
theorem NK.stC (W : NK p l e R s m args below meth c Z own n0 h0 ws T h locs cells slots) {a : Addr} {ka : ClassId} {z : Int32} {vs : List Value} {dv : Value} (A : Arv Z h a ka .char z vs dv) {j x : Int32} (hd : decode c.code pc = .ok (.castore, 1)) (hp : pc + 1 = pc') (hx' : nar .char x = x) (i : Nat) (hj : j.toNatClampNeg = i) (hi : i < vs.length) (hb : ¬ j < 0 ∧ j < z) (hge : a ∈ ws ∨ h0.size ≤ a) (hn : n0 ≤ a)
    (k' : ∀ (T' : State) (h' : Heap) (L : List Loc), NK p l e R s m args below meth c Z own n0 h0 ws T' h' L cells slots → Keep h h' [a] → Arv Z h' a ka .char z (vs.set i (.int x)) dv → Go p e below G T' (mkF m pc' Ls rest)) : Go p e below G T (mkF m pc Ls (.int x :: .int j :: .ref a :: rest)) := by
  obtain ⟨cl, A1, q1, S1, M1, H1, U1⟩ := id A
  obtain ⟨T', h', X', e', Wr', stp⟩ := RoadKit.stC W.1 W.2.1 W.2.2.2.1 W.2.2.1 A1 (j := j) (inb_of S1 hb) (g := mkF m pc Ls (.int x :: .int j :: .ref a :: rest)) rfl rfl hd
  subst hp
  rw [hx'] at Wr'
  exact Go.by1 (fun t q => stp t q) (k' T' h' _ (W.wrote X' e' Wr' hge hn) (Keep.of_wr Wr') (Arv.set A1 q1 S1 M1 H1 U1 (hx' ▸ fits_nar_char x) Wr' i hj hi))
theorem NK.stB (W : NK p l e R s m args below meth c Z own n0 h0 ws T h locs cells slots) {a : Addr} {ka : ClassId} {z : Int32} {vs : List Value} {dv : Value} (A : Arv Z h a ka .byte z vs dv) {j x : Int32} (hd : decode c.code pc = .ok (.bastore, 1)) (hp : pc + 1 = pc') (i : Nat) (hj : j.toNatClampNeg = i) (hi : i < vs.length) (hb : ¬ j < 0 ∧ j < z) (hge : a ∈ ws ∨ h0.size ≤ a) (hn : n0 ≤ a)
    (k' : ∀ (T' : State) (h' : Heap) (L : List Loc), NK p l e R s m args below meth c Z own n0 h0 ws T' h' L cells slots → Keep h h' [a] → Arv Z h' a ka .byte z (vs.set i (.int x.toInt8.toInt32)) dv → Go p e below G T' (mkF m pc' Ls rest)) : Go p e below G T (mkF m pc Ls (.int x :: .int j :: .ref a :: rest)) := by
  obtain ⟨cl, A1, q1, S1, M1, H1, U1⟩ := id A
  obtain ⟨T', h', X', e', Wr', stp⟩ := RoadKit.stB W.1 W.2.1 W.2.2.2.1 W.2.2.1 A1 (j := j) (inb_of S1 hb) (g := mkF m pc Ls (.int x :: .int j :: .ref a :: rest)) rfl rfl hd
  subst hp
  exact Go.by1 (fun t q => stp t q) (k' T' h' _ (W.wrote X' e' Wr' hge hn) (Keep.of_wr Wr') (Arv.set A1 q1 S1 M1 H1 U1 (fits_nar_byte x) Wr' i hj hi))
theorem NK.stI (W : NK p l e R s m args below meth c Z own n0 h0 ws T h locs cells slots) {a : Addr} {ka : ClassId} {z : Int32} {vs : List Value} {dv : Value} (A : Arv Z h a ka .int z vs dv) {j x : Int32} (hd : decode c.code pc = .ok (.iastore, 1)) (hp : pc + 1 = pc') (i : Nat) (hj : j.toNatClampNeg = i) (hi : i < vs.length) (hb : ¬ j < 0 ∧ j < z) (hge : a ∈ ws ∨ h0.size ≤ a) (hn : n0 ≤ a)
    (k' : ∀ (T' : State) (h' : Heap) (L : List Loc), NK p l e R s m args below meth c Z own n0 h0 ws T' h' L cells slots → Keep h h' [a] → Arv Z h' a ka .int z (vs.set i (.int x)) dv → Go p e below G T' (mkF m pc' Ls rest)) : Go p e below G T (mkF m pc Ls (.int x :: .int j :: .ref a :: rest)) := by
  obtain ⟨cl, A1, q1, S1, M1, H1, U1⟩ := id A
  obtain ⟨T', h', X', e', Wr', stp⟩ := RoadKit.stI W.1 W.2.1 W.2.2.2.1 W.2.2.1 A1 (j := j) (inb_of S1 hb) (g := mkF m pc Ls (.int x :: .int j :: .ref a :: rest)) rfl rfl hd
  subst hp
  exact Go.by1 (fun t q => stp t q) (k' T' h' _ (W.wrote X' e' Wr' hge hn) (Keep.of_wr Wr') (Arv.set A1 q1 S1 M1 H1 U1 rfl Wr' i hj hi))
theorem NK.stJ (W : NK p l e R s m args below meth c Z own n0 h0 ws T h locs cells slots) {a : Addr} {ka : ClassId} {z : Int32} {vs : List Value} {dv : Value} (A : Arv Z h a ka .long z vs dv) {j : Int32} {x : Int64} (hd : decode c.code pc = .ok (.lastore, 1)) (hp : pc + 1 = pc') (i : Nat) (hj : j.toNatClampNeg = i) (hi : i < vs.length) (hb : ¬ j < 0 ∧ j < z) (hge : a ∈ ws ∨ h0.size ≤ a) (hn : n0 ≤ a)
    (k' : ∀ (T' : State) (h' : Heap) (L : List Loc), NK p l e R s m args below meth c Z own n0 h0 ws T' h' L cells slots → Keep h h' [a] → Arv Z h' a ka .long z (vs.set i (.long x)) dv → Go p e below G T' (mkF m pc' Ls rest)) : Go p e below G T (mkF m pc Ls (.long x :: .int j :: .ref a :: rest)) := by
  obtain ⟨cl, A1, q1, S1, M1, H1, U1⟩ := id A
  obtain ⟨T', h', X', e', Wr', stp⟩ := RoadKit.stJ W.1 W.2.1 W.2.2.2.1 W.2.2.1 A1 (j := j) (inb_of S1 hb) (g := mkF m pc Ls (.long x :: .int j :: .ref a :: rest)) rfl rfl hd
  subst hp
  exact Go.by1 (fun t q => stp t q) (k' T' h' _ (W.wrote X' e' Wr' hge hn) (Keep.of_wr Wr') (Arv.set A1 q1 S1 M1 H1 U1 rfl Wr' i hj hi))
theorem NK.caload (W : NK p l e R s m args below meth c Z own n0 h0 ws T h locs cells slots) {a : Addr} {ka : ClassId} {z : Int32} {vs : List Value} {dv : Value} (A : Arv Z h a ka .char z vs dv) {j : Int32} (v : Value) (hd : decode c.code pc = .ok (.caload, 1)) (hp : pc + 1 = pc') (hb : ¬ j < 0 ∧ j < z) (hv : vs.getD j.toNatClampNeg dv = v)
    (k' : Go p e below G T (mkF m pc' Ls (v :: rest))) : Go p e below G T (mkF m pc Ls (.int j :: .ref a :: rest)) := by
  obtain ⟨cl, A1, q1, S1, M1, H1, U1⟩ := id A
  subst hp
  exact Go.by1 (fun t q => W.1.caload W.2.1 (by rw [W.2.2.1]; exact A1.1) (State.isArrayOf_alike W.2.2.2.1.alike A1.2.1) A1.2.2 (inb_of S1 hb) (H1.at (inb_of S1 hb) hv) (g := mkF m pc Ls (.int j :: .ref a :: rest)) rfl rfl hd t q) k'
theorem NK.baload (W : NK p l e R s m args below meth c Z own n0 h0 ws T h locs cells slots) {a : Addr} {ka : ClassId} {z : Int32} {vs : List Value} {dv : Value} (A : Arv Z h a ka .byte z vs dv) {j : Int32} (v : Value) (hd : decode c.code pc = .ok (.baload, 1)) (hp : pc + 1 = pc') (hb : ¬ j < 0 ∧ j < z) (hv : vs.getD j.toNatClampNeg dv = v)
    (k' : Go p e below G T (mkF m pc' Ls (v :: rest))) : Go p e below G T (mkF m pc Ls (.int j :: .ref a :: rest)) := by
  obtain ⟨cl, A1, q1, S1, M1, H1, U1⟩ := id A
  subst hp
  exact Go.by1 (fun t q => W.1.baloadBytes W.2.1 (by rw [W.2.2.1]; exact A1.1) (State.isArrayOf_alike W.2.2.2.1.alike A1.2.1) A1.2.2 (inb_of S1 hb) (H1.at (inb_of S1 hb) hv) (g := mkF m pc Ls (.int j :: .ref a :: rest)) rfl rfl hd t q) k'
theorem NK.iaload (W : NK p l e R s m args below meth c Z own n0 h0 ws T h locs cells slots) {a : Addr} {ka : ClassId} {z : Int32} {vs : List Value} {dv : Value} (A : Arv Z h a ka .int z vs dv) {j : Int32} (v : Value) (hd : decode c.code pc = .ok (.iaload, 1)) (hp : pc + 1 = pc') (hb : ¬ j < 0 ∧ j < z) (hv : vs.getD j.toNatClampNeg dv = v)
    (k' : Go p e below G T (mkF m pc' Ls (v :: rest))) : Go p e below G T (mkF m pc Ls (.int j :: .ref a :: rest)) := by
  obtain ⟨cl, A1, q1, S1, M1, H1, U1⟩ := id A
  subst hp
  exact Go.by1 (fun t q => W.1.iaload W.2.1 (by rw [W.2.2.1]; exact A1.1) (State.isArrayOf_alike W.2.2.2.1.alike A1.2.1) A1.2.2 (inb_of S1 hb) (H1.at (inb_of S1 hb) hv) (g := mkF m pc Ls (.int j :: .ref a :: rest)) rfl rfl hd t q) k'
theorem NK.laload (W : NK p l e R s m args below meth c Z own n0 h0 ws T h locs cells slots) {a : Addr} {ka : ClassId} {z : Int32} {vs : List Value} {dv : Value} (A : Arv Z h a ka .long z vs dv) {j : Int32} (v : Value) (hd : decode c.code pc = .ok (.laload, 1)) (hp : pc + 1 = pc') (hb : ¬ j < 0 ∧ j < z) (hv : vs.getD j.toNatClampNeg dv = v)
    (k' : Go p e below G T (mkF m pc' Ls (v :: rest))) : Go p e below G T (mkF m pc Ls (.int j :: .ref a :: rest)) := by
  obtain ⟨cl, A1, q1, S1, M1, H1, U1⟩ := id A
  subst hp
  exact Go.by1 (fun t q => W.1.laload W.2.1 (by rw [W.2.2.1]; exact A1.1) (State.isArrayOf_alike W.2.2.2.1.alike A1.2.1) A1.2.2 (inb_of S1 hb) (H1.at (inb_of S1 hb) hv) (g := mkF m pc Ls (.int j :: .ref a :: rest)) rfl rfl hd t q) k'
theorem NK.arraylength (W : NK p l e R s m args below meth c Z own n0 h0 ws T h locs cells slots) {a : Addr} {ka : ClassId} {ty : FieldType} {z : Int32} {vs : List Value} {dv : Value} (A : Arv Z h a ka ty z vs dv) (hd : decode c.code pc = .ok (.arraylength, 1)) (hp : pc + 1 = pc')
    (k' : Go p e below G T (mkF m pc' Ls (.int z :: rest))) : Go p e below G T (mkF m pc Ls (.ref a :: rest)) := by
  obtain ⟨cl, A1, q1, S1, M1, H1, U1⟩ := id A
  subst hp
  exact Go.by1 (fun t q => W.1.arraylength W.2.1 (by rw [W.2.2.1]; exact A1.1) (State.isArrayOf_alike W.2.2.2.1.alike A1.2.1) (g := mkF m pc Ls (.ref a :: rest)) rfl rfl hd t (by rw [len_of S1 M1]; exact q)) k'
theorem NK.moved (W : NK p l e R s m args below meth c Z own n0 h0 ws T h locs cells slots) (X' : Stand p l e R s m args below meth c T' locs cells slots) (e' : T'.heap = h) : NK p l e R s m args below meth c Z own n0 h0 ws T' h locs cells slots := ⟨X', W.2.1, e', W.2.2.2⟩
theorem NK.getF (W : NK p l e R s m args below meth c Z own n0 h0 ws T h locs cells slots) {R0 O n d host : String} {index : Nat} (w : (Cond.fieldLink own index R0 n d).before a0 Z = true ∨ (Cond.fieldLinkNest own index R0 n d host).before a0 Z = true) (via : Via Z R0 O n d) {a : Addr} {v : Value} (F : Fld Z h a O n d v) (hd : decode c.code pc = .ok (.getfield index, 3)) (hp : pc + 3 = pc')
    (k' : ∀ T' : State, NK p l e R s m args below meth c Z own n0 h0 ws T' h locs cells slots → Go p e below G T' (mkF m pc' Ls (v :: rest))) : Go p e below G T (mkF m pc Ls (.ref a :: rest)) := by
  obtain ⟨T', X', e', stp⟩ := RoadKit.getF W.1 W.2.1 W.2.2.2.1 W.2.2.2.2.1 w via W.2.2.1 F (g := mkF m pc Ls (.ref a :: rest)) rfl rfl hd
  subst hp
  exact Go.by1 (fun t q => stp t q) (k' T' (W.moved X' e'))
theorem NK.getS (W : NK p l e R s m args below meth c Z own n0 h0 ws T h locs cells slots) {R0 O n d host : String} {index : Nat} (w : (Cond.fieldLink own index R0 n d).before a0 Z = true ∨ (Cond.fieldLinkNest own index R0 n d host).before a0 Z = true) (via : Via Z R0 O n d) {v : Value} (F : Sta Z h O n d v) (hd : decode c.code pc = .ok (.getstatic index, 3)) (hp : pc + 3 = pc')
    (k' : ∀ T' : State, NK p l e R s m args below meth c Z own n0 h0 ws T' h locs cells slots → Go p e below G T' (mkF m pc' Ls (v :: st))) : Go p e below G T (mkF m pc Ls st) := by
  obtain ⟨T', X', e', stp⟩ := RoadKit.getS2 W.1 W.2.1 W.2.2.2.1 W.2.2.2.2.1 w via W.2.2.1 F (g := mkF m pc Ls st) rfl hd
  subst hp
  exact Go.by1 (fun t q => stp t q) (k' T' (W.moved X' e'))
theorem NK.putF (W : NK p l e R s m args below meth c Z own n0 h0 ws T h locs cells slots) {R0 O n d host C : String} {index kk : Nat} {ty : FieldType} (w : (Cond.fieldLink own index R0 n d).before a0 Z = true ∨ (Cond.fieldLinkNest own index R0 n d host).before a0 Z = true) (via : Via Z R0 O n d) {a : Addr} {v old : Value} (F : Fld Z h a O n d old) (E : Exa Z h a C)
    (L : (Cond.lays C O n d).before a0 Z = true ∨ ((Cond.laysFinal C O n d).before a0 Z = true ∧ own = O ∧ meth.name = "<init>")) (wi : (Cond.instantiable C kk).before a0 Z = true) (hty : parseFieldDescriptor d = some ty) (hn : narrow ty v = v) (hf : fits ty v = true) (hd : decode c.code pc = .ok (.putfield index, 3)) (hp : pc + 3 = pc') (hge : a ∈ ws ∨ h0.size ≤ a) (hn0 : n0 ≤ a)
    (k' : ∀ (T' : State) (h' : Heap) (L' : List Loc), NK p l e R s m args below meth c Z own n0 h0 ws T' h' L' cells slots → Wr h h' a (RoadKit.slotOf Z O n d) v → Go p e below G T' (mkF m pc' Ls rest)) : Go p e below G T (mkF m pc Ls (v :: .ref a :: rest)) := by
  obtain ⟨T', h', X', e', Wr', stp⟩ := RoadKit.putF W.1 W.2.1 W.2.2.2.1 W.2.2.2.2.1 w via W.2.2.1 F E L wi hty hn hf (g := mkF m pc Ls (v :: .ref a :: rest)) rfl rfl hd
  subst hp
  exact Go.by1 (fun t q => stp t q) (k' T' h' _ (W.wrote X' e' Wr' hge hn0) Wr')
theorem NK.initO (W : NK p l e R s m args below meth c Z own n0 h0 ws T h locs cells slots) {idx : Nat} (w1 : (Cond.methodLink own idx Lib.objectInit).before a0 Z = true) (w2 : (Cond.instanceMethod Lib.objectInit).before a0 Z = true) (w3 : (Cond.code Lib.objectInit ⟨#[0xb1]⟩ 1 none).before a0 Z = true) {a : Addr} (hd : decode c.code pc = .ok (.invokespecial idx, 3)) (hp : pc + 3 = pc') (hml : c.maxLocals = Ls.size) (hf : 1 ≤ R.frames) {wd : Nat} (hW : (rest.map fun v => v.category).sum ≤ wd) (hl : wd + 12 ≤ R.locals)
    (k' : ∀ T' : State, NK p l e R s m args below meth c Z own n0 h0 ws T' h locs cells slots → Go p e below G T' (mkF m pc' Ls rest)) : Go p e below G T (mkF m pc Ls (.ref a :: rest)) := by
  obtain ⟨T', X', e', stp⟩ := RoadKit.initO W.1 W.2.1 W.2.2.2.1 W.2.2.2.2.1 w1 w2 w3 W.2.2.1 (g := mkF m pc Ls (.ref a :: rest)) rfl hml.symm rfl hd hf (W := wd) (by show 2 * 0 + _ ≤ _; omega) hl
  subst hp
  exact Go.by1 (fun t q => stp t q) (k' T' (W.moved X' e'))
/-- what a payer says, in backOf's shape -/
abbrev BK (l : Launch) (R : Room) (p : Program) (e : Env) (below : List Frame) (s : State) (args : Array Value) (y : MethodName) (len wd : Nat) (as' : Array Value) (h : Heap) (rc rs : Nat) (Q : Option Value → Heap → List Loc → Prop) : Prop :=
  Back l R p e below s args y len wd (fun A a => a = as' ∧ A.U.heap = h ∧ A.cells + rc ≤ R.cells ∧ A.slots + rs ≤ R.slots) (fun A _ v B => ∃ L, Q v B.U.heap L ∧ B.locs = A.locs ++ L ∧ B.cells = A.cells + rc ∧ B.slots = A.slots + rs)
/-- a callee's contract -/
def NM (l : Launch) (y : MethodName) (bytes : ByteArray) (maxL : Nat) (ret : Option FieldType) (xs : List Cond) (R : Room) (Z : State) (n0 : Nat) (as' : Array Value) (h0 : Heap) (ws : List Addr) (P : Option Value → Heap → Prop) : Prop :=
  MetFree l y (head1 (Cond.code y bytes maxL ret :: xs) R) (fun a U => a = as' ∧ Z.Warmed39 U.vm ∧ U.heap = h0) (fun _ _ _ _ _ => True) (fun _ U o U' => ∃ v L, o = .returned v ∧ (P v U'.heap ∧ Keep h0 U'.heap ws ∧ Fr n0 L) ∧ FrameEnd U o U' L R.cells R.slots)
def EndN (n0 : Nat) (R : Room) (s : State) (below : List Frame) (P : Option Value → Heap → Prop) (h0 : Heap) (ws : List Addr) (t : State) : Prop :=
  ∃ o, t.status = .running ∧ Ended t below o ∧ ∃ v L, o = .returned v ∧ (P v t.heap ∧ Keep h0 t.heap ws ∧ Fr n0 L) ∧ FrameEnd s o t L R.cells R.slots
theorem NM.walk {y : MethodName} {bytes : ByteArray} {maxL : Nat} {ret : Option FieldType} {xs : List Cond} {as' : Array Value} {P : Option Value → Heap → Prop} (hpl : plainFor y = true) (hn : n0 ≤ h0.size) (ef : ∀ m, entryFrame m as' maxL = mkF m 0 Ls [])
    (body : ∀ (p : Program) (e : Env) (s : State) (m : MethodId) (below : List Frame) (meth : Method) (c : Code) (s₁ : State), c.code = bytes → c.maxLocals = maxL → meth.sig.returnType = ret → meth.name = y.name → NK p l e R s m as' below meth c Z y.cls n0 h0 ws s₁ h0 [] 0 0 → Go p e below (EndN n0 R s below P h0 ws) s₁ (mkF m 0 Ls [])) : NM l y bytes maxL ret xs R Z n0 as' h0 ws P := by
  refine MetFree.of_bodySF hpl hisR ?_
  intro p e s m args below meth c s₁ Bd hml0 hP hK
  obtain ⟨rfl, hZ, hh⟩ := hP
  have X0 : Stand p l e R s m args below meth c s₁ [] 0 0 := Stand.of_body Bd
  have e0 : s₁.heap = h0 := by rw [← hh, Bd.state]; rfl
  obtain ⟨t, a, o, r1, r2, q⟩ := body p e s m below meth c s₁ Bd.bytes hml0 Bd.returns (name_of_methodNamed Bd.named Bd.method).1 ⟨X0, Bd.exec, e0, hZ, findClass_of_methodNamed Bd.named, Fr.nil n0, Keep.refl _ _, hn, BodyLoose.notSynchronized Bd⟩
  exact ⟨t, o, castTop (ef m) a, r1, r2, q⟩
theorem NK.ret (W : NK p l e R s m args below meth c Z own n0 h0 ws T h locs cells slots) {P : Option Value → Heap → Prop} {w : Value} {t : FieldType} {i : Instr} (hret : meth.sig.returnType = some t) (hn : narrow t w = w)
    (hi : (i = .ireturn ∧ (t = .int ∨ t = .boolean ∨ t = .byte ∨ t = .char ∨ t = .short) ∧ ∃ z, w = .int z) ∨ (i = .lreturn ∧ t = .long ∧ ∃ z, w = .long z) ∨ (i = .dreturn ∧ t = .double ∧ ∃ z, w = .double z) ∨ (i = .freturn ∧ t = .float ∧ ∃ z, w = .float z) ∨ (i = .areturn ∧ t.isReference = true ∧ w.isRef = true))
    (hd : decode c.code pc = .ok (i, 1)) (hc : cells ≤ R.cells) (hs : slots ≤ R.slots) (hP : P (some w) h) : Go p e below (EndN n0 R s below P h0 ws) T (mkF m pc Ls (w :: rest)) := by
  obtain ⟨X, hx, eT, hZ, hown, N, K, hn0, hlk⟩ := W
  obtain ⟨fs, hr, hrun, hended, hW, hsame⟩ := X.leave (v := some w) (fun h => by rw [hret] at h; cases h) hlk
  refine ⟨_, retOut X hx hret hn hi hd hr, _, hrun, hended, _, _, rfl, ?_, ⟨_, rfl⟩, hW, hsame.mono hc hs⟩
  have e1 : (T.setFrames fs).heap = h := eT
  rw [e1]
  exact ⟨hP, K, N⟩
theorem NK.retI (W : NK p l e R s m args below meth c Z own n0 h0 ws T h locs cells slots) {P : Option Value → Heap → Prop} {z : Int32} (hret : meth.sig.returnType = some .int) (hd : decode c.code pc = .ok (.ireturn, 1)) (hc : cells ≤ R.cells) (hs : slots ≤ R.slots) (hP : P (some (.int z)) h) : Go p e below (EndN n0 R s below P h0 ws) T (mkF m pc Ls (.int z :: rest)) :=
  W.ret hret rfl (Or.inl ⟨rfl, Or.inl rfl, _, rfl⟩) hd hc hs hP
theorem NK.retZ (W : NK p l e R s m args below meth c Z own n0 h0 ws T h locs cells slots) {P : Option Value → Heap → Prop} {z : Int32} (hret : meth.sig.returnType = some .boolean) (hd : decode c.code pc = .ok (.ireturn, 1)) (hz : z = 0 ∨ z = 1) (hc : cells ≤ R.cells) (hs : slots ≤ R.slots) (hP : P (some (.int z)) h) : Go p e below (EndN n0 R s below P h0 ws) T (mkF m pc Ls (.int z :: rest)) :=
  W.ret hret (by rcases hz with rfl | rfl <;> rfl) (Or.inl ⟨rfl, Or.inr (Or.inl rfl), _, rfl⟩) hd hc hs hP
theorem NK.retC (W : NK p l e R s m args below meth c Z own n0 h0 ws T h locs cells slots) {P : Option Value → Heap → Prop} {z : Int32} (hret : meth.sig.returnType = some .char) (hd : decode c.code pc = .ok (.ireturn, 1)) (hz : narrow .char (.int z) = .int z) (hc : cells ≤ R.cells) (hs : slots ≤ R.slots) (hP : P (some (.int z)) h) : Go p e below (EndN n0 R s below P h0 ws) T (mkF m pc Ls (.int z :: rest)) :=
  W.ret hret hz (Or.inl ⟨rfl, Or.inr (Or.inr (Or.inr (Or.inl rfl))), _, rfl⟩) hd hc hs hP
theorem NK.retB (W : NK p l e R s m args below meth c Z own n0 h0 ws T h locs cells slots) {P : Option Value → Heap → Prop} {z : Int32} (hret : meth.sig.returnType = some .byte) (hd : decode c.code pc = .ok (.ireturn, 1)) (hz : narrow .byte (.int z) = .int z) (hc : cells ≤ R.cells) (hs : slots ≤ R.slots) (hP : P (some (.int z)) h) : Go p e below (EndN n0 R s below P h0 ws) T (mkF m pc Ls (.int z :: rest)) :=
  W.ret hret hz (Or.inl ⟨rfl, Or.inr (Or.inr (Or.inl rfl)), _, rfl⟩) hd hc hs hP
theorem NK.retJ (W : NK p l e R s m args below meth c Z own n0 h0 ws T h locs cells slots) {P : Option Value → Heap → Prop} {z : Int64} (hret : meth.sig.returnType = some .long) (hd : decode c.code pc = .ok (.lreturn, 1)) (hc : cells ≤ R.cells) (hs : slots ≤ R.slots) (hP : P (some (.long z)) h) : Go p e below (EndN n0 R s below P h0 ws) T (mkF m pc Ls (.long z :: rest)) :=
  W.ret hret rfl (Or.inr (Or.inl ⟨rfl, rfl, _, rfl⟩)) hd hc hs hP
theorem NK.retA (W : NK p l e R s m args below meth c Z own n0 h0 ws T h locs cells slots) {P : Option Value → Heap → Prop} {w : Value} {t : FieldType} (hret : meth.sig.returnType = some t) (ht : t.isReference = true) (hw : w.isRef = true) (hd : decode c.code pc = .ok (.areturn, 1)) (hc : cells ≤ R.cells) (hs : slots ≤ R.slots) (hP : P (some w) h) : Go p e below (EndN n0 R s below P h0 ws) T (mkF m pc Ls (w :: rest)) :=
  W.ret hret (by cases t <;> cases w <;> first | rfl | (simp [FieldType.isReference, Value.isRef] at ht hw)) (Or.inr (Or.inr (Or.inr (Or.inr ⟨rfl, ht, hw⟩)))) hd hc hs hP
theorem NK.retV (W : NK p l e R s m args below meth c Z own n0 h0 ws T h locs cells slots) {P : Option Value → Heap → Prop} (hret : meth.sig.returnType = none) (hd : decode c.code pc = .ok (.return_, 1)) (hc : cells ≤ R.cells) (hs : slots ≤ R.slots) (hP : P none h) : Go p e below (EndN n0 R s below P h0 ws) T (mkF m pc Ls []) := by
  obtain ⟨X, hx, eT, hZ, hown, N, K, hn0, hlk⟩ := W
  obtain ⟨fs, hr, hrun, hended, hW, hsame⟩ := X.leave (v := none) (fun _ => rfl) hlk
  refine ⟨_, X.returnOut hx hret hd hr, _, hrun, hended, _, _, rfl, ?_, ⟨_, rfl⟩, hW, hsame.mono hc hs⟩
  have e1 : (T.setFrames fs).heap = h := eT
  rw [e1]
  exact ⟨hP, K, N⟩
theorem NM.bk {y : MethodName} {bytes : ByteArray} {maxL : Nat} {ret : Option FieldType} {rm : Room} {as' : Array Value} {P : Option Value → Heap → Prop} {len wd : Nat} (hM : NM l y bytes maxL ret [] rm Z n0 as' h ws' P) (hZ : Z.Warmed39 s.vm) (wc : (Cond.code y bytes maxL ret).before a0 Z = true) (wz : (Cond.initialized y.cls).before a0 Z = true) (hf : rm.frames + 1 ≤ R.frames) (hl : wd + (maxL + 11) + rm.locals ≤ R.locals) :
    BK l R p e below s args y len wd as' h rm.cells rm.slots (fun v h' L => P v h' ∧ Keep h h' ws' ∧ Fr n0 L) := backOf (Q := fun v h' L => P v h' ∧ Keep h h' ws' ∧ Fr n0 L) hM hZ wc wz hf hl
theorem NK.called (W : NK p l e R s m args below meth c Z own n0 h0 ws T h locs cells slots) {L : List Loc} {T' : State} {c2 s2 : Nat} (X' : Stand p l e R s m args below meth c T' (locs ++ L) c2 s2) (N : Fr n0 L) (K : Keep h T'.heap ws') (hws : ∀ x ∈ ws', x ∈ ws ∨ h0.size ≤ x) : NK p l e R s m args below meth c Z own n0 h0 ws T' T'.heap (locs ++ L) c2 s2 := by
  obtain ⟨X, hx, eT, hZ, hown, N0, K0, hn0, hlk⟩ := W
  exact ⟨X', hx, rfl, hZ, hown, Fr.app N0 N, K0.trans K hws, hn0, hlk⟩
theorem NK.callS (W : NK p l e R s m args below meth c Z own n0 h0 ws T h locs cells slots) {index : Nat} {y : MethodName} {bytes : ByteArray} {maxL : Nat} {ret : Option FieldType} (w1 : (Cond.methodLink own index y).before a0 Z = true) (w2 : (Cond.static y).before a0 Z = true) (w3 : (Cond.initialized y.cls).before a0 Z = true) (w4 : (Cond.code y bytes maxL ret).before a0 Z = true)
    (hy : y.cls ≠ "java/lang/invoke/MethodHandle" ∧ y.cls ≠ "java/lang/invoke/VarHandle") {wd rc rs : Nat} {as' : Array Value} {Q : Option Value → Heap → List Loc → Prop} (hK : BK l R p e below s args y 3 wd as' h rc rs Q) (hd : decode c.code pc = .ok (.invokestatic index, 3)) (hp : pc + 3 = pc') (hml : c.maxLocals = Ls.size) {argsL : List Value} (has : argsL.toArray = as') (hlen : ∀ sig, parseMethodDescriptor y.desc = some sig → argsL.length = sig.parameters.length) (hst : st = argsL.reverse ++ rest) (hW : (rest.map fun v => v.category).sum ≤ wd) (hc : cells + rc ≤ R.cells) (hs : slots + rs ≤ R.slots)
    (hq : ∀ v h' L, Q v h' L → Fr n0 L ∧ Keep h h' ws') (hws : ∀ x ∈ ws', x ∈ ws ∨ h0.size ≤ x)
    (k' : ∀ (v : Option Value) (T' : State) (h' : Heap) (L L' : List Loc), NK p l e R s m args below meth c Z own n0 h0 ws T' h' L' (cells + rc) (slots + rs) → Q v h' L → Keep h h' ws' → Go p e below G T' (mkF m pc' Ls (v.toList ++ rest))) : Go p e below G T (mkF m pc Ls st) := by
  subst hst has hp
  obtain ⟨v, vm1, ⟨T', L1, k1, n1⟩, -, X', ⟨L, hQ, e1, e2, e3⟩, stp⟩ := Jvm.LawKit.callS W.1 W.2.1 W.2.2.2.2.1 (mvT W.2.2.2.1 w1) (mvT W.2.2.2.1 w2) (mvT W.2.2.2.1 w3) (mvT W.2.2.2.1 w4) hy hK (g := mkF m pc Ls (argsL.reverse ++ rest)) rfl hml.symm (argsL := argsL) (rest := rest) hlen rfl (by show 2 * 0 + _ ≤ _; omega) hd (fun _ _ => ⟨rfl, W.2.2.1, hc, hs⟩)
  dsimp only [Pt.U, Pt.locs, Pt.cells, Pt.slots] at X' hQ e1 e2 e3 stp
  subst e1 e2 e3
  obtain ⟨N, K⟩ := hq _ _ _ hQ
  exact Go.by1 (fun t q => stp t q) (k' v T' _ L _ (W.called X' N K hws) hQ K)
theorem NK.callI (W : NK p l e R s m args below meth c Z own n0 h0 ws T h locs cells slots) {index : Nat} {y : MethodName} {bytes : ByteArray} {maxL : Nat} (hy1 : y.name = "<init>") (w1 : (Cond.methodLink own index y).before a0 Z = true) (w2 : (Cond.instanceMethod y).before a0 Z = true) (w4 : (Cond.code y bytes maxL none).before a0 Z = true)
    (hy : y.cls ≠ "java/lang/invoke/MethodHandle" ∧ y.cls ≠ "java/lang/invoke/VarHandle") {wd rc rs : Nat} {as' : Array Value} {Q : Option Value → Heap → List Loc → Prop} (hK : BK l R p e below s args y 3 wd as' h rc rs Q) (hd : decode c.code pc = .ok (.invokespecial index, 3)) (hp : pc + 3 = pc') (hml : c.maxLocals = Ls.size) {a : Addr} {argsL : List Value} (has : (Value.ref a :: argsL).toArray = as') (hlen : ∀ sig, parseMethodDescriptor y.desc = some sig → argsL.length = sig.parameters.length) (hst : st = argsL.reverse ++ .ref a :: rest) (hW : (rest.map fun v => v.category).sum ≤ wd) (hc : cells + rc ≤ R.cells) (hs : slots + rs ≤ R.slots)
    (hq : ∀ v h' L, Q v h' L → Fr n0 L ∧ Keep h h' ws') (hws : ∀ x ∈ ws', x ∈ ws ∨ h0.size ≤ x)
    (k' : ∀ (v : Option Value) (T' : State) (h' : Heap) (L L' : List Loc), NK p l e R s m args below meth c Z own n0 h0 ws T' h' L' (cells + rc) (slots + rs) → Q v h' L → Keep h h' ws' → Go p e below G T' (mkF m pc' Ls (v.toList ++ rest))) : Go p e below G T (mkF m pc Ls st) := by
  subst hst has hp
  obtain ⟨v, vm1, ⟨T', L1, k1, n1⟩, -, X', ⟨L, hQ, e1, e2, e3⟩, stp⟩ := W.1.specialBack W.2.1 hy1 W.2.2.2.2.1 (mvT W.2.2.2.1 w1) (mvT W.2.2.2.1 w2) (mvT W.2.2.2.1 w4) hy hK (g := mkF m pc Ls (argsL.reverse ++ .ref a :: rest)) rfl hml.symm (Steps.refl _) (a := a) (argsL := argsL) (rest := rest) hlen rfl (by show 2 * 0 + _ ≤ _; omega) hd (fun _ _ => ⟨rfl, W.2.2.1, hc, hs⟩)
  dsimp only [Pt.U, Pt.locs, Pt.cells, Pt.slots] at X' hQ e1 e2 e3 stp
  subst e1 e2 e3
  obtain ⟨N, K⟩ := hq _ _ _ hQ
  exact Go.tr stp (k' v T' _ L _ (W.called X' N K hws) hQ K)
theorem NK.callV (W : NK p l e R s m args below meth c Z own n0 h0 ws T h locs cells slots) {index : Nat} {C : String} {y z : MethodName} (w1 : (Cond.methodLink own index y).before a0 Z = true) (w2 : (Cond.declares y).before a0 Z = true) (w3 : (Cond.selects C y z).before a0 Z = true) {C' : String} (w3' : (Cond.selects C' y y).before a0 Z = true) (w4 : (Cond.instanceMethod z).before a0 Z = true)
    (hy : y.cls ≠ "java/lang/invoke/MethodHandle" ∧ y.cls ≠ "java/lang/invoke/VarHandle") {wd rc rs : Nat} {as' : Array Value} {Q : Option Value → Heap → List Loc → Prop} (hK : BK l R p e below s args z 3 wd as' h rc rs Q) {a : Addr} (E : Exa Z h a C) (hd : decode c.code pc = .ok (.invokevirtual index, 3)) (hp : pc + 3 = pc') (hml : c.maxLocals = Ls.size) {argsL : List Value} (has : (Value.ref a :: argsL).toArray = as') (hlen : ∀ sig, parseMethodDescriptor y.desc = some sig → argsL.length = sig.parameters.length) (hst : st = argsL.reverse ++ .ref a :: rest) (hW : (rest.map fun v => v.category).sum ≤ wd) (hc : cells + rc ≤ R.cells) (hs : slots + rs ≤ R.slots)
    (hq : ∀ v h' L, Q v h' L → Fr n0 L ∧ Keep h h' ws') (hws : ∀ x ∈ ws', x ∈ ws ∨ h0.size ≤ x)
    (k' : ∀ (v : Option Value) (T' : State) (h' : Heap) (L L' : List Loc), NK p l e R s m args below meth c Z own n0 h0 ws T' h' L' (cells + rc) (slots + rs) → Q v h' L → Keep h h' ws' → Go p e below G T' (mkF m pc' Ls (v.toList ++ rest))) : Go p e below G T (mkF m pc Ls st) := by
  subst hst has hp
  obtain ⟨cq, kq, qa, qb, qc⟩ := isOf W.2.2.2.1 W.2.2.1 E
  obtain ⟨v, vm1, ⟨T', L1, k1, n1⟩, -, X', ⟨L, hQ, e1, e2, e3⟩, stp⟩ := W.1.virtualBack W.2.1 (y := y) (z := z) W.2.2.2.2.1 (mvT W.2.2.2.1 w1) (mvT W.2.2.2.1 w2) (notFace_of_selects (args := #[]) (mvT W.2.2.2.1 w3')) (mvT W.2.2.2.1 w3) (mvT W.2.2.2.1 w4) hy hK qa qc (g := mkF m pc Ls (argsL.reverse ++ .ref a :: rest)) rfl hml.symm (Steps.refl _) (argsL := argsL) (rest := rest) hlen rfl (by show 2 * 0 + _ ≤ _; omega) hd (fun _ _ => ⟨rfl, W.2.2.1, hc, hs⟩)
  dsimp only [Pt.U, Pt.locs, Pt.cells, Pt.slots] at X' hQ e1 e2 e3 stp
  subst e1 e2 e3
  obtain ⟨N, K⟩ := hq _ _ _ hQ
  exact Go.tr stp (k' v T' _ L _ (W.called X' N K hws) hQ K)
end Heap1
section Pure1
variable {p : Program} {l : Launch} {e : Env} {R : Room} {s : State} {m : MethodId} {args : Array Value} {below : List Frame} {meth : Method} {c : Code} {Z : State} {own : String} {n0 : Nat} {h0 : Heap} {ws ws' : List Addr} {T T' : State} {h h' : Heap} {locs : List Loc} {cells slots : Nat} {G : State → Prop} {g g' : JFrame} {a0 : Array Value} {pc pc' : Nat} {Ls Ls' : Array Slot} {st rest : List Value}
/-- it returns w and leaves the heap as it was -/
abbrev Pu (w : Option Value) (h0 : Heap) : Option Value → Heap → Prop := fun v h' => v = w ∧ h' = h0
theorem NK.callSP (W : NK p l e R s m args below meth c Z own n0 h0 ws T h locs cells slots) {index : Nat} {y : MethodName} {bytes : ByteArray} {maxL : Nat} {ret : Option FieldType} (w1 : (Cond.methodLink own index y).before a0 Z = true) (w2 : (Cond.static y).before a0 Z = true) (w3 : (Cond.initialized y.cls).before a0 Z = true) (w4 : (Cond.code y bytes maxL ret).before a0 Z = true)
    (hy : y.cls ≠ "java/lang/invoke/MethodHandle" ∧ y.cls ≠ "java/lang/invoke/VarHandle") {wd rc rs : Nat} {as' : Array Value} {Q : Option Value → Heap → List Loc → Prop} (hK : BK l R p e below s args y 3 wd as' h rc rs Q) (hd : decode c.code pc = .ok (.invokestatic index, 3)) (hp : pc + 3 = pc') (hml : c.maxLocals = Ls.size) {argsL : List Value} (has : argsL.toArray = as') (hlen : ∀ sig, parseMethodDescriptor y.desc = some sig → argsL.length = sig.parameters.length) (hst : st = argsL.reverse ++ rest) (hW : (rest.map fun v => v.category).sum ≤ wd) (hc : cells + rc ≤ R.cells) (hs : slots + rs ≤ R.slots)
    {w : Option Value} (hq : ∀ v h' L, Q v h' L → Fr n0 L ∧ Pu w h v h')
    (k' : ∀ (T' : State) (L' : List Loc), NK p l e R s m args below meth c Z own n0 h0 ws T' h L' (cells + rc) (slots + rs) → Go p e below G T' (mkF m pc' Ls (w.toList ++ rest))) : Go p e below G T (mkF m pc Ls st) :=
  W.callS w1 w2 w3 w4 hy hK hd hp hml has hlen hst hW hc hs (ws' := []) (fun v h' L q => ⟨(hq v h' L q).1, by rw [(hq v h' L q).2.2]; exact Keep.refl _ _⟩) all0 (fun v T' h' L L' W' q _ => by
    obtain ⟨-, rfl, rfl⟩ := hq v h' L q
    exact k' T' L' W')
theorem NK.callIP (W : NK p l e R s m args below meth c Z own n0 h0 ws T h locs cells slots) {index : Nat} {y : MethodName} {bytes : ByteArray} {maxL : Nat} (hy1 : y.name = "<init>") (w1 : (Cond.methodLink own index y).before a0 Z = true) (w2 : (Cond.instanceMethod y).before a0 Z = true) (w4 : (Cond.code y bytes maxL none).before a0 Z = true)
    (hy : y.cls ≠ "java/lang/invoke/MethodHandle" ∧ y.cls ≠ "java/lang/invoke/VarHandle") {wd rc rs : Nat} {as' : Array Value} {Q : Option Value → Heap → List Loc → Prop} (hK : BK l R p e below s args y 3 wd as' h rc rs Q) (hd : decode c.code pc = .ok (.invokespecial index, 3)) (hp : pc + 3 = pc') (hml : c.maxLocals = Ls.size) {a : Addr} {argsL : List Value} (has : (Value.ref a :: argsL).toArray = as') (hlen : ∀ sig, parseMethodDescriptor y.desc = some sig → argsL.length = sig.parameters.length) (hst : st = argsL.reverse ++ .ref a :: rest) (hW : (rest.map fun v => v.category).sum ≤ wd) (hc : cells + rc ≤ R.cells) (hs : slots + rs ≤ R.slots)
    {w : Option Value} (hq : ∀ v h' L, Q v h' L → Fr n0 L ∧ Pu w h v h')
    (k' : ∀ (T' : State) (L' : List Loc), NK p l e R s m args below meth c Z own n0 h0 ws T' h L' (cells + rc) (slots + rs) → Go p e below G T' (mkF m pc' Ls (w.toList ++ rest))) : Go p e below G T (mkF m pc Ls st) :=
  W.callI hy1 w1 w2 w4 hy hK hd hp hml has hlen hst hW hc hs (ws' := []) (fun v h' L q => ⟨(hq v h' L q).1, by rw [(hq v h' L q).2.2]; exact Keep.refl _ _⟩) all0 (fun v T' h' L L' W' q _ => by
    obtain ⟨-, rfl, rfl⟩ := hq v h' L q
    exact k' T' L' W')
theorem NK.callVP (W : NK p l e R s m args below meth c Z own n0 h0 ws T h locs cells slots) {index : Nat} {C : String} {y z : MethodName} (w1 : (Cond.methodLink own index y).before a0 Z = true) (w2 : (Cond.declares y).before a0 Z = true) (w3 : (Cond.selects C y z).before a0 Z = true) {C' : String} (w3' : (Cond.selects C' y y).before a0 Z = true) (w4 : (Cond.instanceMethod z).before a0 Z = true)
    (hy : y.cls ≠ "java/lang/invoke/MethodHandle" ∧ y.cls ≠ "java/lang/invoke/VarHandle") {wd rc rs : Nat} {as' : Array Value} {Q : Option Value → Heap → List Loc → Prop} (hK : BK l R p e below s args z 3 wd as' h rc rs Q) {a : Addr} (E : Exa Z h a C) (hd : decode c.code pc = .ok (.invokevirtual index, 3)) (hp : pc + 3 = pc') (hml : c.maxLocals = Ls.size) {argsL : List Value} (has : (Value.ref a :: argsL).toArray = as') (hlen : ∀ sig, parseMethodDescriptor y.desc = some sig → argsL.length = sig.parameters.length) (hst : st = argsL.reverse ++ .ref a :: rest) (hW : (rest.map fun v => v.category).sum ≤ wd) (hc : cells + rc ≤ R.cells) (hs : slots + rs ≤ R.slots)
    {w : Option Value} (hq : ∀ v h' L, Q v h' L → Fr n0 L ∧ Pu w h v h')
    (k' : ∀ (T' : State) (L' : List Loc), NK p l e R s m args below meth c Z own n0 h0 ws T' h L' (cells + rc) (slots + rs) → Go p e below G T' (mkF m pc' Ls (w.toList ++ rest))) : Go p e below G T (mkF m pc Ls st) :=
  W.callV w1 w2 w3 w3' w4 hy hK E hd hp hml has hlen hst hW hc hs (ws' := []) (fun v h' L q => ⟨(hq v h' L q).1, by rw [(hq v h' L q).2.2]; exact Keep.refl _ _⟩) all0 (fun v T' h' L L' W' q _ => by
    obtain ⟨-, rfl, rfl⟩ := hq v h' L q
    exact k' T' L' W')
/-- what a pure contract's payer says -/
theorem pu_of {w : Option Value} {L : List Loc} {v : Option Value} (q : Pu w h v h' ∧ Keep h h' [] ∧ Fr n0 L) : Fr n0 L ∧ Pu w h v h' := ⟨q.2.2, q.1⟩
theorem pu_nil {w : Option Value} {L : List Loc} {v : Option Value} (q : v = w ∧ L = [] ∧ h' = h) : Fr n0 L ∧ Pu w h v h' := ⟨by rw [q.2.1]; exact Fr.nil n0, q.1, q.2.2⟩
end Pure1
section Small1
variable {p : Program} {l : Launch} {e : Env} {R : Room} {s : State} {m : MethodId} {args : Array Value} {below : List Frame} {meth : Method} {c : Code} {Z : State} {own : String} {n0 : Nat} {h0 : Heap} {ws : List Addr} {T : State} {h : Heap} {locs : List Loc} {cells slots : Nat}
theorem NK.n0h (W : NK p l e R s m args below meth c Z own n0 h0 ws T h locs cells slots) : n0 ≤ h.size := Nat.le_trans W.2.2.2.2.2.2.2.1 W.2.2.2.2.2.2.1.1
theorem mem0 {P : Int32 → Prop} : ∀ x ∈ ([] : List Int32), P x := fun _ q => nomatch q
theorem memS {P : Int32 → Prop} {y : Int32} {L : List Int32} (q : P y) (r : ∀ x ∈ L, P x) : ∀ x ∈ y :: L, P x := fun x z => (List.mem_cons.mp z).elim (fun u => u ▸ q) (r x)
variable {G : State → Prop} {a0 : Array Value} {pc pc' : Nat} {Ls : Array Slot} {rest : List Value}
theorem NK.instNull (W : NK p l e R s m args below meth c Z own n0 h0 ws T h locs cells slots) {index : Nat} (hd : decode c.code pc = .ok (.instanceof index, 3)) (hp : pc + 3 = pc') (k' : Go p e below G T (mkF m pc' Ls (.int 0 :: rest))) : Go p e below G T (mkF m pc Ls (.null :: rest)) := by
  subst hp
  exact Go.by1 (fun t q => W.1.instanceofNull W.2.1 (g := mkF m pc Ls (.null :: rest)) rfl rfl hd t q) k'
theorem NK.castNull (W : NK p l e R s m args below meth c Z own n0 h0 ws T h locs cells slots) {index : Nat} (hd : decode c.code pc = .ok (.checkcast index, 3)) (hp : pc + 3 = pc') (k' : Go p e below G T (mkF m pc' Ls (.null :: rest))) : Go p e below G T (mkF m pc Ls (.null :: rest)) := by
  subst hp
  exact Go.by1 (fun t q => W.1.checkcastNull W.2.1 (g := mkF m pc Ls (.null :: rest)) rfl rfl hd t q) k'
theorem NK.castY (W : NK p l e R s m args below meth c Z own n0 h0 ws T h locs cells slots) {K : String} {index : Nat} (w : (Cond.classLink own index K).before a0 Z = true) {a : Addr} (F : Ins Z h a K true) (hd : decode c.code pc = .ok (.checkcast index, 3)) (hp : pc + 3 = pc')
    (k' : ∀ T' : State, NK p l e R s m args below meth c Z own n0 h0 ws T' h locs cells slots → Go p e below G T' (mkF m pc' Ls (.ref a :: rest))) : Go p e below G T (mkF m pc Ls (.ref a :: rest)) := by
  obtain ⟨T', X', e', stp⟩ := RoadKit.castY W.1 W.2.1 W.2.2.2.1 W.2.2.2.2.1 w W.2.2.1 F (g := mkF m pc Ls (.ref a :: rest)) rfl rfl hd
  subst hp
  exact Go.by1 (fun t q => stp t q) (k' T' (W.moved X' e'))
theorem NK.instY (W : NK p l e R s m args below meth c Z own n0 h0 ws T h locs cells slots) {K : String} {index : Nat} (w : (Cond.classLink own index K).before a0 Z = true) {a : Addr} (F : Ins Z h a K true) (hd : decode c.code pc = .ok (.instanceof index, 3)) (hp : pc + 3 = pc')
    (k' : ∀ T' : State, NK p l e R s m args below meth c Z own n0 h0 ws T' h locs cells slots → Go p e below G T' (mkF m pc' Ls (.int 1 :: rest))) : Go p e below G T (mkF m pc Ls (.ref a :: rest)) := by
  obtain ⟨T', X', e', stp⟩ := RoadKit.instY W.1 W.2.1 W.2.2.2.1 W.2.2.2.2.1 w W.2.2.1 F (g := mkF m pc Ls (.ref a :: rest)) rfl rfl hd
  subst hp
  exact Go.by1 (fun t q => stp t q) (k' T' (W.moved X' e'))
end Small1
section Wide1
variable {p : Program} {l : Launch} {e : Env} {R : Room} {s : State} {m : MethodId} {args : Array Value} {below : List Frame} {meth : Method} {c : Code} {Z : State} {EL : List (String × Nat)} {own : String} {n0 : Nat} {h0 : Heap} {ws ws' : List Addr} {T T' : State} {h h' : Heap} {vm : Vm} {locs locs' : List Loc} {cells slots cells' slots' : Nat} {G : State → Prop} {g g' : JFrame} {a0 : Array Value} {pc pc' : Nat} {Ls Ls' : Array Slot} {st rest : List Value}
/-- the wide walk: NK over the start with the tables vm, which may have interned since -/
def WK (EL : List (String × Nat)) (p : Program) (l : Launch) (e : Env) (R : Room) (s : State) (m : MethodId) (args : Array Value) (below : List Frame) (meth : Method) (c : Code) (Z : State) (own : String) (n0 : Nat) (h0 : Heap) (ws : List Addr) (T : State) (h : Heap) (vm : Vm) (locs : List Loc) (cells slots : Nat) : Prop :=
  NK p l e R (s.setVm vm) m args below meth c Z own n0 h0 ws T h locs cells slots ∧ s.Since vm h.size ∧ CHr Z EL s.vm h0 vm h
theorem since_grow {n n' : Nat} (S : s.Since vm n) (q : n ≤ n') : s.Since vm n' := ⟨S.1, fun j p hj hp => ⟨(S.2 j p hj hp).1, Nat.lt_of_lt_of_le (S.2 j p hj hp).2 q⟩⟩
theorem WK.up (W : WK EL p l e R s m args below meth c Z own n0 h0 ws T h vm locs cells slots) (N : NK p l e R (s.setVm vm) m args below meth c Z own n0 h0 ws T' h' locs' cells' slots') (K : Keep h h' ws') (S : ∀ x ∈ ws', Safe Z EL vm h x) : WK EL p l e R s m args below meth c Z own n0 h0 ws T' h' vm locs' cells' slots' :=
  ⟨N, since_grow W.2.1 K.1, W.2.2.trans (CHr.keep K S W.2.2.1)⟩
theorem WK.upE (W : WK EL p l e R s m args below meth c Z own n0 h0 ws T h vm locs cells slots) (N : NK p l e R (s.setVm vm) m args below meth c Z own n0 h0 ws T' h' locs' cells' slots') (E : Ext h h') : WK EL p l e R s m args below meth c Z own n0 h0 ws T' h' vm locs' cells' slots' :=
  ⟨N, since_grow W.2.1 E.1, W.2.2.trans (CHr.ext E W.2.2.1)⟩
theorem WK.same (W : WK EL p l e R s m args below meth c Z own n0 h0 ws T h vm locs cells slots) (N : NK p l e R (s.setVm vm) m args below meth c Z own n0 h0 ws T' h locs' cells' slots') : WK EL p l e R s m args below meth c Z own n0 h0 ws T' h vm locs' cells' slots' := ⟨N, W.2⟩
/-- a fresh cell is no booked one -/
theorem WK.safeNew (W : WK EL p l e R s m args below meth c Z own n0 h0 ws T h vm locs cells slots) {a : Addr} (ha : a = h.size) (E : Ext h h') : Safe Z EL vm h' a := Safe.ext E W.2.2.1 (Safe.new (Nat.le_of_eq ha.symm))
theorem WK.safeE (W : WK EL p l e R s m args below meth c Z own n0 h0 ws T h vm locs cells slots) {a : Addr} (S : Safe Z EL vm h a) (E : Ext h h') : Safe Z EL vm h' a := Safe.ext E W.2.2.1 S
theorem WK.safeK (W : WK EL p l e R s m args below meth c Z own n0 h0 ws T h vm locs cells slots) {a : Addr} (S : Safe Z EL vm h a) (K : Keep h h' ws') (hs : ∀ x ∈ ws', Safe Z EL vm h x) : Safe Z EL vm h' a := Safe.keep K hs W.2.2.1 S
def WM (l : Launch) (y : MethodName) (bytes : ByteArray) (maxL : Nat) (ret : Option FieldType) (xs : List Cond) (R : Room) (Z : State) (EL : List (String × Nat)) (n0 : Nat) (as' : Array Value) (h0 : Heap) (ws : List Addr) (P : Option Value → Heap → Prop) : Prop :=
  MetFree l y (head1 (Cond.code y bytes maxL ret :: xs) R) (fun a U => a = as' ∧ Z.Warmed39 U.vm ∧ U.heap = h0 ∧ CHv Z EL U.vm h0) (fun _ _ _ _ _ => True) (fun _ U o U' => ∃ v L, o = .returned v ∧ (P v U'.heap ∧ Keep h0 U'.heap ws ∧ Fr n0 L) ∧ CHr Z EL U.vm U.heap U'.vm U'.heap ∧ ReturnedEndW U o U' L R.cells R.slots)
def EndW (Z : State) (EL : List (String × Nat)) (n0 : Nat) (R : Room) (s : State) (below : List Frame) (P : Option Value → Heap → Prop) (h0 : Heap) (ws : List Addr) (t : State) : Prop :=
  ∃ o, t.status = .running ∧ Ended t below o ∧ ∃ v L, o = .returned v ∧ (P v t.heap ∧ Keep h0 t.heap ws ∧ Fr n0 L) ∧ CHr Z EL s.vm h0 t.vm t.heap ∧ ReturnedEndW s o t L R.cells R.slots
theorem WM.walk {y : MethodName} {bytes : ByteArray} {maxL : Nat} {ret : Option FieldType} {xs : List Cond} {as' : Array Value} {P : Option Value → Heap → Prop} (hpl : plainFor y = true) (hn : n0 ≤ h0.size) (ef : ∀ m, entryFrame m as' maxL = mkF m 0 Ls [])
    (body : ∀ (p : Program) (e : Env) (s : State) (m : MethodId) (below : List Frame) (meth : Method) (c : Code) (s₁ : State), c.code = bytes → c.maxLocals = maxL → meth.sig.returnType = ret → meth.name = y.name → WK EL p l e R s m as' below meth c Z y.cls n0 h0 ws s₁ h0 s.vm [] 0 0 → Go p e below (EndW Z EL n0 R s below P h0 ws) s₁ (mkF m 0 Ls [])) : WM l y bytes maxL ret xs R Z EL n0 as' h0 ws P := by
  refine MetFree.of_bodySF hpl hisR ?_
  intro p e s m args below meth c s₁ Bd hml0 hP hK
  obtain ⟨rfl, hZ, hh, hC⟩ := hP
  have X0 : Stand p l e R s m args below meth c s₁ [] 0 0 := Stand.of_body Bd
  have e0 : s₁.heap = h0 := by rw [← hh, Bd.state]; rfl
  have N0 : NK p l e R (s.setVm s.vm) m args below meth c Z y.cls n0 h0 ws s₁ h0 [] 0 0 := ⟨X0, Bd.exec, e0, hZ, findClass_of_methodNamed Bd.named, Fr.nil n0, Keep.refl _ _, hn, BodyLoose.notSynchronized Bd⟩
  obtain ⟨t, a, o, r1, r2, v, L, q1, q2, q3, q4⟩ := body p e s m below meth c s₁ Bd.bytes hml0 Bd.returns (name_of_methodNamed Bd.named Bd.method).1 ⟨N0, (State.WarmedH.refl s).since _, CHr.refl hC⟩
  exact ⟨t, o, castTop (ef m) a, r1, r2, v, L, q1, q2, by rw [hh]; exact q3, q4⟩
theorem WK.ends (W : WK EL p l e R s m args below meth c Z own n0 h0 ws T h vm locs cells slots) (hEL : EW Z a0 EL) {P : Option Value → Heap → Prop} {v : Option Value} (hv : meth.sig.returnType = none → v = none) (hc : cells ≤ R.cells) (hs : slots ≤ R.slots) (hP : P v h)
    (stp : ∀ fs, (∀ (f : JFrame) (acts : List Action), f.method = m → f.locked = none → f.entered = [] → (doReturn e (T.setTop f) acts v).1 = T.setFrames fs) → Steps p.tables e below (T.setTop g) (T.setFrames fs)) : Go p e below (EndW Z EL n0 R s below P h0 ws) T g := by
  obtain ⟨⟨X, hx, eT, hZ, hown, N, K, hn0, hlk⟩, S, C⟩ := W
  obtain ⟨fs, hr, hrun, hended, hW, hsame⟩ := X.leave hv hlk
  have e1 : (T.setFrames fs).heap = h := eT
  obtain ⟨q1, q2, q3⟩ := S.ended hW (by rw [e1]; exact Nat.le_refl _) hsame
  refine ⟨_, stp fs hr, _, hrun, hended, _, _, rfl, ?_, ?_, ⟨_, rfl⟩, q1, q2, q3.mono hc hs⟩
  · rw [e1]; exact ⟨hP, K, N⟩
  · rw [e1]
    have A := CHv.at X hZ hEL C.1
    exact C.trans A
theorem WK.ret (W : WK EL p l e R s m args below meth c Z own n0 h0 ws T h vm locs cells slots) (hEL : EW Z a0 EL) {P : Option Value → Heap → Prop} {w : Value} {t : FieldType} {i : Instr} (hret : meth.sig.returnType = some t) (hn : narrow t w = w)
    (hi : (i = .ireturn ∧ (t = .int ∨ t = .boolean ∨ t = .byte ∨ t = .char ∨ t = .short) ∧ ∃ z, w = .int z) ∨ (i = .lreturn ∧ t = .long ∧ ∃ z, w = .long z) ∨ (i = .dreturn ∧ t = .double ∧ ∃ z, w = .double z) ∨ (i = .freturn ∧ t = .float ∧ ∃ z, w = .float z) ∨ (i = .areturn ∧ t.isReference = true ∧ w.isRef = true))
    (hd : decode c.code pc = .ok (i, 1)) (hc : cells ≤ R.cells) (hs : slots ≤ R.slots) (hP : P (some w) h) : Go p e below (EndW Z EL n0 R s below P h0 ws) T (mkF m pc Ls (w :: rest)) :=
  W.ends hEL (fun h => by rw [hret] at h; cases h) hc hs hP (fun fs hr => retOut W.1.1 W.1.2.1 hret hn hi hd hr)
theorem WK.retI (W : WK EL p l e R s m args below meth c Z own n0 h0 ws T h vm locs cells slots) (hEL : EW Z a0 EL) {P : Option Value → Heap → Prop} {z : Int32} (hret : meth.sig.returnType = some .int) (hd : decode c.code pc = .ok (.ireturn, 1)) (hc : cells ≤ R.cells) (hs : slots ≤ R.slots) (hP : P (some (.int z)) h) : Go p e below (EndW Z EL n0 R s below P h0 ws) T (mkF m pc Ls (.int z :: rest)) :=
  W.ret hEL hret rfl (Or.inl ⟨rfl, Or.inl rfl, _, rfl⟩) hd hc hs hP
theorem WK.retZ (W : WK EL p l e R s m args below meth c Z own n0 h0 ws T h vm locs cells slots) (hEL : EW Z a0 EL) {P : Option Value → Heap → Prop} {z : Int32} (hret : meth.sig.returnType = some .boolean) (hd : decode c.code pc = .ok (.ireturn, 1)) (hz : z = 0 ∨ z = 1) (hc : cells ≤ R.cells) (hs : slots ≤ R.slots) (hP : P (some (.int z)) h) : Go p e below (EndW Z EL n0 R s below P h0 ws) T (mkF m pc Ls (.int z :: rest)) :=
  W.ret hEL hret (by rcases hz with rfl | rfl <;> rfl) (Or.inl ⟨rfl, Or.inr (Or.inl rfl), _, rfl⟩) hd hc hs hP
theorem WK.retC (W : WK EL p l e R s m args below meth c Z own n0 h0 ws T h vm locs cells slots) (hEL : EW Z a0 EL) {P : Option Value → Heap → Prop} {z : Int32} (hret : meth.sig.returnType = some .char) (hd : decode c.code pc = .ok (.ireturn, 1)) (hz : narrow .char (.int z) = .int z) (hc : cells ≤ R.cells) (hs : slots ≤ R.slots) (hP : P (some (.int z)) h) : Go p e below (EndW Z EL n0 R s below P h0 ws) T (mkF m pc Ls (.int z :: rest)) :=
  W.ret hEL hret hz (Or.inl ⟨rfl, Or.inr (Or.inr (Or.inr (Or.inl rfl))), _, rfl⟩) hd hc hs hP
theorem WK.retJ (W : WK EL p l e R s m args below meth c Z own n0 h0 ws T h vm locs cells slots) (hEL : EW Z a0 EL) {P : Option Value → Heap → Prop} {z : Int64} (hret : meth.sig.returnType = some .long) (hd : decode c.code pc = .ok (.lreturn, 1)) (hc : cells ≤ R.cells) (hs : slots ≤ R.slots) (hP : P (some (.long z)) h) : Go p e below (EndW Z EL n0 R s below P h0 ws) T (mkF m pc Ls (.long z :: rest)) :=
  W.ret hEL hret rfl (Or.inr (Or.inl ⟨rfl, rfl, _, rfl⟩)) hd hc hs hP
theorem WK.retA (W : WK EL p l e R s m args below meth c Z own n0 h0 ws T h vm locs cells slots) (hEL : EW Z a0 EL) {P : Option Value → Heap → Prop} {w : Value} {t : FieldType} (hret : meth.sig.returnType = some t) (ht : t.isReference = true) (hw : w.isRef = true) (hd : decode c.code pc = .ok (.areturn, 1)) (hc : cells ≤ R.cells) (hs : slots ≤ R.slots) (hP : P (some w) h) : Go p e below (EndW Z EL n0 R s below P h0 ws) T (mkF m pc Ls (w :: rest)) :=
  W.ret hEL hret (by cases t <;> cases w <;> first | rfl | (simp [FieldType.isReference, Value.isRef] at ht hw)) (Or.inr (Or.inr (Or.inr (Or.inr ⟨rfl, ht, hw⟩)))) hd hc hs hP
theorem WK.retV (W : WK EL p l e R s m args below meth c Z own n0 h0 ws T h vm locs cells slots) (hEL : EW Z a0 EL) {P : Option Value → Heap → Prop} (hret : meth.sig.returnType = none) (hd : decode c.code pc = .ok (.return_, 1)) (hc : cells ≤ R.cells) (hs : slots ≤ R.slots) (hP : P none h) : Go p e below (EndW Z EL n0 R s below P h0 ws) T (mkF m pc Ls []) :=
  W.ends hEL (fun _ => rfl) hc hs hP (fun fs hr => W.1.1.returnOut W.1.2.1 hret hd hr)
/-- a wide payer -/
abbrev BKS (EL : List (String × Nat)) (l : Launch) (R : Room) (p : Program) (e : Env) (below : List Frame) (s : State) (args : Array Value) (Z : State) (vm : Vm) (y : MethodName) (len wd : Nat) (as' : Array Value) (h : Heap) (rc rs : Nat) (Q : Option Value → Heap → List Loc → Prop) : Prop :=
  BackS l R p e below (s.setVm vm) args y len wd (fun A a => a = as' ∧ A.U.heap = h ∧ A.cells + rc ≤ R.cells ∧ A.slots + rs ≤ R.slots) (fun A _ v B => ∃ L, Q v B.U.heap L ∧ B.locs = A.locs ++ L ∧ B.cells = A.cells + rc ∧ B.slots = A.slots + rs ∧ CHr Z EL vm h B.U.vm B.U.heap)
theorem WM.bk {y : MethodName} {bytes : ByteArray} {maxL : Nat} {ret : Option FieldType} {rm : Room} {as' : Array Value} {P : Option Value → Heap → Prop} {len wd : Nat} (hM : WM l y bytes maxL ret [] rm Z EL n0 as' h ws' P) (hZ : Z.Warmed39 vm) (wc : (Cond.code y bytes maxL ret).before a0 Z = true) (wz : (Cond.initialized y.cls).before a0 Z = true) (hf : rm.frames + 1 ≤ R.frames) (hl : wd + (maxL + 11) + rm.locals ≤ R.locals) (hEL : EW Z a0 EL) (H : CHv Z EL vm h) :
    BKS EL l R p e below s args Z vm y len wd as' h rm.cells rm.slots (fun v h' L => P v h' ∧ Keep h h' ws' ∧ Fr n0 L) := backOfSH (Q := fun v h' L => P v h' ∧ Keep h h' ws' ∧ Fr n0 L) hM hZ wc wz hf hl hEL H
theorem WK.called (W : WK EL p l e R s m args below meth c Z own n0 h0 ws T h vm locs cells slots) {L : List Loc} {T' : State} {c2 s2 : Nat} (X' : Stand p l e R ((s.setVm vm).setVm T'.vm) m args below meth c T' (locs ++ L) c2 s2) (S' : (s.setVm vm).Since T'.vm T'.heap.size) (gr : h.size ≤ T'.heap.size) (C' : CHr Z EL vm h T'.vm T'.heap) (N : Fr n0 L) (K : Keep h T'.heap ws') (hws : ∀ x ∈ ws', x ∈ ws ∨ h0.size ≤ x) :
    WK EL p l e R s m args below meth c Z own n0 h0 ws T' T'.heap T'.vm (locs ++ L) c2 s2 := by
  obtain ⟨⟨X, hx, eT, hZ, hown, N0, K0, hn0, hlk⟩, S, C⟩ := W
  have hZ' : Z.Warmed39 T'.vm := State.Warmed39.trans (t := s.setVm vm) hZ S'.1
  have ho : T'.vm.findClass own = some m.cls := by rw [S'.1.alike.findClass]; exact hown
  exact ⟨⟨X', hx, rfl, hZ', ho, Fr.app N0 N, K0.trans K hws, hn0, hlk⟩, S.trans S' gr, C.trans C'⟩
theorem WK.callS (W : WK EL p l e R s m args below meth c Z own n0 h0 ws T h vm locs cells slots) {index : Nat} {y : MethodName} {bytes : ByteArray} {maxL : Nat} {ret : Option FieldType} (w1 : (Cond.methodLink own index y).before a0 Z = true) (w2 : (Cond.static y).before a0 Z = true) (w3 : (Cond.initialized y.cls).before a0 Z = true) (w4 : (Cond.code y bytes maxL ret).before a0 Z = true)
    (hy : y.cls ≠ "java/lang/invoke/MethodHandle" ∧ y.cls ≠ "java/lang/invoke/VarHandle") {wd rc rs : Nat} {as' : Array Value} {Q : Option Value → Heap → List Loc → Prop} (hK : BKS EL l R p e below s args Z vm y 3 wd as' h rc rs Q) (hd : decode c.code pc = .ok (.invokestatic index, 3)) (hp : pc + 3 = pc') (hml : c.maxLocals = Ls.size) {argsL : List Value} (has : argsL.toArray = as') (hlen : ∀ sig, parseMethodDescriptor y.desc = some sig → argsL.length = sig.parameters.length) (hst : st = argsL.reverse ++ rest) (hW : (rest.map fun v => v.category).sum ≤ wd) (hc : cells + rc ≤ R.cells) (hs : slots + rs ≤ R.slots)
    (hq : ∀ v h' L, Q v h' L → Fr n0 L ∧ Keep h h' ws') (hws : ∀ x ∈ ws', x ∈ ws ∨ h0.size ≤ x)
    (k' : ∀ (v : Option Value) (T' : State) (h' : Heap) (vm' : Vm) (L L' : List Loc), WK EL p l e R s m args below meth c Z own n0 h0 ws T' h' vm' L' (cells + rc) (slots + rs) → Q v h' L → Keep h h' ws' → CHr Z EL vm h vm' h' → Go p e below G T' (mkF m pc' Ls (v.toList ++ rest))) : Go p e below G T (mkF m pc Ls st) := by
  subst hst has hp
  obtain ⟨v, vm1, ⟨T', L1, k1, n1⟩, -, X', S', gr, ⟨L, hQ, e1, e2, e3, C'⟩, stp⟩ := callSS W.1.1 W.1.2.1 W.1.2.2.2.2.1 (mvT W.1.2.2.2.1 w1) (mvT W.1.2.2.2.1 w2) (mvT W.1.2.2.2.1 w3) (mvT W.1.2.2.2.1 w4) hy hK (g := mkF m pc Ls (argsL.reverse ++ rest)) rfl hml.symm (argsL := argsL) (rest := rest) hlen rfl (by show 2 * 0 + _ ≤ _; omega) hd (fun _ _ => ⟨rfl, W.1.2.2.1, hc, hs⟩)
  dsimp only [Pt.U, Pt.locs, Pt.cells, Pt.slots] at X' hQ e1 e2 e3 stp S' gr C'
  subst e1 e2 e3
  obtain ⟨N, K⟩ := hq _ _ _ hQ
  exact Go.tr stp (k' v T' _ _ L _ (W.called X' S' K.1 C' N K hws) hQ K C')
theorem WK.callI (W : WK EL p l e R s m args below meth c Z own n0 h0 ws T h vm locs cells slots) {index : Nat} {y : MethodName} {bytes : ByteArray} {maxL : Nat} (hy1 : y.name = "<init>") (w1 : (Cond.methodLink own index y).before a0 Z = true) (w2 : (Cond.instanceMethod y).before a0 Z = true) (w4 : (Cond.code y bytes maxL none).before a0 Z = true)
    (hy : y.cls ≠ "java/lang/invoke/MethodHandle" ∧ y.cls ≠ "java/lang/invoke/VarHandle") {wd rc rs : Nat} {as' : Array Value} {Q : Option Value → Heap → List Loc → Prop} (hK : BKS EL l R p e below s args Z vm y 3 wd as' h rc rs Q) (hd : decode c.code pc = .ok (.invokespecial index, 3)) (hp : pc + 3 = pc') (hml : c.maxLocals = Ls.size) {a : Addr} {argsL : List Value} (has : (Value.ref a :: argsL).toArray = as') (hlen : ∀ sig, parseMethodDescriptor y.desc = some sig → argsL.length = sig.parameters.length) (hst : st = argsL.reverse ++ .ref a :: rest) (hW : (rest.map fun v => v.category).sum ≤ wd) (hc : cells + rc ≤ R.cells) (hs : slots + rs ≤ R.slots)
    (hq : ∀ v h' L, Q v h' L → Fr n0 L ∧ Keep h h' ws') (hws : ∀ x ∈ ws', x ∈ ws ∨ h0.size ≤ x)
    (k' : ∀ (v : Option Value) (T' : State) (h' : Heap) (vm' : Vm) (L L' : List Loc), WK EL p l e R s m args below meth c Z own n0 h0 ws T' h' vm' L' (cells + rc) (slots + rs) → Q v h' L → Keep h h' ws' → CHr Z EL vm h vm' h' → Go p e below G T' (mkF m pc' Ls (v.toList ++ rest))) : Go p e below G T (mkF m pc Ls st) := by
  subst hst has hp
  obtain ⟨v, vm1, ⟨T', L1, k1, n1⟩, -, X', S', gr, ⟨L, hQ, e1, e2, e3, C'⟩, stp⟩ := W.1.1.specialBackS W.1.2.1 hy1 W.1.2.2.2.2.1 (mvT W.1.2.2.2.1 w1) (mvT W.1.2.2.2.1 w2) (mvT W.1.2.2.2.1 w4) hy hK (g := mkF m pc Ls (argsL.reverse ++ .ref a :: rest)) rfl hml.symm (Steps.refl _) (a := a) (argsL := argsL) (rest := rest) hlen rfl (by show 2 * 0 + _ ≤ _; omega) hd (fun _ _ => ⟨rfl, W.1.2.2.1, hc, hs⟩)
  dsimp only [Pt.U, Pt.locs, Pt.cells, Pt.slots] at X' hQ e1 e2 e3 stp S' gr C'
  subst e1 e2 e3
  obtain ⟨N, K⟩ := hq _ _ _ hQ
  exact Go.tr stp (k' v T' _ _ L _ (W.called X' S' K.1 C' N K hws) hQ K C')
theorem WK.callV (W : WK EL p l e R s m args below meth c Z own n0 h0 ws T h vm locs cells slots) {index : Nat} {C : String} {y z : MethodName} (w1 : (Cond.methodLink own index y).before a0 Z = true) (w2 : (Cond.declares y).before a0 Z = true) (w3 : (Cond.selects C y z).before a0 Z = true) {C' : String} (w3' : (Cond.selects C' y y).before a0 Z = true) (w4 : (Cond.instanceMethod z).before a0 Z = true)
    (hy : y.cls ≠ "java/lang/invoke/MethodHandle" ∧ y.cls ≠ "java/lang/invoke/VarHandle") {wd rc rs : Nat} {as' : Array Value} {Q : Option Value → Heap → List Loc → Prop} (hK : BKS EL l R p e below s args Z vm z 3 wd as' h rc rs Q) {a : Addr} (E : Exa Z h a C) (hd : decode c.code pc = .ok (.invokevirtual index, 3)) (hp : pc + 3 = pc') (hml : c.maxLocals = Ls.size) {argsL : List Value} (has : (Value.ref a :: argsL).toArray = as') (hlen : ∀ sig, parseMethodDescriptor y.desc = some sig → argsL.length = sig.parameters.length) (hst : st = argsL.reverse ++ .ref a :: rest) (hW : (rest.map fun v => v.category).sum ≤ wd) (hc : cells + rc ≤ R.cells) (hs : slots + rs ≤ R.slots)
    (hq : ∀ v h' L, Q v h' L → Fr n0 L ∧ Keep h h' ws') (hws : ∀ x ∈ ws', x ∈ ws ∨ h0.size ≤ x)
    (k' : ∀ (v : Option Value) (T' : State) (h' : Heap) (vm' : Vm) (L L' : List Loc), WK EL p l e R s m args below meth c Z own n0 h0 ws T' h' vm' L' (cells + rc) (slots + rs) → Q v h' L → Keep h h' ws' → CHr Z EL vm h vm' h' → Go p e below G T' (mkF m pc' Ls (v.toList ++ rest))) : Go p e below G T (mkF m pc Ls st) := by
  subst hst has hp
  obtain ⟨cq, kq, qa, qb, qc⟩ := isOf W.1.2.2.2.1 W.1.2.2.1 E
  obtain ⟨v, vm1, ⟨T', L1, k1, n1⟩, -, X', S', gr, ⟨L, hQ, e1, e2, e3, C'⟩, stp⟩ := W.1.1.virtualBackS W.1.2.1 (y := y) (z := z) W.1.2.2.2.2.1 (mvT W.1.2.2.2.1 w1) (mvT W.1.2.2.2.1 w2) (notFace_of_selects (args := #[]) (mvT W.1.2.2.2.1 w3')) (mvT W.1.2.2.2.1 w3) (mvT W.1.2.2.2.1 w4) hy hK qa qc (g := mkF m pc Ls (argsL.reverse ++ .ref a :: rest)) rfl hml.symm (Steps.refl _) (argsL := argsL) (rest := rest) hlen rfl (by show 2 * 0 + _ ≤ _; omega) hd (fun _ _ => ⟨rfl, W.1.2.2.1, hc, hs⟩)
  dsimp only [Pt.U, Pt.locs, Pt.cells, Pt.slots] at X' hQ e1 e2 e3 stp S' gr C'
  subst e1 e2 e3
  obtain ⟨N, K⟩ := hq _ _ _ hQ
  exact Go.tr stp (k' v T' _ _ L _ (W.called X' S' K.1 C' N K hws) hQ K C')
/-- a String whose value is null is no booked one -/
theorem safe_null {x : Addr} (hal : Z.vm.Alike vm) (E : Exa Z h x "java/lang/String") (F : Fld Z h x "java/lang/String" "value" "[B" .null) : Safe Z EL vm h x := fun B => by
  obtain ⟨q0, -, u, a, -, q, -, S, rfl | rfl⟩ := B
  · obtain ⟨cell, cf, k, i, f, f1, f2, -, -, -, -, f7⟩ := F
    cases (show h[q.sa]? = some q.sC from S.ha).symm.trans f1
    obtain ⟨cS, ⟨⟨-, -, -, ⟨c1, k1, i1, g1, -⟩, -, -, -, v1, -⟩, -⟩, -⟩ := S
    obtain ⟨k3, e3⟩ := ff_back (U := Wst Z vm h) hal g1
    cases f2.symm.trans e3
    rw [f7] at v1; cases v1
  · obtain ⟨cell, k, e1, e2, e3, -, -⟩ := E
    cases (show h[q.sd]? = some q.SA from S.hd).symm.trans e1
    obtain ⟨cS, -, -, f, -⟩ := S
    have f' : vm.findClass "[B" = some q.SA.cls := f
    rw [hal.findClass] at f'
    obtain ⟨k1, q1, q2⟩ := Vm.findClass_spec f'
    obtain ⟨k2, q3, q4⟩ := Vm.findClass_spec e2
    cases q1.symm.trans q3
    exact absurd (q2.symm.trans q4) (by decide)
/-- ldc of a String constant of EL -/
theorem WK.ldcS (W : WK EL p l e R s m args below meth c Z own n0 h0 ws T h vm locs cells slots) (hEL : EW Z a0 EL) {text : String} {index : Nat} (w : (Cond.stringLink own index text).before a0 Z = true) (wS : ∀ a ∈ Bundle.stringAtoms, a.before a0 Z = true) (hmem : (own, index) ∈ EL) {vs : List Value} {z : Int32} (ht : (∀ c ∈ text.toList, c.toNat < 256) ∧ text.toList.map (fun c => Value.int (Jvm.Lit.byteI c.toNat.toUInt16)) = vs) (hz : ¬ z < 0) (hl : z.toNatClampNeg = vs.length)
    (hd : decode c.code pc = .ok (.ldc index, 2)) (hp : pc + 2 = pc') {n : Nat} (hn : 4 * text.toList.length ≤ n) (hbig : n ≤ 536870912) (hc : cells + 2 ≤ R.cells) (hs : slots + (n + 4) ≤ R.slots)
    (k' : ∀ (T' : State) (h' : Heap) (vm' : Vm) (a b : Addr) (kb : ClassId), WK EL p l e R s m args below meth c Z own n0 h0 ws T' h' vm' locs (cells + 2) (slots + (n + 4)) → Ext h h' → CHr Z EL vm h vm' h' → Exa Z h' a "java/lang/String" → Fld Z h' a "java/lang/String" "coder" "B" (.int 0) → Fld Z h' a "java/lang/String" "value" "[B" (.ref b) → Arv Z h' b kb .byte z vs (.int 0) → (∀ x, Safe Z EL vm' h' x → x ≠ a ∧ x ≠ b) → Go p e below G T' (mkF m pc' Ls (.ref a :: st))) : Go p e below G T (mkF m pc Ls st) := by
  obtain ⟨⟨X, hx, eT, hZ, hown, N0, K0, hn0, hlk⟩, S, C⟩ := W
  obtain ⟨a, T', h', k1, b, kb, X', e', E, S', hk, hZ', ho, F1, F2, F3, F4, -, -, C', -, hne, stp⟩ := ldcCH X hx hZ hown w wS eT S (Nat.le_refl _) hEL hmem C.1 ht hz hl (g := mkF m pc Ls st) rfl hd hn hbig hc hs
  subst hp
  exact Go.by1 (fun t q => stp t q) (k' T' h' T'.vm a b kb ⟨⟨X', hx, e', hZ', ho, N0, K0.ext E, hn0, hlk⟩, since_grow S' hk, C.trans C'⟩ E C' F1 F2 F3 F4 hne)
end Wide1
section Str1
variable {p : Program} {l : Launch} {e : Env} {R : Room} {s : State} {args : Array Value} {below : List Frame} {Z : State} {h h' : Heap} {a : Addr} {cs : List Int32} {a0 : Array Value} {len wd : Nat}
/-- the object at a is a String whose chars are cs -/
def StrA (Z : State) (h : Heap) (a : Addr) (cs : List Int32) : Prop := Exa Z h a "java/lang/String" ∧ (∀ c ∈ cs, ¬ c < 0 ∧ ¬ (65535 : Int32) < c) ∧ cs.length ≤ 4000 ∧ ∃ (t : Addr) (kb : ClassId) (cd N2 : Int32) (vs : List Value), Fld Z h a "java/lang/String" "value" "[B" (.ref t) ∧ Fld Z h a "java/lang/String" "coder" "B" (.int cd) ∧ Arv Z h t kb .byte N2 vs (.int 0) ∧ StrChars.Road.CodA cs cd N2 vs
theorem StrA.ext (F : StrA Z h a cs) (E : Ext h h') : StrA Z h' a cs := by
  obtain ⟨f, b, n, t, kb, cd, N2, vs, v, c, k, q⟩ := F
  exact ⟨f.ext E, b, n, t, kb, cd, N2, vs, v.ext E, c.ext E, k.ext E, q⟩
theorem lat_up {c : Int32} (q : ¬ c < 0 ∧ ¬ (255 : Int32) < c) : ¬ c < 0 ∧ ¬ (65535 : Int32) < c := ⟨q.1, fun z => q.2 (Int32.lt_trans (by decide) z)⟩
theorem StrA.make {t : Addr} {kb : ClassId} {N : Int32} (A : Exa Z h a "java/lang/String") (B : Fld Z h a "java/lang/String" "coder" "B" (.int 0)) (V : Fld Z h a "java/lang/String" "value" "[B" (.ref t)) (K : Arv Z h t kb .byte N ((cs.map (fun c => c.toInt8.toInt32)).map Value.int) (.int 0)) (hN : N = Int32.ofNat cs.length) (hl : cs.length ≤ 4000) (hp : ∀ c ∈ cs, ¬ c < 0 ∧ ¬ (255 : Int32) < c) : StrA Z h a cs :=
  ⟨A, fun c hc => lat_up (hp c hc), hl, t, kb, 0, N, _, V, B, K, by rw [hN]; exact StrChars.Road.codOf rfl (fun c hc => (hp c hc).2)⟩
theorem StrA.keepExa {x : Addr} {C : String} {k : Nat} (F : StrA Z h a cs) (K : Keep h h' [x]) (X : Exa Z h x C) (hC : C ≠ "java/lang/String") (wi : (Jvm.Cond.instantiable C k).before a0 Z = true) : StrA Z h' a cs := by
  obtain ⟨f, b, n, t, kb, cd, N2, vs, v, c, q, r⟩ := F
  have n1 : a ≠ x := ne_exa f X (fun z => hC z.symm)
  have n2 : t ≠ x := fun z => Exa.neArv X q wi z.symm
  exact ⟨f.keep K, b, n, t, kb, cd, N2, vs, v.keep K (ninS n1 nin0), c.keep K (ninS n1 nin0), q.keep K (ninS n2 nin0), r⟩
theorem Sta.keepExa {x : Addr} {C O n d : String} {v : Value} (F : Sta Z h O n d v) (K : Keep h h' [x]) (X : Exa Z h x C) : Sta Z h' O n d v := by
  obtain ⟨cf, i, k, f, st, cell, h1, h2, h3, h4, h5, h6, h7⟩ := F
  obtain ⟨cx, kx, x1, -, -, x4, -⟩ := X
  have ne : st ≠ x := fun z => by
    subst z
    cases h5.symm.trans x1
    rw [h6] at x4; cases x4
  exact ⟨cf, i, k, f, st, cell, h1, h2, h3, h4, K.2.1 _ _ h5 (ninS ne nin0), h6, h7⟩
end Str1
section Str2
variable {p : Program} {l : Launch} {e : Env} {R : Room} {s : State} {args : Array Value} {below : List Frame} {Z : State} {h h' : Heap} {a : Addr} {cs : List Int32} {a0 : Array Value} {len wd : Nat} {z : Int32}
theorem hwLen : ∀ d ∈ StrChars.Road.wordsLen, d ∈ tables_1 := by decide +kernel
theorem StrA.lenB (F : StrA Z h a cs) (hZ : Z.Warmed39 s.vm) (hw : ∀ d ∈ tables_1, d.before a0 Z = true) (wi : (Jvm.Cond.instantiable "java/lang/String" 4).before a0 Z = true) (S : Sta Z h "java/lang/String" "COMPACT_STRINGS" "Z" (.int z)) (hz : ¬ z = 0) (hfr : 2 ≤ R.frames) (hlo : wd + 25 ≤ R.locals) :
    BK l R p e below s args (⟨"java/lang/String", "length", "()I"⟩ : MethodName) len wd #[.ref a] h 0 0 (fun v h' L => v = some (.int (Int32.ofNat cs.length)) ∧ L = [] ∧ h' = h) := by
  obtain ⟨f, b, n, t, kb, cd, N2, vs, v, c, k, q⟩ := F
  exact StrChars.Road.lenW hZ (fun d hd => hw d (hwLen d hd)) (kI := 4) wi f v c k q b S hz n hfr hlo
end Str2
section Str3
variable {p : Program} {l : Launch} {e : Env} {R : Room} {s : State} {args : Array Value} {below : List Frame} {Z : State} {h h' : Heap} {a : Addr} {cs : List Int32} {a0 : Array Value} {len wd : Nat} {z : Int32} {fm : Value}
theorem hwChr : ∀ d ∈ StrChars.Road.wordsChN, d ∈ tables_1 := by decide +kernel
theorem StrA.chr (F : StrA Z h a cs) (hlat : ∀ c ∈ cs, ¬ (255 : Int32) < c) (hZ : Z.Warmed39 s.vm) (hw : ∀ d ∈ tables_1, d.before a0 Z = true) (wi : (Jvm.Cond.instantiable "java/lang/String" 4).before a0 Z = true) (S : Sta Z h "java/lang/String" "COMPACT_STRINGS" "Z" (.int z)) (hz : ¬ z = 0) (S2 : Sta Z h "jdk/internal/util/Preconditions" "SIOOBE_FORMATTER" "Ljava/util/function/BiFunction;" fm) (rf : fm.isRef = true) (hfr : 4 ≤ R.frames) (hlo : wd + 53 ≤ R.locals) {i : Nat} {j : Int32} (hi : i < cs.length) (hj : j = Int32.ofNat i) :
    BK l R p e below s args (⟨"java/lang/String", "charAt", "(I)C"⟩ : MethodName) len wd #[.ref a, .int j] h 0 0 (fun v h' L => v = some (.int (cs.getD i 0)) ∧ L = [] ∧ h' = h) := by
  obtain ⟨f, b, n, t, kb, cd, N2, vs, v, c, k, q⟩ := F
  have hcd : cd = 0 := by
    rcases q with ⟨q1, -⟩ | ⟨-, -, -, c1, q2, q3⟩
    · exact q1
    · exact absurd q3 (hlat c1 q2)
  subst hcd
  exact StrChars.Road.chN hZ (fun d hd => hw d (hwChr d hd)) (kI := 4) wi f v c k q b S hz S2 rf n hi hj hfr hlo
end Str3
end Own
open Own
--CUT base
theorem constHeld_of {s : State} {own : String} {index : Nat} (h : constHeld s own index) : Jvm.Lit.constHeld s own index := h
theorem hwAtoms : ∀ d ∈ Bundle.stringAtoms, d ∈ tables_1 := by decide +kernel
theorem hwords : ∀ d ∈ StrChars.Road.words, d ∈ tables_1 := by decide +kernel
def chT (j : Int32) : Int32 := ([123, 125, 118, 48, 49, 57, 47, 58] : List Int32).getD j.toNatClampNeg 0
theorem chT_lat (j : Int32) : ¬ chT j < 0 ∧ ¬ (255 : Int32) < chT j := getD_all (P := fun c => ¬ c < 0 ∧ ¬ (255 : Int32) < c) (by decide) (by decide) _
def chF (q : Int32) : Int32 := (if (q &&& (15 : Int32)) < (8 : Int32) then (chT (q &&& (15 : Int32))) else (i2c ((XT.ushr q (4 : Int32)) &&& (255 : Int32))))
theorem dC_0 : decode method_3_code 0 = .ok (.iload_n 0, 1) := by decide +kernel
theorem dC_1 : decode method_3_code 1 = .ok (.bipush 15, 2) := by decide +kernel
theorem dC_3 : decode method_3_code 3 = .ok (.iand, 1) := by decide +kernel
theorem dC_4 : decode method_3_code 4 = .ok (.istore_n 1, 1) := by decide +kernel
theorem dC_5 : decode method_3_code 5 = .ok (.iload_n 1, 1) := by decide +kernel
theorem dC_6 : decode method_3_code 6 = .ok (.bipush 8, 2) := by decide +kernel
theorem dC_8 : decode method_3_code 8 = .ok (.if_icmp .ge 54, 3) := by decide +kernel
theorem dC_11 : decode method_3_code 11 = .ok (.bipush 8, 2) := by decide +kernel
theorem dC_13 : decode method_3_code 13 = .ok (.newarray .char, 2) := by decide +kernel
theorem dC_15 : decode method_3_code 15 = .ok (.dup, 1) := by decide +kernel
theorem dC_16 : decode method_3_code 16 = .ok (.iconst 0, 1) := by decide +kernel
theorem dC_17 : decode method_3_code 17 = .ok (.bipush 123, 2) := by decide +kernel
theorem dC_19 : decode method_3_code 19 = .ok (.castore, 1) := by decide +kernel
theorem dC_20 : decode method_3_code 20 = .ok (.dup, 1) := by decide +kernel
theorem dC_21 : decode method_3_code 21 = .ok (.iconst 1, 1) := by decide +kernel
theorem dC_22 : decode method_3_code 22 = .ok (.bipush 125, 2) := by decide +kernel
theorem dC_24 : decode method_3_code 24 = .ok (.castore, 1) := by decide +kernel
theorem dC_25 : decode method_3_code 25 = .ok (.dup, 1) := by decide +kernel
theorem dC_26 : decode method_3_code 26 = .ok (.iconst 2, 1) := by decide +kernel
theorem dC_27 : decode method_3_code 27 = .ok (.bipush 118, 2) := by decide +kernel
theorem dC_29 : decode method_3_code 29 = .ok (.castore, 1) := by decide +kernel
theorem dC_30 : decode method_3_code 30 = .ok (.dup, 1) := by decide +kernel
theorem dC_31 : decode method_3_code 31 = .ok (.iconst 3, 1) := by decide +kernel
theorem dC_32 : decode method_3_code 32 = .ok (.bipush 48, 2) := by decide +kernel
theorem dC_34 : decode method_3_code 34 = .ok (.castore, 1) := by decide +kernel
theorem dC_35 : decode method_3_code 35 = .ok (.dup, 1) := by decide +kernel
theorem dC_36 : decode method_3_code 36 = .ok (.iconst 4, 1) := by decide +kernel
theorem dC_37 : decode method_3_code 37 = .ok (.bipush 49, 2) := by decide +kernel
theorem dC_39 : decode method_3_code 39 = .ok (.castore, 1) := by decide +kernel
theorem dC_40 : decode method_3_code 40 = .ok (.dup, 1) := by decide +kernel
theorem dC_41 : decode method_3_code 41 = .ok (.iconst 5, 1) := by decide +kernel
theorem dC_42 : decode method_3_code 42 = .ok (.bipush 57, 2) := by decide +kernel
theorem dC_44 : decode method_3_code 44 = .ok (.castore, 1) := by decide +kernel
theorem dC_45 : decode method_3_code 45 = .ok (.dup, 1) := by decide +kernel
theorem dC_46 : decode method_3_code 46 = .ok (.bipush 6, 2) := by decide +kernel
theorem dC_48 : decode method_3_code 48 = .ok (.bipush 47, 2) := by decide +kernel
theorem dC_50 : decode method_3_code 50 = .ok (.castore, 1) := by decide +kernel
theorem dC_51 : decode method_3_code 51 = .ok (.dup, 1) := by decide +kernel
theorem dC_52 : decode method_3_code 52 = .ok (.bipush 7, 2) := by decide +kernel
theorem dC_54 : decode method_3_code 54 = .ok (.bipush 58, 2) := by decide +kernel
theorem dC_56 : decode method_3_code 56 = .ok (.castore, 1) := by decide +kernel
theorem dC_57 : decode method_3_code 57 = .ok (.astore_n 2, 1) := by decide +kernel
theorem dC_58 : decode method_3_code 58 = .ok (.aload_n 2, 1) := by decide +kernel
theorem dC_59 : decode method_3_code 59 = .ok (.iload_n 1, 1) := by decide +kernel
theorem dC_60 : decode method_3_code 60 = .ok (.caload, 1) := by decide +kernel
theorem dC_61 : decode method_3_code 61 = .ok (.ireturn, 1) := by decide +kernel
theorem dC_62 : decode method_3_code 62 = .ok (.iload_n 0, 1) := by decide +kernel
theorem dC_63 : decode method_3_code 63 = .ok (.iconst 4, 1) := by decide +kernel
theorem dC_64 : decode method_3_code 64 = .ok (.iushr, 1) := by decide +kernel
theorem dC_65 : decode method_3_code 65 = .ok (.sipush 255, 3) := by decide +kernel
theorem dC_68 : decode method_3_code 68 = .ok (.iand, 1) := by decide +kernel
theorem dC_69 : decode method_3_code 69 = .ok (.i2c, 1) := by decide +kernel
theorem dC_70 : decode method_3_code 70 = .ok (.ireturn, 1) := by decide +kernel
theorem pn_C : plainFor (⟨"com/example/web_api_rules/webapirules/description/CheckedPathIsResourceSegmentPinLaw", "ch", "(I)C"⟩ : MethodName) = true := by first | exact plainFor_of_name (by first | (simp [plainName, overriddenIn]; done) | decide +kernel) | decide +kernel
set_option maxRecDepth 65536 in
set_option maxHeartbeats 40000000 in
theorem rmC (l : Launch) (Z : State) (a0 : Array Value) (hw : ∀ d ∈ tables_1, d.before a0 Z = true) (q : Int32) (h0 : Heap) (n0 : Nat) (Z0 : n0 ≤ h0.size)  :
    NM l (⟨"com/example/web_api_rules/webapirules/description/CheckedPathIsResourceSegmentPinLaw", "ch", "(I)C"⟩ : MethodName) method_3_code 3 (some .char) [] ({ frames := 0, cells := 1, slots := 8, locals := 0 } : Room) Z n0 #[(.int q)] h0 [] (fun v h => v = some (.int (chF q))) := by
  refine NM.walk (Ls := #[.val (.int q), .unset, .unset]) pn_C Z0 (fun m => by first | (simp [entryFrame, mkF, argsToLocals, Value.category]; done) | rfl) ?_
  intro p e s m below meth c s₁ hby hml hret hnm W0
  refine W0.iloadN (hb hby dC_0) rfl (pc' := 1) rfl ?_
  refine W0.bipush (15 : Int32) (hb hby dC_1) rfl (pc' := 3) rfl ?_
  refine W0.iand (hb hby dC_3) (pc' := 4) rfl ?_
  refine W0.istoreN (Ls' := #[.val (.int q), .val (.int (q &&& (15 : Int32))), .unset]) (hb hby dC_4) rfl (pc' := 5) rfl ?_
  refine W0.iloadN (hb hby dC_5) rfl (pc' := 6) rfl ?_
  refine W0.bipush (8 : Int32) (hb hby dC_6) rfl (pc' := 8) rfl ?_
  by_cases hc1 : (q &&& (15 : Int32)) < (8 : Int32)
  · refine W0.icmpNo (hb hby dC_8) (XT.ii_ge_f hc1) (pc' := 11) rfl ?_
    refine W0.bipush (8 : Int32) (hb hby dC_11) rfl (pc' := 13) rfl ?_
    refine W0.newP (hw _ (List.mem_of_getElem? (i := 4) rfl)) (hb hby dC_13) (pc' := 15) rfl (by decide) (cap := 8) (by decide) (by decide) (by decide) (by decide) ?_
    intro T2 h2 a2 k2 g2 ge2 gn2 W2 E2 V2'
    have V2 : Arv Z h2 a2 k2 .char (8 : Int32) [(.int (0 : Int32)), (.int (0 : Int32)), (.int (0 : Int32)), (.int (0 : Int32)), (.int (0 : Int32)), (.int (0 : Int32)), (.int (0 : Int32)), (.int (0 : Int32))] (.int (0 : Int32)) := V2'
    have z2 := E2.1
    have y2 := Nat.le_of_eq g2.symm
    refine W2.dup (hb hby dC_15) rfl (pc' := 16) rfl ?_
    refine W2.iconst (0 : Int32) (hb hby dC_16) rfl (pc' := 17) rfl ?_
    refine W2.bipush (123 : Int32) (hb hby dC_17) rfl (pc' := 19) rfl ?_
    refine W2.stC V2 (hb hby dC_19) (pc' := 20) rfl (by decide) 0 rfl (Nat.le_of_ble_eq_true rfl) (by decide) (Or.inr ge2) gn2 ?_
    intro T3 h3 L3 W3 K3 V3'
    have V3 : Arv Z h3 a2 k2 .char (8 : Int32) [(.int (123 : Int32)), (.int (0 : Int32)), (.int (0 : Int32)), (.int (0 : Int32)), (.int (0 : Int32)), (.int (0 : Int32)), (.int (0 : Int32)), (.int (0 : Int32))] (.int (0 : Int32)) := V3'
    have z3 := K3.1
    refine W3.dup (hb hby dC_20) rfl (pc' := 21) rfl ?_
    refine W3.iconst (1 : Int32) (hb hby dC_21) rfl (pc' := 22) rfl ?_
    refine W3.bipush (125 : Int32) (hb hby dC_22) rfl (pc' := 24) rfl ?_
    refine W3.stC V3 (hb hby dC_24) (pc' := 25) rfl (by decide) 1 rfl (Nat.le_of_ble_eq_true rfl) (by decide) (Or.inr ge2) gn2 ?_
    intro T4 h4 L4 W4 K4 V4'
    have V4 : Arv Z h4 a2 k2 .char (8 : Int32) [(.int (123 : Int32)), (.int (125 : Int32)), (.int (0 : Int32)), (.int (0 : Int32)), (.int (0 : Int32)), (.int (0 : Int32)), (.int (0 : Int32)), (.int (0 : Int32))] (.int (0 : Int32)) := V4'
    have z4 := K4.1
    refine W4.dup (hb hby dC_25) rfl (pc' := 26) rfl ?_
    refine W4.iconst (2 : Int32) (hb hby dC_26) rfl (pc' := 27) rfl ?_
    refine W4.bipush (118 : Int32) (hb hby dC_27) rfl (pc' := 29) rfl ?_
    refine W4.stC V4 (hb hby dC_29) (pc' := 30) rfl (by decide) 2 rfl (Nat.le_of_ble_eq_true rfl) (by decide) (Or.inr ge2) gn2 ?_
    intro T5 h5 L5 W5 K5 V5'
    have V5 : Arv Z h5 a2 k2 .char (8 : Int32) [(.int (123 : Int32)), (.int (125 : Int32)), (.int (118 : Int32)), (.int (0 : Int32)), (.int (0 : Int32)), (.int (0 : Int32)), (.int (0 : Int32)), (.int (0 : Int32))] (.int (0 : Int32)) := V5'
    have z5 := K5.1
    refine W5.dup (hb hby dC_30) rfl (pc' := 31) rfl ?_
    refine W5.iconst (3 : Int32) (hb hby dC_31) rfl (pc' := 32) rfl ?_
    refine W5.bipush (48 : Int32) (hb hby dC_32) rfl (pc' := 34) rfl ?_
    refine W5.stC V5 (hb hby dC_34) (pc' := 35) rfl (by decide) 3 rfl (Nat.le_of_ble_eq_true rfl) (by decide) (Or.inr ge2) gn2 ?_
    intro T6 h6 L6 W6 K6 V6'
    have V6 : Arv Z h6 a2 k2 .char (8 : Int32) [(.int (123 : Int32)), (.int (125 : Int32)), (.int (118 : Int32)), (.int (48 : Int32)), (.int (0 : Int32)), (.int (0 : Int32)), (.int (0 : Int32)), (.int (0 : Int32))] (.int (0 : Int32)) := V6'
    have z6 := K6.1
    refine W6.dup (hb hby dC_35) rfl (pc' := 36) rfl ?_
    refine W6.iconst (4 : Int32) (hb hby dC_36) rfl (pc' := 37) rfl ?_
    refine W6.bipush (49 : Int32) (hb hby dC_37) rfl (pc' := 39) rfl ?_
    refine W6.stC V6 (hb hby dC_39) (pc' := 40) rfl (by decide) 4 rfl (Nat.le_of_ble_eq_true rfl) (by decide) (Or.inr ge2) gn2 ?_
    intro T7 h7 L7 W7 K7 V7'
    have V7 : Arv Z h7 a2 k2 .char (8 : Int32) [(.int (123 : Int32)), (.int (125 : Int32)), (.int (118 : Int32)), (.int (48 : Int32)), (.int (49 : Int32)), (.int (0 : Int32)), (.int (0 : Int32)), (.int (0 : Int32))] (.int (0 : Int32)) := V7'
    have z7 := K7.1
    refine W7.dup (hb hby dC_40) rfl (pc' := 41) rfl ?_
    refine W7.iconst (5 : Int32) (hb hby dC_41) rfl (pc' := 42) rfl ?_
    refine W7.bipush (57 : Int32) (hb hby dC_42) rfl (pc' := 44) rfl ?_
    refine W7.stC V7 (hb hby dC_44) (pc' := 45) rfl (by decide) 5 rfl (Nat.le_of_ble_eq_true rfl) (by decide) (Or.inr ge2) gn2 ?_
    intro T8 h8 L8 W8 K8 V8'
    have V8 : Arv Z h8 a2 k2 .char (8 : Int32) [(.int (123 : Int32)), (.int (125 : Int32)), (.int (118 : Int32)), (.int (48 : Int32)), (.int (49 : Int32)), (.int (57 : Int32)), (.int (0 : Int32)), (.int (0 : Int32))] (.int (0 : Int32)) := V8'
    have z8 := K8.1
    refine W8.dup (hb hby dC_45) rfl (pc' := 46) rfl ?_
    refine W8.bipush (6 : Int32) (hb hby dC_46) rfl (pc' := 48) rfl ?_
    refine W8.bipush (47 : Int32) (hb hby dC_48) rfl (pc' := 50) rfl ?_
    refine W8.stC V8 (hb hby dC_50) (pc' := 51) rfl (by decide) 6 rfl (Nat.le_of_ble_eq_true rfl) (by decide) (Or.inr ge2) gn2 ?_
    intro T9 h9 L9 W9 K9 V9'
    have V9 : Arv Z h9 a2 k2 .char (8 : Int32) [(.int (123 : Int32)), (.int (125 : Int32)), (.int (118 : Int32)), (.int (48 : Int32)), (.int (49 : Int32)), (.int (57 : Int32)), (.int (47 : Int32)), (.int (0 : Int32))] (.int (0 : Int32)) := V9'
    have z9 := K9.1
    refine W9.dup (hb hby dC_51) rfl (pc' := 52) rfl ?_
    refine W9.bipush (7 : Int32) (hb hby dC_52) rfl (pc' := 54) rfl ?_
    refine W9.bipush (58 : Int32) (hb hby dC_54) rfl (pc' := 56) rfl ?_
    refine W9.stC V9 (hb hby dC_56) (pc' := 57) rfl (by decide) 7 rfl (Nat.le_of_ble_eq_true rfl) (by decide) (Or.inr ge2) gn2 ?_
    intro T10 h10 L10 W10 K10 V10'
    have V10 : Arv Z h10 a2 k2 .char (8 : Int32) [(.int (123 : Int32)), (.int (125 : Int32)), (.int (118 : Int32)), (.int (48 : Int32)), (.int (49 : Int32)), (.int (57 : Int32)), (.int (47 : Int32)), (.int (58 : Int32))] (.int (0 : Int32)) := V10'
    have z10 := K10.1
    refine W10.astoreN (Ls' := #[.val (.int q), .val (.int (q &&& (15 : Int32))), .val (.ref a2)]) (hb hby dC_57) rfl rfl (pc' := 58) rfl ?_
    refine W10.aloadN (hb hby dC_58) rfl rfl (pc' := 59) rfl ?_
    refine W10.iloadN (hb hby dC_59) rfl (pc' := 60) rfl ?_
    refine W10.caload V10 (.int (chT (q &&& (15 : Int32)))) (hb hby dC_60) (pc' := 61) rfl ⟨(and_le q 15 (by decide)).1, hc1⟩ (getD_int [123, 125, 118, 48, 49, 57, 47, 58] _) ?_
    exact W10.retC hret (hb hby dC_61) (nar_ret (nar_lat (chT_lat _))) (by decide) (by decide) (congrArg (fun z => some (Value.int z)) (by rw [chF, if_pos hc1]))
  · refine W0.icmpYes (hb hby dC_8) (XT.ii_ge_t hc1) (by decide) (pc' := 62) (by decide) ?_
    refine W0.iloadN (hb hby dC_62) rfl (pc' := 63) rfl ?_
    refine W0.iconst (4 : Int32) (hb hby dC_63) rfl (pc' := 64) rfl ?_
    refine W0.iushr (hb hby dC_64) (pc' := 65) rfl ?_
    refine W0.sipush (255 : Int32) (hb hby dC_65) rfl (pc' := 68) rfl ?_
    refine W0.iand (hb hby dC_68) (pc' := 69) rfl ?_
    refine W0.i2c (hb hby dC_69) (pc' := 70) rfl ?_
    exact W0.retC hret (hb hby dC_70) (nar_ret (nar_i2c _)) (by decide) (by decide) (congrArg (fun z => some (Value.int z)) (by rw [chF, if_neg hc1]))
theorem chF_lat (q : Int32) : ¬ chF q < 0 ∧ ¬ (255 : Int32) < chF q := by
  rw [chF]; split
  · exact chT_lat _
  · exact lat_and _
theorem dE4_0 : decode jdk_42_method_149_code 0 = .ok (.aload_n 0, 1) := by decide +kernel
theorem dE4_1 : decode jdk_42_method_149_code 1 = .ok (.invokespecial 1, 3) := by decide +kernel
theorem dE4_4 : decode jdk_42_method_149_code 4 = .ok (.iload_n 3, 1) := by decide +kernel
theorem dE4_5 : decode jdk_42_method_149_code 5 = .ok (.ifCond .ne 22, 3) := by decide +kernel
theorem dE4_8 : decode jdk_42_method_149_code 8 = .ok (.aload_n 0, 1) := by decide +kernel
theorem dE4_9 : decode jdk_42_method_149_code 9 = .ok (.ldc 7, 2) := by decide +kernel
theorem dE4_11 : decode jdk_42_method_149_code 11 = .ok (.getfield 9, 3) := by decide +kernel
theorem dE4_14 : decode jdk_42_method_149_code 14 = .ok (.putfield 9, 3) := by decide +kernel
theorem dE4_17 : decode jdk_42_method_149_code 17 = .ok (.aload_n 0, 1) := by decide +kernel
theorem dE4_18 : decode jdk_42_method_149_code 18 = .ok (.ldc 7, 2) := by decide +kernel
theorem dE4_20 : decode jdk_42_method_149_code 20 = .ok (.getfield 15, 3) := by decide +kernel
theorem dE4_23 : decode jdk_42_method_149_code 23 = .ok (.putfield 15, 3) := by decide +kernel
theorem dE4_26 : decode jdk_42_method_149_code 26 = .ok (.return_, 1) := by decide +kernel
theorem pn_E4 : plainFor (⟨"java/lang/String", "<init>", "([CIILjava/lang/Void;)V"⟩ : MethodName) = true := by first | exact plainFor_of_name (by first | (simp [plainName, overriddenIn]; done) | decide +kernel) | decide +kernel
set_option maxRecDepth 65536 in
set_option maxHeartbeats 40000000 in
theorem rmE4 (l : Launch) (Z : State) (a0 : Array Value) (hw : ∀ d ∈ tables_1, d.before a0 Z = true) (hEL : EW Z a0 consts_1) (a b : Addr) (h0 : Heap) (n0 : Nat) (Z0 : n0 ≤ h0.size) (ga : n0 ≤ a) (EX : Exa Z h0 a "java/lang/String") (FV : Fld Z h0 a "java/lang/String" "value" "[B" .null) (FC : Fld Z h0 a "java/lang/String" "coder" "B" (.int (0 : Int32))) :
    WM l (⟨"java/lang/String", "<init>", "([CIILjava/lang/Void;)V"⟩ : MethodName) jdk_42_method_149_code 6 none [] ({ frames := 1, cells := 4, slots := 8, locals := 13 } : Room) Z consts_1 n0 #[(.ref a), (.ref b), (.int (0 : Int32)), (.int (0 : Int32)), .null] h0 [a] (fun v h => v = none ∧ StrA Z h a []) := by
  refine WM.walk (Ls := #[.val (.ref a), .val (.ref b), .val (.int (0 : Int32)), .val (.int (0 : Int32)), .val .null, .unset]) pn_E4 Z0 (fun m => by first | (simp [entryFrame, mkF, argsToLocals, Value.category]; done) | rfl) ?_
  intro p e s m below meth c s₁ hby hml hret hnm W0
  have hwS : ∀ d ∈ Bundle.stringAtoms, d.before a0 Z = true := fun d hd => hw d (hwAtoms d hd)
  refine W0.1.aloadN (hb hby dE4_0) rfl rfl (pc' := 1) rfl ?_
  refine W0.1.initO (hw _ (List.mem_of_getElem? (i := 18) rfl)) (hw _ (List.mem_of_getElem? (i := 19) rfl)) (hw _ (List.mem_of_getElem? (i := 20) rfl)) (hb hby dE4_1) (pc' := 4) rfl hml (by decide) (wd := 0) (Nat.le_of_ble_eq_true rfl) (by decide) ?_
  intro T1 N1
  have W1 := W0.same N1
  refine W1.1.iloadN (hb hby dE4_4) rfl (pc' := 5) rfl ?_
  refine W1.1.ifNo (hb hby dE4_5) (XT.i0_ne_f (by decide)) (pc' := 8) rfl ?_
  refine W1.1.aloadN (hb hby dE4_8) rfl rfl (pc' := 9) rfl ?_
  refine W1.ldcS hEL (hw _ (List.mem_of_getElem? (i := 21) rfl)) hwS (by decide) (vs := []) (z := (0 : Int32)) ⟨by decide, by decide⟩ (by decide) rfl (hb hby dE4_9) (pc' := 11) rfl (n := 0) (by decide) (by decide) (by decide) (by decide) ?_
  intro T2 h2 vm2 a2 b2 k2 W2 E2 C2 A2 B2 D2 V2 hne2
  have z2 := E2.1
  have F3 := Exa.ext E2 EX
  have F4 := Fld.ext E2 FV
  have Sf2_a := (safe_null (EL := consts_1) W2.1.2.2.2.1.alike F3 F4)
  refine W2.1.getF (host := "") (Or.inl (hw _ (List.mem_of_getElem? (i := 27) rfl))) Via.refl D2 (hb hby dE4_11) (pc' := 14) rfl ?_
  intro T5 N5
  have W5 := W2.same N5
  have F7 := Fld.ext E2 FC
  refine W5.1.putF (host := "") (Or.inl (hw _ (List.mem_of_getElem? (i := 27) rfl))) Via.refl F4 F3 (Or.inr ⟨(hw _ (List.mem_of_getElem? (i := 23) rfl)), rfl, hnm⟩) (hw _ (List.mem_of_getElem? (i := 9) rfl)) (ty := (.array .byte)) (by decide) rfl rfl (hb hby dE4_14) (pc' := 17) rfl (Or.inl (List.mem_of_getElem? (i := 0) rfl)) ga ?_
  intro T6 h6 L6 N6 Q6
  have K6 := Keep.of_wr Q6
  have z6 := K6.1
  have W6 := W5.up N6 K6 (sfS Sf2_a sf0)
  have Sf6 := W5.safeK Sf2_a K6 (sfS Sf2_a sf0)
  have A6 := Exa.wr Q6 F3
  have B6 := Fld.same Q6 F4
  have B6_coder := Fld.other Q6 F7 (Or.inr (slot_ne (Or.inr (hw _ (List.mem_of_getElem? (i := 24) rfl))) (Or.inr (hw _ (List.mem_of_getElem? (i := 23) rfl))) (by decide) (t := .byte) (t' := (.array .byte)) (by decide) (by decide)))
  refine W6.1.aloadN (hb hby dE4_17) rfl rfl (pc' := 18) rfl ?_
  refine W6.ldcS hEL (hw _ (List.mem_of_getElem? (i := 21) rfl)) hwS (by decide) (vs := []) (z := (0 : Int32)) ⟨by decide, by decide⟩ (by decide) rfl (hb hby dE4_18) (pc' := 20) rfl (n := 0) (by decide) (by decide) (by decide) (by decide) ?_
  intro T8 h8 vm8 a8 b8 k8 W8 E8 C8 A8 B8 D8 V8 hne8
  have z8 := E8.1
  have Sf8_a := C8.safe A6.lt Sf6
  refine W8.1.getF (host := "") (Or.inl (hw _ (List.mem_of_getElem? (i := 28) rfl))) Via.refl B8 (hb hby dE4_20) (pc' := 23) rfl ?_
  intro T9 N9
  have W9 := W8.same N9
  have F11 := Fld.ext E8 B6_coder
  have F12 := Exa.ext E8 A6
  have F13 := Fld.ext E8 B6
  refine W9.1.putF (host := "") (Or.inl (hw _ (List.mem_of_getElem? (i := 28) rfl))) Via.refl F11 F12 (Or.inr ⟨(hw _ (List.mem_of_getElem? (i := 24) rfl)), rfl, hnm⟩) (hw _ (List.mem_of_getElem? (i := 9) rfl)) (ty := .byte) (by decide) rfl rfl (hb hby dE4_23) (pc' := 26) rfl (Or.inl (List.mem_of_getElem? (i := 0) rfl)) ga ?_
  intro T10 h10 L10 N10 Q10
  have K10 := Keep.of_wr Q10
  have z10 := K10.1
  have W10 := W9.up N10 K10 (sfS Sf8_a sf0)
  have Sf10 := W9.safeK Sf8_a K10 (sfS Sf8_a sf0)
  have A10 := Exa.wr Q10 F12
  have B10 := Fld.same Q10 F11
  have B10_value := Fld.other Q10 F13 (Or.inr (slot_ne (Or.inr (hw _ (List.mem_of_getElem? (i := 23) rfl))) (Or.inr (hw _ (List.mem_of_getElem? (i := 24) rfl))) (by decide) (t := (.array .byte)) (t' := .byte) (by decide) (by decide)))
  have F14 := (((V2.keep K6 (ninS (Ne.symm (hne2 _ Sf2_a).2) nin0)).ext E8).keep K10 (ninS (Ne.symm (hne2 _ Sf2_a).2) nin0))
  exact W10.retV hEL hret (hb hby dE4_26) (by decide) (by decide) ⟨rfl, StrA.make A10 B10 B10_value F14 rfl (by decide) mem0⟩
theorem dE1_0 : decode jdk_42_method_3_code 0 = .ok (.aload_n 0, 1) := by decide +kernel
theorem dE1_1 : decode jdk_42_method_3_code 1 = .ok (.aload_n 1, 1) := by decide +kernel
theorem dE1_2 : decode jdk_42_method_3_code 2 = .ok (.iconst 0, 1) := by decide +kernel
theorem dE1_3 : decode jdk_42_method_3_code 3 = .ok (.aload_n 1, 1) := by decide +kernel
theorem dE1_4 : decode jdk_42_method_3_code 4 = .ok (.arraylength, 1) := by decide +kernel
theorem dE1_5 : decode jdk_42_method_3_code 5 = .ok (.aconst_null, 1) := by decide +kernel
theorem dE1_6 : decode jdk_42_method_3_code 6 = .ok (.invokespecial 27, 3) := by decide +kernel
theorem pd_2d3984e9 : parseMethodDescriptor "([CIILjava/lang/Void;)V" = some ⟨[(.array .char), .int, .int, (.object "java/lang/Void")], none⟩ := by decide +kernel
theorem dE1_9 : decode jdk_42_method_3_code 9 = .ok (.return_, 1) := by decide +kernel
theorem pn_E1 : plainFor (⟨"java/lang/String", "<init>", "([C)V"⟩ : MethodName) = true := by first | exact plainFor_of_name (by first | (simp [plainName, overriddenIn]; done) | decide +kernel) | decide +kernel
set_option maxRecDepth 65536 in
set_option maxHeartbeats 40000000 in
theorem rmE1 (l : Launch) (Z : State) (a0 : Array Value) (hw : ∀ d ∈ tables_1, d.before a0 Z = true) (hEL : EW Z a0 consts_1) (a b : Addr) (kb : ClassId) (h0 : Heap) (n0 : Nat) (Z0 : n0 ≤ h0.size) (ga : n0 ≤ a) (EX : Exa Z h0 a "java/lang/String") (FV : Fld Z h0 a "java/lang/String" "value" "[B" .null) (FC : Fld Z h0 a "java/lang/String" "coder" "B" (.int (0 : Int32))) (AB : Arv Z h0 b kb .char (0 : Int32) [] (.int (0 : Int32))) :
    WM l (⟨"java/lang/String", "<init>", "([C)V"⟩ : MethodName) jdk_42_method_3_code 2 none [] ({ frames := 2, cells := 4, slots := 8, locals := 30 } : Room) Z consts_1 n0 #[(.ref a), (.ref b)] h0 [a] (fun v h => v = none ∧ StrA Z h a []) := by
  refine WM.walk (Ls := #[.val (.ref a), .val (.ref b)]) pn_E1 Z0 (fun m => by first | (simp [entryFrame, mkF, argsToLocals, Value.category]; done) | rfl) ?_
  intro p e s m below meth c s₁ hby hml hret hnm W0
  refine W0.1.aloadN (hb hby dE1_0) rfl rfl (pc' := 1) rfl ?_
  refine W0.1.aloadN (hb hby dE1_1) rfl rfl (pc' := 2) rfl ?_
  refine W0.1.iconst (0 : Int32) (hb hby dE1_2) rfl (pc' := 3) rfl ?_
  refine W0.1.aloadN (hb hby dE1_3) rfl rfl (pc' := 4) rfl ?_
  refine W0.1.arraylength AB (hb hby dE1_4) (pc' := 5) rfl ?_
  refine W0.1.aconstNull (hb hby dE1_5) (pc' := 6) rfl ?_
  refine W0.callI (y := (⟨"java/lang/String", "<init>", "([CIILjava/lang/Void;)V"⟩ : MethodName)) rfl (hw _ (List.mem_of_getElem? (i := 14) rfl)) (hw _ (List.mem_of_getElem? (i := 15) rfl)) (hw _ (List.mem_of_getElem? (i := 17) rfl)) (by decide) (WM.bk (wd := 0) (rmE4 l Z a0 hw hEL a b h0 n0 W0.1.n0h ga EX FV FC) W0.1.2.2.2.1 (hw _ (List.mem_of_getElem? (i := 17) rfl)) (hw _ (List.mem_of_getElem? (i := 10) rfl)) (by decide) (by decide) hEL W0.2.2.1) (hb hby dE1_6) (pc' := 9) rfl hml (a := a) (argsL := [(.ref b), (.int (0 : Int32)), (.int (0 : Int32)), .null]) rfl (lenOf pd_2d3984e9 rfl) rfl (Nat.le_of_ble_eq_true rfl) (by decide) (by decide) (ws' := [a]) (fun _ _ _ q => ⟨q.2.2, q.2.1⟩) (allS (Or.inl (List.mem_of_getElem? (i := 0) rfl)) all0) ?_
  intro v1 T1 h1 vm1 L1' L1 W1 Q1 K1 C1
  have z1 := K1.1
  obtain ⟨⟨rfl, S1⟩, -, -⟩ := Q1
  show Go p e below _ T1 (mkF m 9 #[.val (.ref a), .val (.ref b)] [])
  exact W1.retV hEL hret (hb hby dE1_9) (by decide) (by decide) ⟨rfl, S1⟩
def makeF (len c0 c1 c2 c3 c4 : Int32) : List Int32 := (if len = (0 : Int32) then ([] : List Int32) else (if len = (1 : Int32) then ([c0] : List Int32) else (if len = (2 : Int32) then ([c0, c1] : List Int32) else (if len = (3 : Int32) then ([c0, c1, c2] : List Int32) else (if len = (4 : Int32) then ([c0, c1, c2, c3] : List Int32) else ([c0, c1, c2, c3, c4] : List Int32))))))
theorem dM_0 : decode method_4_code 0 = .ok (.iload_n 0, 1) := by decide +kernel
theorem dM_1 : decode method_4_code 1 = .ok (.ifCond .ne 14, 3) := by decide +kernel
theorem dM_4 : decode method_4_code 4 = .ok (.new 29, 3) := by decide +kernel
theorem dM_7 : decode method_4_code 7 = .ok (.dup, 1) := by decide +kernel
theorem dM_8 : decode method_4_code 8 = .ok (.iconst 0, 1) := by decide +kernel
theorem dM_9 : decode method_4_code 9 = .ok (.newarray .char, 2) := by decide +kernel
theorem dM_11 : decode method_4_code 11 = .ok (.invokespecial 40, 3) := by decide +kernel
theorem pd_827e2587 : parseMethodDescriptor "([C)V" = some ⟨[(.array .char)], none⟩ := by decide +kernel
theorem dM_14 : decode method_4_code 14 = .ok (.areturn, 1) := by decide +kernel
theorem dM_15 : decode method_4_code 15 = .ok (.iload_n 0, 1) := by decide +kernel
theorem dM_16 : decode method_4_code 16 = .ok (.iconst 1, 1) := by decide +kernel
theorem dM_17 : decode method_4_code 17 = .ok (.if_icmp .ne 18, 3) := by decide +kernel
theorem dM_20 : decode method_4_code 20 = .ok (.new 29, 3) := by decide +kernel
theorem dM_23 : decode method_4_code 23 = .ok (.dup, 1) := by decide +kernel
theorem dM_24 : decode method_4_code 24 = .ok (.iconst 1, 1) := by decide +kernel
theorem dM_25 : decode method_4_code 25 = .ok (.newarray .char, 2) := by decide +kernel
theorem dM_27 : decode method_4_code 27 = .ok (.dup, 1) := by decide +kernel
theorem dM_28 : decode method_4_code 28 = .ok (.iconst 0, 1) := by decide +kernel
theorem dM_29 : decode method_4_code 29 = .ok (.iload_n 1, 1) := by decide +kernel
theorem dM_30 : decode method_4_code 30 = .ok (.castore, 1) := by decide +kernel
theorem dM_31 : decode method_4_code 31 = .ok (.invokespecial 40, 3) := by decide +kernel
theorem dM_34 : decode method_4_code 34 = .ok (.areturn, 1) := by decide +kernel
theorem dM_35 : decode method_4_code 35 = .ok (.iload_n 0, 1) := by decide +kernel
theorem dM_36 : decode method_4_code 36 = .ok (.iconst 2, 1) := by decide +kernel
theorem dM_37 : decode method_4_code 37 = .ok (.if_icmp .ne 22, 3) := by decide +kernel
theorem dM_40 : decode method_4_code 40 = .ok (.new 29, 3) := by decide +kernel
theorem dM_43 : decode method_4_code 43 = .ok (.dup, 1) := by decide +kernel
theorem dM_44 : decode method_4_code 44 = .ok (.iconst 2, 1) := by decide +kernel
theorem dM_45 : decode method_4_code 45 = .ok (.newarray .char, 2) := by decide +kernel
theorem dM_47 : decode method_4_code 47 = .ok (.dup, 1) := by decide +kernel
theorem dM_48 : decode method_4_code 48 = .ok (.iconst 0, 1) := by decide +kernel
theorem dM_49 : decode method_4_code 49 = .ok (.iload_n 1, 1) := by decide +kernel
theorem dM_50 : decode method_4_code 50 = .ok (.castore, 1) := by decide +kernel
theorem dM_51 : decode method_4_code 51 = .ok (.dup, 1) := by decide +kernel
theorem dM_52 : decode method_4_code 52 = .ok (.iconst 1, 1) := by decide +kernel
theorem dM_53 : decode method_4_code 53 = .ok (.iload_n 2, 1) := by decide +kernel
theorem dM_54 : decode method_4_code 54 = .ok (.castore, 1) := by decide +kernel
theorem dM_55 : decode method_4_code 55 = .ok (.invokespecial 40, 3) := by decide +kernel
theorem dM_58 : decode method_4_code 58 = .ok (.areturn, 1) := by decide +kernel
theorem dM_59 : decode method_4_code 59 = .ok (.iload_n 0, 1) := by decide +kernel
theorem dM_60 : decode method_4_code 60 = .ok (.iconst 3, 1) := by decide +kernel
theorem dM_61 : decode method_4_code 61 = .ok (.if_icmp .ne 26, 3) := by decide +kernel
theorem dM_64 : decode method_4_code 64 = .ok (.new 29, 3) := by decide +kernel
theorem dM_67 : decode method_4_code 67 = .ok (.dup, 1) := by decide +kernel
theorem dM_68 : decode method_4_code 68 = .ok (.iconst 3, 1) := by decide +kernel
theorem dM_69 : decode method_4_code 69 = .ok (.newarray .char, 2) := by decide +kernel
theorem dM_71 : decode method_4_code 71 = .ok (.dup, 1) := by decide +kernel
theorem dM_72 : decode method_4_code 72 = .ok (.iconst 0, 1) := by decide +kernel
theorem dM_73 : decode method_4_code 73 = .ok (.iload_n 1, 1) := by decide +kernel
theorem dM_74 : decode method_4_code 74 = .ok (.castore, 1) := by decide +kernel
theorem dM_75 : decode method_4_code 75 = .ok (.dup, 1) := by decide +kernel
theorem dM_76 : decode method_4_code 76 = .ok (.iconst 1, 1) := by decide +kernel
theorem dM_77 : decode method_4_code 77 = .ok (.iload_n 2, 1) := by decide +kernel
theorem dM_78 : decode method_4_code 78 = .ok (.castore, 1) := by decide +kernel
theorem dM_79 : decode method_4_code 79 = .ok (.dup, 1) := by decide +kernel
theorem dM_80 : decode method_4_code 80 = .ok (.iconst 2, 1) := by decide +kernel
theorem dM_81 : decode method_4_code 81 = .ok (.iload_n 3, 1) := by decide +kernel
theorem dM_82 : decode method_4_code 82 = .ok (.castore, 1) := by decide +kernel
theorem dM_83 : decode method_4_code 83 = .ok (.invokespecial 40, 3) := by decide +kernel
theorem dM_86 : decode method_4_code 86 = .ok (.areturn, 1) := by decide +kernel
theorem dM_87 : decode method_4_code 87 = .ok (.iload_n 0, 1) := by decide +kernel
theorem dM_88 : decode method_4_code 88 = .ok (.iconst 4, 1) := by decide +kernel
theorem dM_89 : decode method_4_code 89 = .ok (.if_icmp .ne 31, 3) := by decide +kernel
theorem dM_92 : decode method_4_code 92 = .ok (.new 29, 3) := by decide +kernel
theorem dM_95 : decode method_4_code 95 = .ok (.dup, 1) := by decide +kernel
theorem dM_96 : decode method_4_code 96 = .ok (.iconst 4, 1) := by decide +kernel
theorem dM_97 : decode method_4_code 97 = .ok (.newarray .char, 2) := by decide +kernel
theorem dM_99 : decode method_4_code 99 = .ok (.dup, 1) := by decide +kernel
theorem dM_100 : decode method_4_code 100 = .ok (.iconst 0, 1) := by decide +kernel
theorem dM_101 : decode method_4_code 101 = .ok (.iload_n 1, 1) := by decide +kernel
theorem dM_102 : decode method_4_code 102 = .ok (.castore, 1) := by decide +kernel
theorem dM_103 : decode method_4_code 103 = .ok (.dup, 1) := by decide +kernel
theorem dM_104 : decode method_4_code 104 = .ok (.iconst 1, 1) := by decide +kernel
theorem dM_105 : decode method_4_code 105 = .ok (.iload_n 2, 1) := by decide +kernel
theorem dM_106 : decode method_4_code 106 = .ok (.castore, 1) := by decide +kernel
theorem dM_107 : decode method_4_code 107 = .ok (.dup, 1) := by decide +kernel
theorem dM_108 : decode method_4_code 108 = .ok (.iconst 2, 1) := by decide +kernel
theorem dM_109 : decode method_4_code 109 = .ok (.iload_n 3, 1) := by decide +kernel
theorem dM_110 : decode method_4_code 110 = .ok (.castore, 1) := by decide +kernel
theorem dM_111 : decode method_4_code 111 = .ok (.dup, 1) := by decide +kernel
theorem dM_112 : decode method_4_code 112 = .ok (.iconst 3, 1) := by decide +kernel
theorem dM_113 : decode method_4_code 113 = .ok (.iload 4, 2) := by decide +kernel
theorem dM_115 : decode method_4_code 115 = .ok (.castore, 1) := by decide +kernel
theorem dM_116 : decode method_4_code 116 = .ok (.invokespecial 40, 3) := by decide +kernel
theorem dM_119 : decode method_4_code 119 = .ok (.areturn, 1) := by decide +kernel
theorem dM_120 : decode method_4_code 120 = .ok (.new 29, 3) := by decide +kernel
theorem dM_123 : decode method_4_code 123 = .ok (.dup, 1) := by decide +kernel
theorem dM_124 : decode method_4_code 124 = .ok (.iconst 5, 1) := by decide +kernel
theorem dM_125 : decode method_4_code 125 = .ok (.newarray .char, 2) := by decide +kernel
theorem dM_127 : decode method_4_code 127 = .ok (.dup, 1) := by decide +kernel
theorem dM_128 : decode method_4_code 128 = .ok (.iconst 0, 1) := by decide +kernel
theorem dM_129 : decode method_4_code 129 = .ok (.iload_n 1, 1) := by decide +kernel
theorem dM_130 : decode method_4_code 130 = .ok (.castore, 1) := by decide +kernel
theorem dM_131 : decode method_4_code 131 = .ok (.dup, 1) := by decide +kernel
theorem dM_132 : decode method_4_code 132 = .ok (.iconst 1, 1) := by decide +kernel
theorem dM_133 : decode method_4_code 133 = .ok (.iload_n 2, 1) := by decide +kernel
theorem dM_134 : decode method_4_code 134 = .ok (.castore, 1) := by decide +kernel
theorem dM_135 : decode method_4_code 135 = .ok (.dup, 1) := by decide +kernel
theorem dM_136 : decode method_4_code 136 = .ok (.iconst 2, 1) := by decide +kernel
theorem dM_137 : decode method_4_code 137 = .ok (.iload_n 3, 1) := by decide +kernel
theorem dM_138 : decode method_4_code 138 = .ok (.castore, 1) := by decide +kernel
theorem dM_139 : decode method_4_code 139 = .ok (.dup, 1) := by decide +kernel
theorem dM_140 : decode method_4_code 140 = .ok (.iconst 3, 1) := by decide +kernel
theorem dM_141 : decode method_4_code 141 = .ok (.iload 4, 2) := by decide +kernel
theorem dM_143 : decode method_4_code 143 = .ok (.castore, 1) := by decide +kernel
theorem dM_144 : decode method_4_code 144 = .ok (.dup, 1) := by decide +kernel
theorem dM_145 : decode method_4_code 145 = .ok (.iconst 4, 1) := by decide +kernel
theorem dM_146 : decode method_4_code 146 = .ok (.iload 5, 2) := by decide +kernel
theorem dM_148 : decode method_4_code 148 = .ok (.castore, 1) := by decide +kernel
theorem dM_149 : decode method_4_code 149 = .ok (.invokespecial 40, 3) := by decide +kernel
theorem dM_152 : decode method_4_code 152 = .ok (.areturn, 1) := by decide +kernel
theorem pn_M : plainFor (⟨"com/example/web_api_rules/webapirules/description/CheckedPathIsResourceSegmentPinLaw", "make", "(ICCCCC)Ljava/lang/String;"⟩ : MethodName) = true := by first | exact plainFor_of_name (by first | (simp [plainName, overriddenIn]; done) | decide +kernel) | decide +kernel
set_option maxRecDepth 65536 in
set_option maxHeartbeats 40000000 in
theorem rmM (l : Launch) (Z : State) (a0 : Array Value) (hw : ∀ d ∈ tables_1, d.before a0 Z = true) (hEL : EW Z a0 consts_1) (len c0 c1 c2 c3 c4 : Int32) (zc : Int32) (h0 : Heap) (n0 : Nat) (Z0 : n0 ≤ h0.size) (L0 : ¬ c0 < 0 ∧ ¬ (255 : Int32) < c0) (L1 : ¬ c1 < 0 ∧ ¬ (255 : Int32) < c1) (L2 : ¬ c2 < 0 ∧ ¬ (255 : Int32) < c2) (L3 : ¬ c3 < 0 ∧ ¬ (255 : Int32) < c3) (L4 : ¬ c4 < 0 ∧ ¬ (255 : Int32) < c4) (SC : Sta Z h0 "java/lang/String" "COMPACT_STRINGS" "Z" (.int zc)) (hz : ¬ zc = 0) :
    WM l (⟨"com/example/web_api_rules/webapirules/description/CheckedPathIsResourceSegmentPinLaw", "make", "(ICCCCC)Ljava/lang/String;"⟩ : MethodName) method_4_code 6 (some (.object "java/lang/String")) [] ({ frames := 4, cells := 6, slots := 16, locals := 66 } : Room) Z consts_1 n0 #[(.int len), (.int c0), (.int c1), (.int c2), (.int c3), (.int c4)] h0 [] (fun v h => ∃ a, v = some (.ref a) ∧ StrA Z h a (makeF len c0 c1 c2 c3 c4)) := by
  refine WM.walk (Ls := #[.val (.int len), .val (.int c0), .val (.int c1), .val (.int c2), .val (.int c3), .val (.int c4)]) pn_M Z0 (fun m => by first | (simp [entryFrame, mkF, argsToLocals, Value.category]; done) | rfl) ?_
  intro p e s m below meth c s₁ hby hml hret hnm W0
  have hws : ∀ d ∈ StrChars.Road.words, d.before a0 Z = true := fun d hd => hw d (hwords d hd)
  refine W0.1.iloadN (hb hby dM_0) rfl (pc' := 1) rfl ?_
  by_cases hc1 : len = (0 : Int32)
  · refine W0.1.ifNo (hb hby dM_1) (XT.i0_ne_f hc1) (pc' := 4) rfl ?_
    refine W0.1.newO (hw _ (List.mem_of_getElem? (i := 8) rfl)) (hw _ (List.mem_of_getElem? (i := 9) rfl)) (hw _ (List.mem_of_getElem? (i := 10) rfl)) (hb hby dM_4) (pc' := 7) rfl (by decide) (by decide) ?_
    intro T2 h2 a2 g2 ge2 gn2 N2 E2 A2 D2
    have z2 := E2.1
    have y2 := Nat.le_of_eq g2.symm
    have W2 := W0.upE N2 E2
    have D2_value := D2 (Or.inr (hw _ (List.mem_of_getElem? (i := 23) rfl))) (ty := (.array .byte)) (by decide)
    have D2_coder := D2 (Or.inr (hw _ (List.mem_of_getElem? (i := 24) rfl))) (ty := .byte) (by decide)
    refine W2.1.dup (hb hby dM_7) rfl (pc' := 8) rfl ?_
    refine W2.1.iconst (0 : Int32) (hb hby dM_8) rfl (pc' := 9) rfl ?_
    refine W2.1.newP (hw _ (List.mem_of_getElem? (i := 4) rfl)) (hb hby dM_9) (pc' := 11) rfl (by decide) (cap := 0) (by decide) (by decide) (by decide) (by decide) ?_
    intro T3 h3 a3 k3 g3 ge3 gn3 N3 E3 V3'
    have V3 : Arv Z h3 a3 k3 .char (0 : Int32) [] (.int (0 : Int32)) := V3'
    have z3 := E3.1
    have y3 := Nat.le_of_eq g3.symm
    have W3 := W2.upE N3 E3
    have F5 := Exa.ext E3 A2
    have F6 := Fld.ext E3 D2_value
    have F7 := Fld.ext E3 D2_coder
    refine W3.callI (y := (⟨"java/lang/String", "<init>", "([C)V"⟩ : MethodName)) rfl (hw _ (List.mem_of_getElem? (i := 11) rfl)) (hw _ (List.mem_of_getElem? (i := 12) rfl)) (hw _ (List.mem_of_getElem? (i := 13) rfl)) (by decide) (WM.bk (wd := 1) (rmE1 l Z a0 hw hEL a2 a3 k3 h3 n0 W3.1.n0h gn2 F5 F6 F7 V3) W3.1.2.2.2.1 (hw _ (List.mem_of_getElem? (i := 13) rfl)) (hw _ (List.mem_of_getElem? (i := 10) rfl)) (by decide) (by decide) hEL W3.2.2.1) (hb hby dM_11) (pc' := 14) rfl hml (a := a2) (argsL := [(.ref a3)]) rfl (lenOf pd_827e2587 rfl) rfl (Nat.le_of_ble_eq_true rfl) (by decide) (by decide) (ws' := [a2]) (fun _ _ _ q => ⟨q.2.2, q.2.1⟩) (allS (Or.inr ge2) all0) ?_
    intro v4 T4 h4 vm4 L4' L4 W4 Q4 K4 C4
    have z4 := K4.1
    obtain ⟨⟨rfl, S4⟩, -, -⟩ := Q4
    show Go p e below _ T4 (mkF m 14 #[.val (.int len), .val (.int c0), .val (.int c1), .val (.int c2), .val (.int c3), .val (.int c4)] [(.ref a2)])
    exact W4.retA hEL hret rfl rfl (hb hby dM_14) (by decide) (by decide) ⟨a2, rfl, by rw [makeF, if_pos hc1]; exact S4⟩
  · refine W0.1.ifYes (hb hby dM_1) (XT.i0_ne_t hc1) (by decide) (pc' := 15) (by decide) ?_
    refine W0.1.iloadN (hb hby dM_15) rfl (pc' := 16) rfl ?_
    refine W0.1.iconst (1 : Int32) (hb hby dM_16) rfl (pc' := 17) rfl ?_
    by_cases hc8 : len = (1 : Int32)
    · refine W0.1.icmpNo (hb hby dM_17) (XT.ii_ne_f hc8) (pc' := 20) rfl ?_
      refine W0.1.newO (hw _ (List.mem_of_getElem? (i := 8) rfl)) (hw _ (List.mem_of_getElem? (i := 9) rfl)) (hw _ (List.mem_of_getElem? (i := 10) rfl)) (hb hby dM_20) (pc' := 23) rfl (by decide) (by decide) ?_
      intro T9 h9 a9 g9 ge9 gn9 N9 E9 A9 D9
      have z9 := E9.1
      have y9 := Nat.le_of_eq g9.symm
      have W9 := W0.upE N9 E9
      have D9_value := D9 (Or.inr (hw _ (List.mem_of_getElem? (i := 23) rfl))) (ty := (.array .byte)) (by decide)
      have D9_coder := D9 (Or.inr (hw _ (List.mem_of_getElem? (i := 24) rfl))) (ty := .byte) (by decide)
      refine W9.1.dup (hb hby dM_23) rfl (pc' := 24) rfl ?_
      refine W9.1.iconst (1 : Int32) (hb hby dM_24) rfl (pc' := 25) rfl ?_
      refine W9.1.newP (hw _ (List.mem_of_getElem? (i := 4) rfl)) (hb hby dM_25) (pc' := 27) rfl (by decide) (cap := 1) (by decide) (by decide) (by decide) (by decide) ?_
      intro T10 h10 a10 k10 g10 ge10 gn10 N10 E10 V10'
      have V10 : Arv Z h10 a10 k10 .char (1 : Int32) [(.int (0 : Int32))] (.int (0 : Int32)) := V10'
      have z10 := E10.1
      have y10 := Nat.le_of_eq g10.symm
      have W10 := W9.upE N10 E10
      refine W10.1.dup (hb hby dM_27) rfl (pc' := 28) rfl ?_
      refine W10.1.iconst (0 : Int32) (hb hby dM_28) rfl (pc' := 29) rfl ?_
      refine W10.1.iloadN (hb hby dM_29) rfl (pc' := 30) rfl ?_
      refine W10.1.stC V10 (hb hby dM_30) (pc' := 31) rfl (nar_lat L0) 0 rfl (Nat.le_of_ble_eq_true rfl) (by decide) (Or.inr ge10) gn10 ?_
      intro T11 h11 L11 N11 K11 V11'
      have V11 : Arv Z h11 a10 k10 .char (1 : Int32) [(.int c0)] (.int (0 : Int32)) := V11'
      have z11 := K11.1
      have W11 := W10.up N11 K11 (sfS (Safe.arv (EL := consts_1) W10.1.2.2.2.1.alike V10 (by decide)) sf0)
      have X1_3_13 : Ext h9 h11 := Keep.toExt (((Keep.refl h9 []).ext E10).trans K11 (allS (Or.inr (by have := y10; omega)) all0))
      have zX1_3_13 := X1_3_13.1
      have F14 := Exa.ext X1_3_13 A9
      have F15 := Fld.ext X1_3_13 D9_value
      have F16 := Fld.ext X1_3_13 D9_coder
      have X0_3_17 : Ext h0 h11 := Keep.toExt ((((Keep.refl h0 []).ext E9).ext E10).trans K11 (allS (Or.inr (by have := y10; omega)) all0))
      have zX0_3_17 := X0_3_17.1
      have F18 := Sta.ext X0_3_17 SC
      refine W11.1.callI (y := (⟨"java/lang/String", "<init>", "([C)V"⟩ : MethodName)) rfl (hw _ (List.mem_of_getElem? (i := 11) rfl)) (hw _ (List.mem_of_getElem? (i := 12) rfl)) (hw _ (List.mem_of_getElem? (i := 13) rfl)) (by decide) (StrChars.Road.backV (W := 1) W11.1.2.2.2.1 hws (kI := 4) (hw _ (List.mem_of_getElem? (i := 9) rfl)) (cs := ([c0] : List Int32)) (bs := (([c0] : List Int32)).map (fun c => c.toInt8.toInt32)) (n := 1) gn9 W11.1.n0h F14 F15 F16 V11 F18 hz rfl rfl (by decide) (by decide) (memS L0 mem0) rfl (by decide) (by decide)) (hb hby dM_31) (pc' := 34) rfl hml (a := a9) (argsL := [(.ref a10)]) rfl (lenOf pd_827e2587 rfl) rfl (Nat.le_of_ble_eq_true rfl) (by decide) (by decide) (ws' := [a9]) (fun _ _ _ q => ⟨q.2.1, q.2.2.1⟩) (allS (Or.inr ge9) all0) ?_
      intro v12 T12 h12 L12' L12 N12 Q12 K12
      have W12 := W11.up N12 K12 (sfS (safe_null (EL := consts_1) W11.1.2.2.2.1.alike F14 F15) sf0)
      have z12 := K12.1
      obtain ⟨rfl, -, -, A12, B12, t12, kb12, tn12, tg12, te12, C12', V12⟩ := Q12
      have S12 : StrA Z h12 a9 ([c0] : List Int32) := StrA.make A12 B12 C12' V12 rfl (Nat.le_of_ble_eq_true rfl) (memS L0 mem0)
      show Go p e below _ T12 (mkF m 34 #[.val (.int len), .val (.int c0), .val (.int c1), .val (.int c2), .val (.int c3), .val (.int c4)] [(.ref a9)])
      exact W12.retA hEL hret rfl rfl (hb hby dM_34) (by decide) (by decide) ⟨a9, rfl, by rw [makeF, if_neg hc1, if_pos hc8]; exact S12⟩
    · refine W0.1.icmpYes (hb hby dM_17) (XT.ii_ne_t hc8) (by decide) (pc' := 35) (by decide) ?_
      refine W0.1.iloadN (hb hby dM_35) rfl (pc' := 36) rfl ?_
      refine W0.1.iconst (2 : Int32) (hb hby dM_36) rfl (pc' := 37) rfl ?_
      by_cases hc19 : len = (2 : Int32)
      · refine W0.1.icmpNo (hb hby dM_37) (XT.ii_ne_f hc19) (pc' := 40) rfl ?_
        refine W0.1.newO (hw _ (List.mem_of_getElem? (i := 8) rfl)) (hw _ (List.mem_of_getElem? (i := 9) rfl)) (hw _ (List.mem_of_getElem? (i := 10) rfl)) (hb hby dM_40) (pc' := 43) rfl (by decide) (by decide) ?_
        intro T20 h20 a20 g20 ge20 gn20 N20 E20 A20 D20
        have z20 := E20.1
        have y20 := Nat.le_of_eq g20.symm
        have W20 := W0.upE N20 E20
        have D20_value := D20 (Or.inr (hw _ (List.mem_of_getElem? (i := 23) rfl))) (ty := (.array .byte)) (by decide)
        have D20_coder := D20 (Or.inr (hw _ (List.mem_of_getElem? (i := 24) rfl))) (ty := .byte) (by decide)
        refine W20.1.dup (hb hby dM_43) rfl (pc' := 44) rfl ?_
        refine W20.1.iconst (2 : Int32) (hb hby dM_44) rfl (pc' := 45) rfl ?_
        refine W20.1.newP (hw _ (List.mem_of_getElem? (i := 4) rfl)) (hb hby dM_45) (pc' := 47) rfl (by decide) (cap := 2) (by decide) (by decide) (by decide) (by decide) ?_
        intro T21 h21 a21 k21 g21 ge21 gn21 N21 E21 V21'
        have V21 : Arv Z h21 a21 k21 .char (2 : Int32) [(.int (0 : Int32)), (.int (0 : Int32))] (.int (0 : Int32)) := V21'
        have z21 := E21.1
        have y21 := Nat.le_of_eq g21.symm
        have W21 := W20.upE N21 E21
        refine W21.1.dup (hb hby dM_47) rfl (pc' := 48) rfl ?_
        refine W21.1.iconst (0 : Int32) (hb hby dM_48) rfl (pc' := 49) rfl ?_
        refine W21.1.iloadN (hb hby dM_49) rfl (pc' := 50) rfl ?_
        refine W21.1.stC V21 (hb hby dM_50) (pc' := 51) rfl (nar_lat L0) 0 rfl (Nat.le_of_ble_eq_true rfl) (by decide) (Or.inr ge21) gn21 ?_
        intro T22 h22 L22 N22 K22 V22'
        have V22 : Arv Z h22 a21 k21 .char (2 : Int32) [(.int c0), (.int (0 : Int32))] (.int (0 : Int32)) := V22'
        have z22 := K22.1
        have W22 := W21.up N22 K22 (sfS (Safe.arv (EL := consts_1) W21.1.2.2.2.1.alike V21 (by decide)) sf0)
        refine W22.1.dup (hb hby dM_51) rfl (pc' := 52) rfl ?_
        refine W22.1.iconst (1 : Int32) (hb hby dM_52) rfl (pc' := 53) rfl ?_
        refine W22.1.iloadN (hb hby dM_53) rfl (pc' := 54) rfl ?_
        refine W22.1.stC V22 (hb hby dM_54) (pc' := 55) rfl (nar_lat L1) 1 rfl (Nat.le_of_ble_eq_true rfl) (by decide) (Or.inr ge21) gn21 ?_
        intro T23 h23 L23 N23 K23 V23'
        have V23 : Arv Z h23 a21 k21 .char (2 : Int32) [(.int c0), (.int c1)] (.int (0 : Int32)) := V23'
        have z23 := K23.1
        have W23 := W22.up N23 K23 (sfS (Safe.arv (EL := consts_1) W22.1.2.2.2.1.alike V22 (by decide)) sf0)
        have X1_4_25 : Ext h20 h23 := Keep.toExt ((((Keep.refl h20 []).ext E21).trans K22 (allS (Or.inr (by have := y21; omega)) all0)).trans K23 (allS (Or.inr (by have := y21; omega)) all0))
        have zX1_4_25 := X1_4_25.1
        have F26 := Exa.ext X1_4_25 A20
        have F27 := Fld.ext X1_4_25 D20_value
        have F28 := Fld.ext X1_4_25 D20_coder
        have X0_4_29 : Ext h0 h23 := Keep.toExt (((((Keep.refl h0 []).ext E20).ext E21).trans K22 (allS (Or.inr (by have := y21; omega)) all0)).trans K23 (allS (Or.inr (by have := y21; omega)) all0))
        have zX0_4_29 := X0_4_29.1
        have F30 := Sta.ext X0_4_29 SC
        refine W23.1.callI (y := (⟨"java/lang/String", "<init>", "([C)V"⟩ : MethodName)) rfl (hw _ (List.mem_of_getElem? (i := 11) rfl)) (hw _ (List.mem_of_getElem? (i := 12) rfl)) (hw _ (List.mem_of_getElem? (i := 13) rfl)) (by decide) (StrChars.Road.backV (W := 1) W23.1.2.2.2.1 hws (kI := 4) (hw _ (List.mem_of_getElem? (i := 9) rfl)) (cs := ([c0, c1] : List Int32)) (bs := (([c0, c1] : List Int32)).map (fun c => c.toInt8.toInt32)) (n := 2) gn20 W23.1.n0h F26 F27 F28 V23 F30 hz rfl rfl (by decide) (by decide) (memS L0 (memS L1 mem0)) rfl (by decide) (by decide)) (hb hby dM_55) (pc' := 58) rfl hml (a := a20) (argsL := [(.ref a21)]) rfl (lenOf pd_827e2587 rfl) rfl (Nat.le_of_ble_eq_true rfl) (by decide) (by decide) (ws' := [a20]) (fun _ _ _ q => ⟨q.2.1, q.2.2.1⟩) (allS (Or.inr ge20) all0) ?_
        intro v24 T24 h24 L24' L24 N24 Q24 K24
        have W24 := W23.up N24 K24 (sfS (safe_null (EL := consts_1) W23.1.2.2.2.1.alike F26 F27) sf0)
        have z24 := K24.1
        obtain ⟨rfl, -, -, A24, B24, t24, kb24, tn24, tg24, te24, C24', V24⟩ := Q24
        have S24 : StrA Z h24 a20 ([c0, c1] : List Int32) := StrA.make A24 B24 C24' V24 rfl (Nat.le_of_ble_eq_true rfl) (memS L0 (memS L1 mem0))
        show Go p e below _ T24 (mkF m 58 #[.val (.int len), .val (.int c0), .val (.int c1), .val (.int c2), .val (.int c3), .val (.int c4)] [(.ref a20)])
        exact W24.retA hEL hret rfl rfl (hb hby dM_58) (by decide) (by decide) ⟨a20, rfl, by rw [makeF, if_neg hc1, if_neg hc8, if_pos hc19]; exact S24⟩
      · refine W0.1.icmpYes (hb hby dM_37) (XT.ii_ne_t hc19) (by decide) (pc' := 59) (by decide) ?_
        refine W0.1.iloadN (hb hby dM_59) rfl (pc' := 60) rfl ?_
        refine W0.1.iconst (3 : Int32) (hb hby dM_60) rfl (pc' := 61) rfl ?_
        by_cases hc31 : len = (3 : Int32)
        · refine W0.1.icmpNo (hb hby dM_61) (XT.ii_ne_f hc31) (pc' := 64) rfl ?_
          refine W0.1.newO (hw _ (List.mem_of_getElem? (i := 8) rfl)) (hw _ (List.mem_of_getElem? (i := 9) rfl)) (hw _ (List.mem_of_getElem? (i := 10) rfl)) (hb hby dM_64) (pc' := 67) rfl (by decide) (by decide) ?_
          intro T32 h32 a32 g32 ge32 gn32 N32 E32 A32 D32
          have z32 := E32.1
          have y32 := Nat.le_of_eq g32.symm
          have W32 := W0.upE N32 E32
          have D32_value := D32 (Or.inr (hw _ (List.mem_of_getElem? (i := 23) rfl))) (ty := (.array .byte)) (by decide)
          have D32_coder := D32 (Or.inr (hw _ (List.mem_of_getElem? (i := 24) rfl))) (ty := .byte) (by decide)
          refine W32.1.dup (hb hby dM_67) rfl (pc' := 68) rfl ?_
          refine W32.1.iconst (3 : Int32) (hb hby dM_68) rfl (pc' := 69) rfl ?_
          refine W32.1.newP (hw _ (List.mem_of_getElem? (i := 4) rfl)) (hb hby dM_69) (pc' := 71) rfl (by decide) (cap := 3) (by decide) (by decide) (by decide) (by decide) ?_
          intro T33 h33 a33 k33 g33 ge33 gn33 N33 E33 V33'
          have V33 : Arv Z h33 a33 k33 .char (3 : Int32) [(.int (0 : Int32)), (.int (0 : Int32)), (.int (0 : Int32))] (.int (0 : Int32)) := V33'
          have z33 := E33.1
          have y33 := Nat.le_of_eq g33.symm
          have W33 := W32.upE N33 E33
          refine W33.1.dup (hb hby dM_71) rfl (pc' := 72) rfl ?_
          refine W33.1.iconst (0 : Int32) (hb hby dM_72) rfl (pc' := 73) rfl ?_
          refine W33.1.iloadN (hb hby dM_73) rfl (pc' := 74) rfl ?_
          refine W33.1.stC V33 (hb hby dM_74) (pc' := 75) rfl (nar_lat L0) 0 rfl (Nat.le_of_ble_eq_true rfl) (by decide) (Or.inr ge33) gn33 ?_
          intro T34 h34 L34 N34 K34 V34'
          have V34 : Arv Z h34 a33 k33 .char (3 : Int32) [(.int c0), (.int (0 : Int32)), (.int (0 : Int32))] (.int (0 : Int32)) := V34'
          have z34 := K34.1
          have W34 := W33.up N34 K34 (sfS (Safe.arv (EL := consts_1) W33.1.2.2.2.1.alike V33 (by decide)) sf0)
          refine W34.1.dup (hb hby dM_75) rfl (pc' := 76) rfl ?_
          refine W34.1.iconst (1 : Int32) (hb hby dM_76) rfl (pc' := 77) rfl ?_
          refine W34.1.iloadN (hb hby dM_77) rfl (pc' := 78) rfl ?_
          refine W34.1.stC V34 (hb hby dM_78) (pc' := 79) rfl (nar_lat L1) 1 rfl (Nat.le_of_ble_eq_true rfl) (by decide) (Or.inr ge33) gn33 ?_
          intro T35 h35 L35 N35 K35 V35'
          have V35 : Arv Z h35 a33 k33 .char (3 : Int32) [(.int c0), (.int c1), (.int (0 : Int32))] (.int (0 : Int32)) := V35'
          have z35 := K35.1
          have W35 := W34.up N35 K35 (sfS (Safe.arv (EL := consts_1) W34.1.2.2.2.1.alike V34 (by decide)) sf0)
          refine W35.1.dup (hb hby dM_79) rfl (pc' := 80) rfl ?_
          refine W35.1.iconst (2 : Int32) (hb hby dM_80) rfl (pc' := 81) rfl ?_
          refine W35.1.iloadN (hb hby dM_81) rfl (pc' := 82) rfl ?_
          refine W35.1.stC V35 (hb hby dM_82) (pc' := 83) rfl (nar_lat L2) 2 rfl (Nat.le_of_ble_eq_true rfl) (by decide) (Or.inr ge33) gn33 ?_
          intro T36 h36 L36 N36 K36 V36'
          have V36 : Arv Z h36 a33 k33 .char (3 : Int32) [(.int c0), (.int c1), (.int c2)] (.int (0 : Int32)) := V36'
          have z36 := K36.1
          have W36 := W35.up N36 K36 (sfS (Safe.arv (EL := consts_1) W35.1.2.2.2.1.alike V35 (by decide)) sf0)
          have X1_5_38 : Ext h32 h36 := Keep.toExt (((((Keep.refl h32 []).ext E33).trans K34 (allS (Or.inr (by have := y33; omega)) all0)).trans K35 (allS (Or.inr (by have := y33; omega)) all0)).trans K36 (allS (Or.inr (by have := y33; omega)) all0))
          have zX1_5_38 := X1_5_38.1
          have F39 := Exa.ext X1_5_38 A32
          have F40 := Fld.ext X1_5_38 D32_value
          have F41 := Fld.ext X1_5_38 D32_coder
          have X0_5_42 : Ext h0 h36 := Keep.toExt ((((((Keep.refl h0 []).ext E32).ext E33).trans K34 (allS (Or.inr (by have := y33; omega)) all0)).trans K35 (allS (Or.inr (by have := y33; omega)) all0)).trans K36 (allS (Or.inr (by have := y33; omega)) all0))
          have zX0_5_42 := X0_5_42.1
          have F43 := Sta.ext X0_5_42 SC
          refine W36.1.callI (y := (⟨"java/lang/String", "<init>", "([C)V"⟩ : MethodName)) rfl (hw _ (List.mem_of_getElem? (i := 11) rfl)) (hw _ (List.mem_of_getElem? (i := 12) rfl)) (hw _ (List.mem_of_getElem? (i := 13) rfl)) (by decide) (StrChars.Road.backV (W := 1) W36.1.2.2.2.1 hws (kI := 4) (hw _ (List.mem_of_getElem? (i := 9) rfl)) (cs := ([c0, c1, c2] : List Int32)) (bs := (([c0, c1, c2] : List Int32)).map (fun c => c.toInt8.toInt32)) (n := 3) gn32 W36.1.n0h F39 F40 F41 V36 F43 hz rfl rfl (by decide) (by decide) (memS L0 (memS L1 (memS L2 mem0))) rfl (by decide) (by decide)) (hb hby dM_83) (pc' := 86) rfl hml (a := a32) (argsL := [(.ref a33)]) rfl (lenOf pd_827e2587 rfl) rfl (Nat.le_of_ble_eq_true rfl) (by decide) (by decide) (ws' := [a32]) (fun _ _ _ q => ⟨q.2.1, q.2.2.1⟩) (allS (Or.inr ge32) all0) ?_
          intro v37 T37 h37 L37' L37 N37 Q37 K37
          have W37 := W36.up N37 K37 (sfS (safe_null (EL := consts_1) W36.1.2.2.2.1.alike F39 F40) sf0)
          have z37 := K37.1
          obtain ⟨rfl, -, -, A37, B37, t37, kb37, tn37, tg37, te37, C37', V37⟩ := Q37
          have S37 : StrA Z h37 a32 ([c0, c1, c2] : List Int32) := StrA.make A37 B37 C37' V37 rfl (Nat.le_of_ble_eq_true rfl) (memS L0 (memS L1 (memS L2 mem0)))
          show Go p e below _ T37 (mkF m 86 #[.val (.int len), .val (.int c0), .val (.int c1), .val (.int c2), .val (.int c3), .val (.int c4)] [(.ref a32)])
          exact W37.retA hEL hret rfl rfl (hb hby dM_86) (by decide) (by decide) ⟨a32, rfl, by rw [makeF, if_neg hc1, if_neg hc8, if_neg hc19, if_pos hc31]; exact S37⟩
        · refine W0.1.icmpYes (hb hby dM_61) (XT.ii_ne_t hc31) (by decide) (pc' := 87) (by decide) ?_
          refine W0.1.iloadN (hb hby dM_87) rfl (pc' := 88) rfl ?_
          refine W0.1.iconst (4 : Int32) (hb hby dM_88) rfl (pc' := 89) rfl ?_
          by_cases hc44 : len = (4 : Int32)
          · refine W0.1.icmpNo (hb hby dM_89) (XT.ii_ne_f hc44) (pc' := 92) rfl ?_
            refine W0.1.newO (hw _ (List.mem_of_getElem? (i := 8) rfl)) (hw _ (List.mem_of_getElem? (i := 9) rfl)) (hw _ (List.mem_of_getElem? (i := 10) rfl)) (hb hby dM_92) (pc' := 95) rfl (by decide) (by decide) ?_
            intro T45 h45 a45 g45 ge45 gn45 N45 E45 A45 D45
            have z45 := E45.1
            have y45 := Nat.le_of_eq g45.symm
            have W45 := W0.upE N45 E45
            have D45_value := D45 (Or.inr (hw _ (List.mem_of_getElem? (i := 23) rfl))) (ty := (.array .byte)) (by decide)
            have D45_coder := D45 (Or.inr (hw _ (List.mem_of_getElem? (i := 24) rfl))) (ty := .byte) (by decide)
            refine W45.1.dup (hb hby dM_95) rfl (pc' := 96) rfl ?_
            refine W45.1.iconst (4 : Int32) (hb hby dM_96) rfl (pc' := 97) rfl ?_
            refine W45.1.newP (hw _ (List.mem_of_getElem? (i := 4) rfl)) (hb hby dM_97) (pc' := 99) rfl (by decide) (cap := 4) (by decide) (by decide) (by decide) (by decide) ?_
            intro T46 h46 a46 k46 g46 ge46 gn46 N46 E46 V46'
            have V46 : Arv Z h46 a46 k46 .char (4 : Int32) [(.int (0 : Int32)), (.int (0 : Int32)), (.int (0 : Int32)), (.int (0 : Int32))] (.int (0 : Int32)) := V46'
            have z46 := E46.1
            have y46 := Nat.le_of_eq g46.symm
            have W46 := W45.upE N46 E46
            refine W46.1.dup (hb hby dM_99) rfl (pc' := 100) rfl ?_
            refine W46.1.iconst (0 : Int32) (hb hby dM_100) rfl (pc' := 101) rfl ?_
            refine W46.1.iloadN (hb hby dM_101) rfl (pc' := 102) rfl ?_
            refine W46.1.stC V46 (hb hby dM_102) (pc' := 103) rfl (nar_lat L0) 0 rfl (Nat.le_of_ble_eq_true rfl) (by decide) (Or.inr ge46) gn46 ?_
            intro T47 h47 L47 N47 K47 V47'
            have V47 : Arv Z h47 a46 k46 .char (4 : Int32) [(.int c0), (.int (0 : Int32)), (.int (0 : Int32)), (.int (0 : Int32))] (.int (0 : Int32)) := V47'
            have z47 := K47.1
            have W47 := W46.up N47 K47 (sfS (Safe.arv (EL := consts_1) W46.1.2.2.2.1.alike V46 (by decide)) sf0)
            refine W47.1.dup (hb hby dM_103) rfl (pc' := 104) rfl ?_
            refine W47.1.iconst (1 : Int32) (hb hby dM_104) rfl (pc' := 105) rfl ?_
            refine W47.1.iloadN (hb hby dM_105) rfl (pc' := 106) rfl ?_
            refine W47.1.stC V47 (hb hby dM_106) (pc' := 107) rfl (nar_lat L1) 1 rfl (Nat.le_of_ble_eq_true rfl) (by decide) (Or.inr ge46) gn46 ?_
            intro T48 h48 L48 N48 K48 V48'
            have V48 : Arv Z h48 a46 k46 .char (4 : Int32) [(.int c0), (.int c1), (.int (0 : Int32)), (.int (0 : Int32))] (.int (0 : Int32)) := V48'
            have z48 := K48.1
            have W48 := W47.up N48 K48 (sfS (Safe.arv (EL := consts_1) W47.1.2.2.2.1.alike V47 (by decide)) sf0)
            refine W48.1.dup (hb hby dM_107) rfl (pc' := 108) rfl ?_
            refine W48.1.iconst (2 : Int32) (hb hby dM_108) rfl (pc' := 109) rfl ?_
            refine W48.1.iloadN (hb hby dM_109) rfl (pc' := 110) rfl ?_
            refine W48.1.stC V48 (hb hby dM_110) (pc' := 111) rfl (nar_lat L2) 2 rfl (Nat.le_of_ble_eq_true rfl) (by decide) (Or.inr ge46) gn46 ?_
            intro T49 h49 L49 N49 K49 V49'
            have V49 : Arv Z h49 a46 k46 .char (4 : Int32) [(.int c0), (.int c1), (.int c2), (.int (0 : Int32))] (.int (0 : Int32)) := V49'
            have z49 := K49.1
            have W49 := W48.up N49 K49 (sfS (Safe.arv (EL := consts_1) W48.1.2.2.2.1.alike V48 (by decide)) sf0)
            refine W49.1.dup (hb hby dM_111) rfl (pc' := 112) rfl ?_
            refine W49.1.iconst (3 : Int32) (hb hby dM_112) rfl (pc' := 113) rfl ?_
            refine W49.1.iload (hb hby dM_113) rfl (pc' := 115) rfl ?_
            refine W49.1.stC V49 (hb hby dM_115) (pc' := 116) rfl (nar_lat L3) 3 rfl (Nat.le_of_ble_eq_true rfl) (by decide) (Or.inr ge46) gn46 ?_
            intro T50 h50 L50 N50 K50 V50'
            have V50 : Arv Z h50 a46 k46 .char (4 : Int32) [(.int c0), (.int c1), (.int c2), (.int c3)] (.int (0 : Int32)) := V50'
            have z50 := K50.1
            have W50 := W49.up N50 K50 (sfS (Safe.arv (EL := consts_1) W49.1.2.2.2.1.alike V49 (by decide)) sf0)
            have X1_6_52 : Ext h45 h50 := Keep.toExt ((((((Keep.refl h45 []).ext E46).trans K47 (allS (Or.inr (by have := y46; omega)) all0)).trans K48 (allS (Or.inr (by have := y46; omega)) all0)).trans K49 (allS (Or.inr (by have := y46; omega)) all0)).trans K50 (allS (Or.inr (by have := y46; omega)) all0))
            have zX1_6_52 := X1_6_52.1
            have F53 := Exa.ext X1_6_52 A45
            have F54 := Fld.ext X1_6_52 D45_value
            have F55 := Fld.ext X1_6_52 D45_coder
            have X0_6_56 : Ext h0 h50 := Keep.toExt (((((((Keep.refl h0 []).ext E45).ext E46).trans K47 (allS (Or.inr (by have := y46; omega)) all0)).trans K48 (allS (Or.inr (by have := y46; omega)) all0)).trans K49 (allS (Or.inr (by have := y46; omega)) all0)).trans K50 (allS (Or.inr (by have := y46; omega)) all0))
            have zX0_6_56 := X0_6_56.1
            have F57 := Sta.ext X0_6_56 SC
            refine W50.1.callI (y := (⟨"java/lang/String", "<init>", "([C)V"⟩ : MethodName)) rfl (hw _ (List.mem_of_getElem? (i := 11) rfl)) (hw _ (List.mem_of_getElem? (i := 12) rfl)) (hw _ (List.mem_of_getElem? (i := 13) rfl)) (by decide) (StrChars.Road.backV (W := 1) W50.1.2.2.2.1 hws (kI := 4) (hw _ (List.mem_of_getElem? (i := 9) rfl)) (cs := ([c0, c1, c2, c3] : List Int32)) (bs := (([c0, c1, c2, c3] : List Int32)).map (fun c => c.toInt8.toInt32)) (n := 4) gn45 W50.1.n0h F53 F54 F55 V50 F57 hz rfl rfl (by decide) (by decide) (memS L0 (memS L1 (memS L2 (memS L3 mem0)))) rfl (by decide) (by decide)) (hb hby dM_116) (pc' := 119) rfl hml (a := a45) (argsL := [(.ref a46)]) rfl (lenOf pd_827e2587 rfl) rfl (Nat.le_of_ble_eq_true rfl) (by decide) (by decide) (ws' := [a45]) (fun _ _ _ q => ⟨q.2.1, q.2.2.1⟩) (allS (Or.inr ge45) all0) ?_
            intro v51 T51 h51 L51' L51 N51 Q51 K51
            have W51 := W50.up N51 K51 (sfS (safe_null (EL := consts_1) W50.1.2.2.2.1.alike F53 F54) sf0)
            have z51 := K51.1
            obtain ⟨rfl, -, -, A51, B51, t51, kb51, tn51, tg51, te51, C51', V51⟩ := Q51
            have S51 : StrA Z h51 a45 ([c0, c1, c2, c3] : List Int32) := StrA.make A51 B51 C51' V51 rfl (Nat.le_of_ble_eq_true rfl) (memS L0 (memS L1 (memS L2 (memS L3 mem0))))
            show Go p e below _ T51 (mkF m 119 #[.val (.int len), .val (.int c0), .val (.int c1), .val (.int c2), .val (.int c3), .val (.int c4)] [(.ref a45)])
            exact W51.retA hEL hret rfl rfl (hb hby dM_119) (by decide) (by decide) ⟨a45, rfl, by rw [makeF, if_neg hc1, if_neg hc8, if_neg hc19, if_neg hc31, if_pos hc44]; exact S51⟩
          · refine W0.1.icmpYes (hb hby dM_89) (XT.ii_ne_t hc44) (by decide) (pc' := 120) (by decide) ?_
            refine W0.1.newO (hw _ (List.mem_of_getElem? (i := 8) rfl)) (hw _ (List.mem_of_getElem? (i := 9) rfl)) (hw _ (List.mem_of_getElem? (i := 10) rfl)) (hb hby dM_120) (pc' := 123) rfl (by decide) (by decide) ?_
            intro T58 h58 a58 g58 ge58 gn58 N58 E58 A58 D58
            have z58 := E58.1
            have y58 := Nat.le_of_eq g58.symm
            have W58 := W0.upE N58 E58
            have D58_value := D58 (Or.inr (hw _ (List.mem_of_getElem? (i := 23) rfl))) (ty := (.array .byte)) (by decide)
            have D58_coder := D58 (Or.inr (hw _ (List.mem_of_getElem? (i := 24) rfl))) (ty := .byte) (by decide)
            refine W58.1.dup (hb hby dM_123) rfl (pc' := 124) rfl ?_
            refine W58.1.iconst (5 : Int32) (hb hby dM_124) rfl (pc' := 125) rfl ?_
            refine W58.1.newP (hw _ (List.mem_of_getElem? (i := 4) rfl)) (hb hby dM_125) (pc' := 127) rfl (by decide) (cap := 5) (by decide) (by decide) (by decide) (by decide) ?_
            intro T59 h59 a59 k59 g59 ge59 gn59 N59 E59 V59'
            have V59 : Arv Z h59 a59 k59 .char (5 : Int32) [(.int (0 : Int32)), (.int (0 : Int32)), (.int (0 : Int32)), (.int (0 : Int32)), (.int (0 : Int32))] (.int (0 : Int32)) := V59'
            have z59 := E59.1
            have y59 := Nat.le_of_eq g59.symm
            have W59 := W58.upE N59 E59
            refine W59.1.dup (hb hby dM_127) rfl (pc' := 128) rfl ?_
            refine W59.1.iconst (0 : Int32) (hb hby dM_128) rfl (pc' := 129) rfl ?_
            refine W59.1.iloadN (hb hby dM_129) rfl (pc' := 130) rfl ?_
            refine W59.1.stC V59 (hb hby dM_130) (pc' := 131) rfl (nar_lat L0) 0 rfl (Nat.le_of_ble_eq_true rfl) (by decide) (Or.inr ge59) gn59 ?_
            intro T60 h60 L60 N60 K60 V60'
            have V60 : Arv Z h60 a59 k59 .char (5 : Int32) [(.int c0), (.int (0 : Int32)), (.int (0 : Int32)), (.int (0 : Int32)), (.int (0 : Int32))] (.int (0 : Int32)) := V60'
            have z60 := K60.1
            have W60 := W59.up N60 K60 (sfS (Safe.arv (EL := consts_1) W59.1.2.2.2.1.alike V59 (by decide)) sf0)
            refine W60.1.dup (hb hby dM_131) rfl (pc' := 132) rfl ?_
            refine W60.1.iconst (1 : Int32) (hb hby dM_132) rfl (pc' := 133) rfl ?_
            refine W60.1.iloadN (hb hby dM_133) rfl (pc' := 134) rfl ?_
            refine W60.1.stC V60 (hb hby dM_134) (pc' := 135) rfl (nar_lat L1) 1 rfl (Nat.le_of_ble_eq_true rfl) (by decide) (Or.inr ge59) gn59 ?_
            intro T61 h61 L61 N61 K61 V61'
            have V61 : Arv Z h61 a59 k59 .char (5 : Int32) [(.int c0), (.int c1), (.int (0 : Int32)), (.int (0 : Int32)), (.int (0 : Int32))] (.int (0 : Int32)) := V61'
            have z61 := K61.1
            have W61 := W60.up N61 K61 (sfS (Safe.arv (EL := consts_1) W60.1.2.2.2.1.alike V60 (by decide)) sf0)
            refine W61.1.dup (hb hby dM_135) rfl (pc' := 136) rfl ?_
            refine W61.1.iconst (2 : Int32) (hb hby dM_136) rfl (pc' := 137) rfl ?_
            refine W61.1.iloadN (hb hby dM_137) rfl (pc' := 138) rfl ?_
            refine W61.1.stC V61 (hb hby dM_138) (pc' := 139) rfl (nar_lat L2) 2 rfl (Nat.le_of_ble_eq_true rfl) (by decide) (Or.inr ge59) gn59 ?_
            intro T62 h62 L62 N62 K62 V62'
            have V62 : Arv Z h62 a59 k59 .char (5 : Int32) [(.int c0), (.int c1), (.int c2), (.int (0 : Int32)), (.int (0 : Int32))] (.int (0 : Int32)) := V62'
            have z62 := K62.1
            have W62 := W61.up N62 K62 (sfS (Safe.arv (EL := consts_1) W61.1.2.2.2.1.alike V61 (by decide)) sf0)
            refine W62.1.dup (hb hby dM_139) rfl (pc' := 140) rfl ?_
            refine W62.1.iconst (3 : Int32) (hb hby dM_140) rfl (pc' := 141) rfl ?_
            refine W62.1.iload (hb hby dM_141) rfl (pc' := 143) rfl ?_
            refine W62.1.stC V62 (hb hby dM_143) (pc' := 144) rfl (nar_lat L3) 3 rfl (Nat.le_of_ble_eq_true rfl) (by decide) (Or.inr ge59) gn59 ?_
            intro T63 h63 L63 N63 K63 V63'
            have V63 : Arv Z h63 a59 k59 .char (5 : Int32) [(.int c0), (.int c1), (.int c2), (.int c3), (.int (0 : Int32))] (.int (0 : Int32)) := V63'
            have z63 := K63.1
            have W63 := W62.up N63 K63 (sfS (Safe.arv (EL := consts_1) W62.1.2.2.2.1.alike V62 (by decide)) sf0)
            refine W63.1.dup (hb hby dM_144) rfl (pc' := 145) rfl ?_
            refine W63.1.iconst (4 : Int32) (hb hby dM_145) rfl (pc' := 146) rfl ?_
            refine W63.1.iload (hb hby dM_146) rfl (pc' := 148) rfl ?_
            refine W63.1.stC V63 (hb hby dM_148) (pc' := 149) rfl (nar_lat L4) 4 rfl (Nat.le_of_ble_eq_true rfl) (by decide) (Or.inr ge59) gn59 ?_
            intro T64 h64 L64 N64 K64 V64'
            have V64 : Arv Z h64 a59 k59 .char (5 : Int32) [(.int c0), (.int c1), (.int c2), (.int c3), (.int c4)] (.int (0 : Int32)) := V64'
            have z64 := K64.1
            have W64 := W63.up N64 K64 (sfS (Safe.arv (EL := consts_1) W63.1.2.2.2.1.alike V63 (by decide)) sf0)
            have X1_7_66 : Ext h58 h64 := Keep.toExt (((((((Keep.refl h58 []).ext E59).trans K60 (allS (Or.inr (by have := y59; omega)) all0)).trans K61 (allS (Or.inr (by have := y59; omega)) all0)).trans K62 (allS (Or.inr (by have := y59; omega)) all0)).trans K63 (allS (Or.inr (by have := y59; omega)) all0)).trans K64 (allS (Or.inr (by have := y59; omega)) all0))
            have zX1_7_66 := X1_7_66.1
            have F67 := Exa.ext X1_7_66 A58
            have F68 := Fld.ext X1_7_66 D58_value
            have F69 := Fld.ext X1_7_66 D58_coder
            have X0_7_70 : Ext h0 h64 := Keep.toExt ((((((((Keep.refl h0 []).ext E58).ext E59).trans K60 (allS (Or.inr (by have := y59; omega)) all0)).trans K61 (allS (Or.inr (by have := y59; omega)) all0)).trans K62 (allS (Or.inr (by have := y59; omega)) all0)).trans K63 (allS (Or.inr (by have := y59; omega)) all0)).trans K64 (allS (Or.inr (by have := y59; omega)) all0))
            have zX0_7_70 := X0_7_70.1
            have F71 := Sta.ext X0_7_70 SC
            refine W64.1.callI (y := (⟨"java/lang/String", "<init>", "([C)V"⟩ : MethodName)) rfl (hw _ (List.mem_of_getElem? (i := 11) rfl)) (hw _ (List.mem_of_getElem? (i := 12) rfl)) (hw _ (List.mem_of_getElem? (i := 13) rfl)) (by decide) (StrChars.Road.backV (W := 1) W64.1.2.2.2.1 hws (kI := 4) (hw _ (List.mem_of_getElem? (i := 9) rfl)) (cs := ([c0, c1, c2, c3, c4] : List Int32)) (bs := (([c0, c1, c2, c3, c4] : List Int32)).map (fun c => c.toInt8.toInt32)) (n := 5) gn58 W64.1.n0h F67 F68 F69 V64 F71 hz rfl rfl (by decide) (by decide) (memS L0 (memS L1 (memS L2 (memS L3 (memS L4 mem0))))) rfl (by decide) (by decide)) (hb hby dM_149) (pc' := 152) rfl hml (a := a58) (argsL := [(.ref a59)]) rfl (lenOf pd_827e2587 rfl) rfl (Nat.le_of_ble_eq_true rfl) (by decide) (by decide) (ws' := [a58]) (fun _ _ _ q => ⟨q.2.1, q.2.2.1⟩) (allS (Or.inr ge58) all0) ?_
            intro v65 T65 h65 L65' L65 N65 Q65 K65
            have W65 := W64.up N65 K65 (sfS (safe_null (EL := consts_1) W64.1.2.2.2.1.alike F67 F68) sf0)
            have z65 := K65.1
            obtain ⟨rfl, -, -, A65, B65, t65, kb65, tn65, tg65, te65, C65', V65⟩ := Q65
            have S65 : StrA Z h65 a58 ([c0, c1, c2, c3, c4] : List Int32) := StrA.make A65 B65 C65' V65 rfl (Nat.le_of_ble_eq_true rfl) (memS L0 (memS L1 (memS L2 (memS L3 (memS L4 mem0)))))
            show Go p e below _ T65 (mkF m 152 #[.val (.int len), .val (.int c0), .val (.int c1), .val (.int c2), .val (.int c3), .val (.int c4)] [(.ref a58)])
            exact W65.retA hEL hret rfl rfl (hb hby dM_152) (by decide) (by decide) ⟨a58, rfl, by rw [makeF, if_neg hc1, if_neg hc8, if_neg hc19, if_neg hc31, if_neg hc44]; exact S65⟩
def lastF (len c2 c3 c4 : Int32) : Int32 := (if len = (3 : Int32) then c2 else (if len = (4 : Int32) then c3 else c4))
theorem dL_0 : decode method_5_code 0 = .ok (.iload_n 0, 1) := by decide +kernel
theorem dL_1 : decode method_5_code 1 = .ok (.iconst 3, 1) := by decide +kernel
theorem dL_2 : decode method_5_code 2 = .ok (.if_icmp .ne 5, 3) := by decide +kernel
theorem dL_5 : decode method_5_code 5 = .ok (.iload_n 1, 1) := by decide +kernel
theorem dL_6 : decode method_5_code 6 = .ok (.ireturn, 1) := by decide +kernel
theorem dL_7 : decode method_5_code 7 = .ok (.iload_n 0, 1) := by decide +kernel
theorem dL_8 : decode method_5_code 8 = .ok (.iconst 4, 1) := by decide +kernel
theorem dL_9 : decode method_5_code 9 = .ok (.if_icmp .ne 5, 3) := by decide +kernel
theorem dL_12 : decode method_5_code 12 = .ok (.iload_n 2, 1) := by decide +kernel
theorem dL_13 : decode method_5_code 13 = .ok (.ireturn, 1) := by decide +kernel
theorem dL_14 : decode method_5_code 14 = .ok (.iload_n 3, 1) := by decide +kernel
theorem dL_15 : decode method_5_code 15 = .ok (.ireturn, 1) := by decide +kernel
theorem pn_L : plainFor (⟨"com/example/web_api_rules/webapirules/description/CheckedPathIsResourceSegmentPinLaw", "last", "(ICCC)C"⟩ : MethodName) = true := by first | exact plainFor_of_name (by first | (simp [plainName, overriddenIn]; done) | decide +kernel) | decide +kernel
set_option maxRecDepth 65536 in
set_option maxHeartbeats 40000000 in
theorem rmL (l : Launch) (Z : State) (a0 : Array Value) (hw : ∀ d ∈ tables_1, d.before a0 Z = true) (len c2 c3 c4 : Int32) (h0 : Heap) (n0 : Nat) (Z0 : n0 ≤ h0.size) (L2 : ¬ c2 < 0 ∧ ¬ (255 : Int32) < c2) (L3 : ¬ c3 < 0 ∧ ¬ (255 : Int32) < c3) (L4 : ¬ c4 < 0 ∧ ¬ (255 : Int32) < c4) :
    NM l (⟨"com/example/web_api_rules/webapirules/description/CheckedPathIsResourceSegmentPinLaw", "last", "(ICCC)C"⟩ : MethodName) method_5_code 4 (some .char) [] ({ frames := 0, cells := 0, slots := 0, locals := 0 } : Room) Z n0 #[(.int len), (.int c2), (.int c3), (.int c4)] h0 [] (Pu (some (.int (lastF len c2 c3 c4))) h0) := by
  refine NM.walk (Ls := #[.val (.int len), .val (.int c2), .val (.int c3), .val (.int c4)]) pn_L Z0 (fun m => by first | (simp [entryFrame, mkF, argsToLocals, Value.category]; done) | rfl) ?_
  intro p e s m below meth c s₁ hby hml hret hnm W0
  refine W0.iloadN (hb hby dL_0) rfl (pc' := 1) rfl ?_
  refine W0.iconst (3 : Int32) (hb hby dL_1) rfl (pc' := 2) rfl ?_
  by_cases hc1 : len = (3 : Int32)
  · refine W0.icmpNo (hb hby dL_2) (XT.ii_ne_f hc1) (pc' := 5) rfl ?_
    refine W0.iloadN (hb hby dL_5) rfl (pc' := 6) rfl ?_
    exact W0.retC hret (hb hby dL_6) (nar_ret (nar_lat L2)) (by decide) (by decide) ⟨congrArg (fun z => some (Value.int z)) (by rw [lastF, if_pos hc1]), rfl⟩
  · refine W0.icmpYes (hb hby dL_2) (XT.ii_ne_t hc1) (by decide) (pc' := 7) (by decide) ?_
    refine W0.iloadN (hb hby dL_7) rfl (pc' := 8) rfl ?_
    refine W0.iconst (4 : Int32) (hb hby dL_8) rfl (pc' := 9) rfl ?_
    by_cases hc2 : len = (4 : Int32)
    · refine W0.icmpNo (hb hby dL_9) (XT.ii_ne_f hc2) (pc' := 12) rfl ?_
      refine W0.iloadN (hb hby dL_12) rfl (pc' := 13) rfl ?_
      exact W0.retC hret (hb hby dL_13) (nar_ret (nar_lat L3)) (by decide) (by decide) ⟨congrArg (fun z => some (Value.int z)) (by rw [lastF, if_neg hc1, if_pos hc2]), rfl⟩
    · refine W0.icmpYes (hb hby dL_9) (XT.ii_ne_t hc2) (by decide) (pc' := 14) (by decide) ?_
      refine W0.iloadN (hb hby dL_14) rfl (pc' := 15) rfl ?_
      exact W0.retC hret (hb hby dL_15) (nar_ret (nar_lat L4)) (by decide) (by decide) ⟨congrArg (fun z => some (Value.int z)) (by rw [lastF, if_neg hc1, if_neg hc2]), rfl⟩
def nbF (ch : Int32) : Int32 := (if ch = (123 : Int32) then (0 : Int32) else (if ch = (125 : Int32) then (0 : Int32) else (1 : Int32)))
theorem dNB_0 : decode method_6_code 0 = .ok (.iload_n 0, 1) := by decide +kernel
theorem dNB_1 : decode method_6_code 1 = .ok (.bipush 123, 2) := by decide +kernel
theorem dNB_3 : decode method_6_code 3 = .ok (.if_icmp .eq 13, 3) := by decide +kernel
theorem dNB_16 : decode method_6_code 16 = .ok (.iconst 0, 1) := by decide +kernel
theorem dNB_17 : decode method_6_code 17 = .ok (.ireturn, 1) := by decide +kernel
theorem dNB_6 : decode method_6_code 6 = .ok (.iload_n 0, 1) := by decide +kernel
theorem dNB_7 : decode method_6_code 7 = .ok (.bipush 125, 2) := by decide +kernel
theorem dNB_9 : decode method_6_code 9 = .ok (.if_icmp .eq 7, 3) := by decide +kernel
theorem dNB_12 : decode method_6_code 12 = .ok (.iconst 1, 1) := by decide +kernel
theorem dNB_13 : decode method_6_code 13 = .ok (.goto 4, 3) := by decide +kernel
theorem pn_NB : plainFor (⟨"com/example/web_api_rules/webapirules/description/CheckedPathIsResourceSegmentPinLaw", "noBrace", "(C)Z"⟩ : MethodName) = true := by first | exact plainFor_of_name (by first | (simp [plainName, overriddenIn]; done) | decide +kernel) | decide +kernel
set_option maxRecDepth 65536 in
set_option maxHeartbeats 40000000 in
theorem rmNB (l : Launch) (Z : State) (a0 : Array Value) (hw : ∀ d ∈ tables_1, d.before a0 Z = true) (ch : Int32) (h0 : Heap) (n0 : Nat) (Z0 : n0 ≤ h0.size)  :
    NM l (⟨"com/example/web_api_rules/webapirules/description/CheckedPathIsResourceSegmentPinLaw", "noBrace", "(C)Z"⟩ : MethodName) method_6_code 1 (some .boolean) [] ({ frames := 0, cells := 0, slots := 0, locals := 0 } : Room) Z n0 #[(.int ch)] h0 [] (Pu (some (.int (nbF ch))) h0) := by
  refine NM.walk (Ls := #[.val (.int ch)]) pn_NB Z0 (fun m => by first | (simp [entryFrame, mkF, argsToLocals, Value.category]; done) | rfl) ?_
  intro p e s m below meth c s₁ hby hml hret hnm W0
  refine W0.iloadN (hb hby dNB_0) rfl (pc' := 1) rfl ?_
  refine W0.bipush (123 : Int32) (hb hby dNB_1) rfl (pc' := 3) rfl ?_
  by_cases hc1 : ch = (123 : Int32)
  · refine W0.icmpYes (hb hby dNB_3) (XT.ii_eq_t hc1) (by decide) (pc' := 16) (by decide) ?_
    refine W0.iconst (0 : Int32) (hb hby dNB_16) rfl (pc' := 17) rfl ?_
    exact W0.retZ hret (hb hby dNB_17) (by decide) (by decide) (by decide) ⟨congrArg (fun z => some (Value.int z)) (by rw [nbF, if_pos hc1]), rfl⟩
  · refine W0.icmpNo (hb hby dNB_3) (XT.ii_eq_f hc1) (pc' := 6) rfl ?_
    refine W0.iloadN (hb hby dNB_6) rfl (pc' := 7) rfl ?_
    refine W0.bipush (125 : Int32) (hb hby dNB_7) rfl (pc' := 9) rfl ?_
    by_cases hc2 : ch = (125 : Int32)
    · refine W0.icmpYes (hb hby dNB_9) (XT.ii_eq_t hc2) (by decide) (pc' := 16) (by decide) ?_
      refine W0.iconst (0 : Int32) (hb hby dNB_16) rfl (pc' := 17) rfl ?_
      exact W0.retZ hret (hb hby dNB_17) (by decide) (by decide) (by decide) ⟨congrArg (fun z => some (Value.int z)) (by rw [nbF, if_neg hc1, if_pos hc2]), rfl⟩
    · refine W0.icmpNo (hb hby dNB_9) (XT.ii_eq_f hc2) (pc' := 12) rfl ?_
      refine W0.iconst (1 : Int32) (hb hby dNB_12) rfl (pc' := 13) rfl ?_
      refine W0.goto (hb hby dNB_13) (by decide) (pc' := 17) (by decide) ?_
      exact W0.retZ hret (hb hby dNB_17) (by decide) (by decide) (by decide) ⟨congrArg (fun z => some (Value.int z)) (by rw [nbF, if_neg hc1, if_neg hc2]), rfl⟩
def digF (ch : Int32) : Int32 := (if ch < (48 : Int32) then (0 : Int32) else (if (57 : Int32) < ch then (0 : Int32) else (1 : Int32)))
theorem dDG_0 : decode method_7_code 0 = .ok (.iload_n 0, 1) := by decide +kernel
theorem dDG_1 : decode method_7_code 1 = .ok (.bipush 48, 2) := by decide +kernel
theorem dDG_3 : decode method_7_code 3 = .ok (.if_icmp .lt 13, 3) := by decide +kernel
theorem dDG_16 : decode method_7_code 16 = .ok (.iconst 0, 1) := by decide +kernel
theorem dDG_17 : decode method_7_code 17 = .ok (.ireturn, 1) := by decide +kernel
theorem dDG_6 : decode method_7_code 6 = .ok (.iload_n 0, 1) := by decide +kernel
theorem dDG_7 : decode method_7_code 7 = .ok (.bipush 57, 2) := by decide +kernel
theorem dDG_9 : decode method_7_code 9 = .ok (.if_icmp .gt 7, 3) := by decide +kernel
theorem dDG_12 : decode method_7_code 12 = .ok (.iconst 1, 1) := by decide +kernel
theorem dDG_13 : decode method_7_code 13 = .ok (.goto 4, 3) := by decide +kernel
theorem pn_DG : plainFor (⟨"com/example/web_api_rules/webapirules/description/CheckedPathIsResourceSegmentPinLaw", "dig", "(C)Z"⟩ : MethodName) = true := by first | exact plainFor_of_name (by first | (simp [plainName, overriddenIn]; done) | decide +kernel) | decide +kernel
set_option maxRecDepth 65536 in
set_option maxHeartbeats 40000000 in
theorem rmDG (l : Launch) (Z : State) (a0 : Array Value) (hw : ∀ d ∈ tables_1, d.before a0 Z = true) (ch : Int32) (h0 : Heap) (n0 : Nat) (Z0 : n0 ≤ h0.size)  :
    NM l (⟨"com/example/web_api_rules/webapirules/description/CheckedPathIsResourceSegmentPinLaw", "dig", "(C)Z"⟩ : MethodName) method_7_code 1 (some .boolean) [] ({ frames := 0, cells := 0, slots := 0, locals := 0 } : Room) Z n0 #[(.int ch)] h0 [] (Pu (some (.int (digF ch))) h0) := by
  refine NM.walk (Ls := #[.val (.int ch)]) pn_DG Z0 (fun m => by first | (simp [entryFrame, mkF, argsToLocals, Value.category]; done) | rfl) ?_
  intro p e s m below meth c s₁ hby hml hret hnm W0
  refine W0.iloadN (hb hby dDG_0) rfl (pc' := 1) rfl ?_
  refine W0.bipush (48 : Int32) (hb hby dDG_1) rfl (pc' := 3) rfl ?_
  by_cases hc1 : ch < (48 : Int32)
  · refine W0.icmpYes (hb hby dDG_3) (XT.ii_lt_t hc1) (by decide) (pc' := 16) (by decide) ?_
    refine W0.iconst (0 : Int32) (hb hby dDG_16) rfl (pc' := 17) rfl ?_
    exact W0.retZ hret (hb hby dDG_17) (by decide) (by decide) (by decide) ⟨congrArg (fun z => some (Value.int z)) (by rw [digF, if_pos hc1]), rfl⟩
  · refine W0.icmpNo (hb hby dDG_3) (XT.ii_lt_f hc1) (pc' := 6) rfl ?_
    refine W0.iloadN (hb hby dDG_6) rfl (pc' := 7) rfl ?_
    refine W0.bipush (57 : Int32) (hb hby dDG_7) rfl (pc' := 9) rfl ?_
    by_cases hc2 : (57 : Int32) < ch
    · refine W0.icmpYes (hb hby dDG_9) (XT.ii_gt_t hc2) (by decide) (pc' := 16) (by decide) ?_
      refine W0.iconst (0 : Int32) (hb hby dDG_16) rfl (pc' := 17) rfl ?_
      exact W0.retZ hret (hb hby dDG_17) (by decide) (by decide) (by decide) ⟨congrArg (fun z => some (Value.int z)) (by rw [digF, if_neg hc1, if_pos hc2]), rfl⟩
    · refine W0.icmpNo (hb hby dDG_9) (XT.ii_gt_f hc2) (pc' := 12) rfl ?_
      refine W0.iconst (1 : Int32) (hb hby dDG_12) rfl (pc' := 13) rfl ?_
      refine W0.goto (hb hby dDG_13) (by decide) (pc' := 17) (by decide) ?_
      exact W0.retZ hret (hb hby dDG_17) (by decide) (by decide) (by decide) ⟨congrArg (fun z => some (Value.int z)) (by rw [digF, if_neg hc1, if_neg hc2]), rfl⟩
def isdF (ch : Int32) : Int32 := (if ch < (48 : Int32) then (0 : Int32) else (if (57 : Int32) < ch then (0 : Int32) else (1 : Int32)))
theorem dID_0 : decode prog_6_method_15_code 0 = .ok (.iload_n 0, 1) := by decide +kernel
theorem dID_1 : decode prog_6_method_15_code 1 = .ok (.bipush 48, 2) := by decide +kernel
theorem dID_3 : decode prog_6_method_15_code 3 = .ok (.if_icmp .lt 13, 3) := by decide +kernel
theorem dID_16 : decode prog_6_method_15_code 16 = .ok (.iconst 0, 1) := by decide +kernel
theorem dID_17 : decode prog_6_method_15_code 17 = .ok (.ireturn, 1) := by decide +kernel
theorem dID_6 : decode prog_6_method_15_code 6 = .ok (.iload_n 0, 1) := by decide +kernel
theorem dID_7 : decode prog_6_method_15_code 7 = .ok (.bipush 57, 2) := by decide +kernel
theorem dID_9 : decode prog_6_method_15_code 9 = .ok (.if_icmp .gt 7, 3) := by decide +kernel
theorem dID_12 : decode prog_6_method_15_code 12 = .ok (.iconst 1, 1) := by decide +kernel
theorem dID_13 : decode prog_6_method_15_code 13 = .ok (.goto 4, 3) := by decide +kernel
theorem pn_ID : plainFor (⟨"com/example/web_api_rules/webapirules/description/CheckedPath", "isDigit", "(C)Z"⟩ : MethodName) = true := by first | exact plainFor_of_name (by first | (simp [plainName, overriddenIn]; done) | decide +kernel) | decide +kernel
set_option maxRecDepth 65536 in
set_option maxHeartbeats 40000000 in
theorem rmID (l : Launch) (Z : State) (a0 : Array Value) (hw : ∀ d ∈ tables_1, d.before a0 Z = true) (ch : Int32) (h0 : Heap) (n0 : Nat) (Z0 : n0 ≤ h0.size)  :
    NM l (⟨"com/example/web_api_rules/webapirules/description/CheckedPath", "isDigit", "(C)Z"⟩ : MethodName) prog_6_method_15_code 1 (some .boolean) [] ({ frames := 0, cells := 0, slots := 0, locals := 0 } : Room) Z n0 #[(.int ch)] h0 [] (Pu (some (.int (isdF ch))) h0) := by
  refine NM.walk (Ls := #[.val (.int ch)]) pn_ID Z0 (fun m => by first | (simp [entryFrame, mkF, argsToLocals, Value.category]; done) | rfl) ?_
  intro p e s m below meth c s₁ hby hml hret hnm W0
  refine W0.iloadN (hb hby dID_0) rfl (pc' := 1) rfl ?_
  refine W0.bipush (48 : Int32) (hb hby dID_1) rfl (pc' := 3) rfl ?_
  by_cases hc1 : ch < (48 : Int32)
  · refine W0.icmpYes (hb hby dID_3) (XT.ii_lt_t hc1) (by decide) (pc' := 16) (by decide) ?_
    refine W0.iconst (0 : Int32) (hb hby dID_16) rfl (pc' := 17) rfl ?_
    exact W0.retZ hret (hb hby dID_17) (by decide) (by decide) (by decide) ⟨congrArg (fun z => some (Value.int z)) (by rw [isdF, if_pos hc1]), rfl⟩
  · refine W0.icmpNo (hb hby dID_3) (XT.ii_lt_f hc1) (pc' := 6) rfl ?_
    refine W0.iloadN (hb hby dID_6) rfl (pc' := 7) rfl ?_
    refine W0.bipush (57 : Int32) (hb hby dID_7) rfl (pc' := 9) rfl ?_
    by_cases hc2 : (57 : Int32) < ch
    · refine W0.icmpYes (hb hby dID_9) (XT.ii_gt_t hc2) (by decide) (pc' := 16) (by decide) ?_
      refine W0.iconst (0 : Int32) (hb hby dID_16) rfl (pc' := 17) rfl ?_
      exact W0.retZ hret (hb hby dID_17) (by decide) (by decide) (by decide) ⟨congrArg (fun z => some (Value.int z)) (by rw [isdF, if_neg hc1, if_pos hc2]), rfl⟩
    · refine W0.icmpNo (hb hby dID_9) (XT.ii_gt_f hc2) (pc' := 12) rfl ?_
      refine W0.iconst (1 : Int32) (hb hby dID_12) rfl (pc' := 13) rfl ?_
      refine W0.goto (hb hby dID_13) (by decide) (pc' := 17) (by decide) ?_
      exact W0.retZ hret (hb hby dID_17) (by decide) (by decide) (by decide) ⟨congrArg (fun z => some (Value.int z)) (by rw [isdF, if_neg hc1, if_neg hc2]), rfl⟩
theorem len3 {n : Nat} (hn : n ≤ 4000) (h : ¬ (Int32.ofNat n - 1 < 2)) : 3 ≤ n := by
  rcases Nat.eq_zero_or_pos n with rfl | q
  · exact absurd (by decide) h
  · rw [show (1 : Int32) = Int32.ofNat 1 from rfl, ofNat_sub q, show (2 : Int32) = Int32.ofNat 2 from rfl, ofNat_lt (by omega) (by omega)] at h
    omega
theorem last_lt {n i : Nat} (hn : n ≤ 4000) (hi : i + 1 ≤ n) : (Int32.ofNat i < Int32.ofNat n - 1) ↔ i + 1 < n := by
  rw [show (1 : Int32) = Int32.ofNat 1 from rfl, ofNat_sub (by omega), ofNat_lt (by omega) (by omega)]; omega
def parL (cs : List Int32) : Nat → Nat → Int32
  | _, 0 => 1
  | i, k + 1 => if (cs.getD i 0) = (123 : Int32) then 0 else if (cs.getD i 0) = (125 : Int32) then 0 else parL cs (i + 1) k
def parF (cs : List Int32) : Int32 := (if ((Int32.ofNat cs.length) - (1 : Int32)) < (2 : Int32) then (0 : Int32) else (if (cs.getD 0 0) = (123 : Int32) then (if (cs.getD (cs.length - 1) 0) = (125 : Int32) then (parL cs 1 (cs.length - 2)) else (0 : Int32)) else (0 : Int32)))
theorem dP_36 : decode prog_6_method_2_code 36 = .ok (.iload_n 2, 1) := by decide +kernel
theorem dP_37 : decode prog_6_method_2_code 37 = .ok (.iload_n 1, 1) := by decide +kernel
theorem dP_38 : decode prog_6_method_2_code 38 = .ok (.if_icmp .ge 29, 3) := by decide +kernel
theorem dP_67 : decode prog_6_method_2_code 67 = .ok (.iconst 1, 1) := by decide +kernel
theorem dP_68 : decode prog_6_method_2_code 68 = .ok (.ireturn, 1) := by decide +kernel
theorem dP_41 : decode prog_6_method_2_code 41 = .ok (.aload_n 0, 1) := by decide +kernel
theorem dP_42 : decode prog_6_method_2_code 42 = .ok (.iload_n 2, 1) := by decide +kernel
theorem dP_43 : decode prog_6_method_2_code 43 = .ok (.invokevirtual 69, 3) := by decide +kernel
theorem pd_32dd484b : parseMethodDescriptor "(I)C" = some ⟨[.int], some .char⟩ := by decide +kernel
theorem dP_46 : decode prog_6_method_2_code 46 = .ok (.istore_n 3, 1) := by decide +kernel
theorem dP_47 : decode prog_6_method_2_code 47 = .ok (.iload_n 3, 1) := by decide +kernel
theorem dP_48 : decode prog_6_method_2_code 48 = .ok (.bipush 123, 2) := by decide +kernel
theorem dP_50 : decode prog_6_method_2_code 50 = .ok (.if_icmp .eq 9, 3) := by decide +kernel
theorem dP_59 : decode prog_6_method_2_code 59 = .ok (.iconst 0, 1) := by decide +kernel
theorem dP_60 : decode prog_6_method_2_code 60 = .ok (.ireturn, 1) := by decide +kernel
theorem dP_53 : decode prog_6_method_2_code 53 = .ok (.iload_n 3, 1) := by decide +kernel
theorem dP_54 : decode prog_6_method_2_code 54 = .ok (.bipush 125, 2) := by decide +kernel
theorem dP_56 : decode prog_6_method_2_code 56 = .ok (.if_icmp .ne 5, 3) := by decide +kernel
theorem dP_61 : decode prog_6_method_2_code 61 = .ok (.iinc 2 1, 3) := by decide +kernel
theorem dP_64 : decode prog_6_method_2_code 64 = .ok (.goto (-28), 3) := by decide +kernel
theorem dP_0 : decode prog_6_method_2_code 0 = .ok (.aload_n 0, 1) := by decide +kernel
theorem dP_1 : decode prog_6_method_2_code 1 = .ok (.invokevirtual 66, 3) := by decide +kernel
theorem pd_368a4b19 : parseMethodDescriptor "()I" = some ⟨[], some .int⟩ := by decide +kernel
theorem dP_4 : decode prog_6_method_2_code 4 = .ok (.iconst 1, 1) := by decide +kernel
theorem dP_5 : decode prog_6_method_2_code 5 = .ok (.isub, 1) := by decide +kernel
theorem dP_6 : decode prog_6_method_2_code 6 = .ok (.istore_n 1, 1) := by decide +kernel
theorem dP_7 : decode prog_6_method_2_code 7 = .ok (.iload_n 1, 1) := by decide +kernel
theorem dP_8 : decode prog_6_method_2_code 8 = .ok (.iconst 2, 1) := by decide +kernel
theorem dP_9 : decode prog_6_method_2_code 9 = .ok (.if_icmp .lt 23, 3) := by decide +kernel
theorem dP_32 : decode prog_6_method_2_code 32 = .ok (.iconst 0, 1) := by decide +kernel
theorem dP_33 : decode prog_6_method_2_code 33 = .ok (.ireturn, 1) := by decide +kernel
theorem dP_12 : decode prog_6_method_2_code 12 = .ok (.aload_n 0, 1) := by decide +kernel
theorem dP_13 : decode prog_6_method_2_code 13 = .ok (.iconst 0, 1) := by decide +kernel
theorem dP_14 : decode prog_6_method_2_code 14 = .ok (.invokevirtual 69, 3) := by decide +kernel
theorem dP_17 : decode prog_6_method_2_code 17 = .ok (.bipush 123, 2) := by decide +kernel
theorem dP_19 : decode prog_6_method_2_code 19 = .ok (.if_icmp .ne 13, 3) := by decide +kernel
theorem dP_22 : decode prog_6_method_2_code 22 = .ok (.aload_n 0, 1) := by decide +kernel
theorem dP_23 : decode prog_6_method_2_code 23 = .ok (.iload_n 1, 1) := by decide +kernel
theorem dP_24 : decode prog_6_method_2_code 24 = .ok (.invokevirtual 69, 3) := by decide +kernel
theorem dP_27 : decode prog_6_method_2_code 27 = .ok (.bipush 125, 2) := by decide +kernel
theorem dP_29 : decode prog_6_method_2_code 29 = .ok (.if_icmp .eq 5, 3) := by decide +kernel
theorem dP_34 : decode prog_6_method_2_code 34 = .ok (.iconst 1, 1) := by decide +kernel
theorem dP_35 : decode prog_6_method_2_code 35 = .ok (.istore_n 2, 1) := by decide +kernel
theorem pn_P : plainFor (⟨"com/example/web_api_rules/webapirules/description/CheckedPath", "isParameter", "(Ljava/lang/String;)Z"⟩ : MethodName) = true := by first | exact plainFor_of_name (by first | (simp [plainName, overriddenIn]; done) | decide +kernel) | decide +kernel
set_option maxRecDepth 65536 in
set_option maxHeartbeats 40000000 in
theorem rmP (l : Launch) (Z : State) (a0 : Array Value) (hw : ∀ d ∈ tables_1, d.before a0 Z = true) (a : Addr) (cs : List Int32) (zc : Int32) (fm : Value) (h0 : Heap) (n0 : Nat) (Z0 : n0 ≤ h0.size) (TS : StrA Z h0 a cs) (HL : ∀ c ∈ cs, ¬ (255 : Int32) < c) (SC : Sta Z h0 "java/lang/String" "COMPACT_STRINGS" "Z" (.int zc)) (hz : ¬ zc = 0) (SF : Sta Z h0 "jdk/internal/util/Preconditions" "SIOOBE_FORMATTER" "Ljava/util/function/BiFunction;" fm) (rfm : fm.isRef = true) :
    NM l (⟨"com/example/web_api_rules/webapirules/description/CheckedPath", "isParameter", "(Ljava/lang/String;)Z"⟩ : MethodName) prog_6_method_2_code 4 (some .boolean) [] ({ frames := 4, cells := 0, slots := 0, locals := 53 } : Room) Z n0 #[(.ref a)] h0 [] (Pu (some (.int (parF cs))) h0) := by
  refine NM.walk (Ls := #[.val (.ref a), .unset, .unset, .unset]) pn_P Z0 (fun m => by first | (simp [entryFrame, mkF, argsToLocals, Value.category]; done) | rfl) ?_
  intro p e s m below meth c s₁ hby hml hret hnm W0
  have loop : ∀ (k i : Nat) (T : State) (Lo : List Loc) (sl : Slot), (i + k + 1 = cs.length) → (parF cs = parL cs i k) → (sl = .unset ∨ ∃ z : Int32, sl = .val (.int z)) → NK p l e ({ frames := 4, cells := 0, slots := 0, locals := 53 } : Room) s m #[(.ref a)] below meth c Z "com/example/web_api_rules/webapirules/description/CheckedPath" n0 h0 [] T h0 Lo 0 0 → Go p e below (EndN n0 ({ frames := 4, cells := 0, slots := 0, locals := 53 } : Room) s below (Pu (some (.int (parF cs))) h0) h0 []) T (mkF m 36 #[.val (.ref a), .val (.int ((Int32.ofNat cs.length) - (1 : Int32))), .val (.int (Int32.ofNat i)), sl] []) := by
    intro k
    induction k with
    | zero =>
      intro i T Lo sl hi hF hsl Wk
      refine Wk.iloadN (hb hby dP_36) rfl (pc' := 37) rfl ?_
      refine Wk.iloadN (hb hby dP_37) rfl (pc' := 38) rfl ?_
      refine Wk.icmpYes (hb hby dP_38) (XT.ii_ge_t (by rw [last_lt TS.2.2.1 (by omega)]; omega)) (by decide) (pc' := 67) (by decide) ?_
      refine Wk.iconst (1 : Int32) (hb hby dP_67) rfl (pc' := 68) rfl ?_
      exact Wk.retZ hret (hb hby dP_68) (by decide) (by decide) (by decide) ⟨congrArg (fun z => some (Value.int z)) (by rw [hF, parL]), rfl⟩
    | succ k ih =>
      intro i T Lo sl hi hF hsl Wk
      refine Wk.iloadN (hb hby dP_36) rfl (pc' := 37) rfl ?_
      refine Wk.iloadN (hb hby dP_37) rfl (pc' := 38) rfl ?_
      refine Wk.icmpNo (hb hby dP_38) (XT.ii_ge_f ((last_lt TS.2.2.1 (by omega)).mpr (by omega))) (pc' := 41) rfl ?_
      refine Wk.aloadN (hb hby dP_41) rfl rfl (pc' := 42) rfl ?_
      refine Wk.iloadN (hb hby dP_42) rfl (pc' := 43) rfl ?_
      refine Wk.callVP (y := (⟨"java/lang/String", "charAt", "(I)C"⟩ : MethodName)) (z := (⟨"java/lang/String", "charAt", "(I)C"⟩ : MethodName)) (hw _ (List.mem_of_getElem? (i := 61) rfl)) (hw _ (List.mem_of_getElem? (i := 62) rfl)) (hw _ (List.mem_of_getElem? (i := 64) rfl)) (hw _ (List.mem_of_getElem? (i := 64) rfl)) (hw _ (List.mem_of_getElem? (i := 63) rfl)) (by decide) (StrA.chr (wd := 0) TS HL Wk.2.2.2.1 hw (hw _ (List.mem_of_getElem? (i := 9) rfl)) SC hz SF rfm (by decide) (by decide) (i := i) (j := (Int32.ofNat i)) (by omega) rfl) TS.1 (hb hby dP_43) (pc' := 46) rfl hml (argsL := [(.int (Int32.ofNat i))]) rfl (lenOf pd_32dd484b rfl) rfl (Nat.le_of_ble_eq_true rfl) (by decide) (by decide) (fun _ _ _ q => pu_nil q) ?_
      intro T1 L1 W1
      show Go p e below _ T1 (mkF m 46 #[.val (.ref a), .val (.int ((Int32.ofNat cs.length) - (1 : Int32))), .val (.int (Int32.ofNat i)), sl] [(.int (cs.getD i 0))])
      refine W1.istoreN (Ls' := #[.val (.ref a), .val (.int ((Int32.ofNat cs.length) - (1 : Int32))), .val (.int (Int32.ofNat i)), .val (.int (cs.getD i 0))]) (hb hby dP_46) (by rcases hsl with rfl | ⟨z, rfl⟩ <;> rfl) (pc' := 47) rfl ?_
      refine W1.iloadN (hb hby dP_47) rfl (pc' := 48) rfl ?_
      refine W1.bipush (123 : Int32) (hb hby dP_48) rfl (pc' := 50) rfl ?_
      by_cases hc2 : (cs.getD i 0) = (123 : Int32)
      · refine W1.icmpYes (hb hby dP_50) (XT.ii_eq_t hc2) (by decide) (pc' := 59) (by decide) ?_
        refine W1.iconst (0 : Int32) (hb hby dP_59) rfl (pc' := 60) rfl ?_
        exact W1.retZ hret (hb hby dP_60) (by decide) (by decide) (by decide) ⟨congrArg (fun z => some (Value.int z)) (by rw [hF, parL, if_pos hc2]), rfl⟩
      · refine W1.icmpNo (hb hby dP_50) (XT.ii_eq_f hc2) (pc' := 53) rfl ?_
        refine W1.iloadN (hb hby dP_53) rfl (pc' := 54) rfl ?_
        refine W1.bipush (125 : Int32) (hb hby dP_54) rfl (pc' := 56) rfl ?_
        by_cases hc3 : (cs.getD i 0) = (125 : Int32)
        · refine W1.icmpNo (hb hby dP_56) (XT.ii_ne_f hc3) (pc' := 59) rfl ?_
          refine W1.iconst (0 : Int32) (hb hby dP_59) rfl (pc' := 60) rfl ?_
          exact W1.retZ hret (hb hby dP_60) (by decide) (by decide) (by decide) ⟨congrArg (fun z => some (Value.int z)) (by rw [hF, parL, if_neg hc2, if_pos hc3]), rfl⟩
        · refine W1.icmpYes (hb hby dP_56) (XT.ii_ne_t hc3) (by decide) (pc' := 61) (by decide) ?_
          refine W1.iinc (Ls' := #[.val (.ref a), .val (.int ((Int32.ofNat cs.length) - (1 : Int32))), .val (.int ((Int32.ofNat i) + (1 : Int32))), .val (.int (cs.getD i 0))]) (1 : Int32) (hb hby dP_61) rfl rfl rfl (pc' := 64) rfl ?_
          refine W1.goto (hb hby dP_64) (by decide) (pc' := 36) (by decide) ?_
          have q := ih (i + 1) _ _ (.val (.int (cs.getD i 0))) (by omega) (by rw [hF, parL, if_neg hc2, if_neg hc3]) (Or.inr ⟨_, rfl⟩) W1
          rw [← ofNat_succ] at q
          exact q
  refine W0.aloadN (hb hby dP_0) rfl rfl (pc' := 1) rfl ?_
  refine W0.callVP (y := (⟨"java/lang/String", "length", "()I"⟩ : MethodName)) (z := (⟨"java/lang/String", "length", "()I"⟩ : MethodName)) (hw _ (List.mem_of_getElem? (i := 47) rfl)) (hw _ (List.mem_of_getElem? (i := 30) rfl)) (hw _ (List.mem_of_getElem? (i := 32) rfl)) (hw _ (List.mem_of_getElem? (i := 32) rfl)) (hw _ (List.mem_of_getElem? (i := 31) rfl)) (by decide) (StrA.lenB (wd := 0) TS W0.2.2.2.1 hw (hw _ (List.mem_of_getElem? (i := 9) rfl)) SC hz (by decide) (by decide)) TS.1 (hb hby dP_1) (pc' := 4) rfl hml (argsL := []) rfl (lenOf pd_368a4b19 rfl) rfl (Nat.le_of_ble_eq_true rfl) (by decide) (by decide) (fun _ _ _ q => pu_nil q) ?_
  intro T4 L4 W4
  show Go p e below _ T4 (mkF m 4 #[.val (.ref a), .unset, .unset, .unset] [(.int (Int32.ofNat cs.length))])
  refine W4.iconst (1 : Int32) (hb hby dP_4) rfl (pc' := 5) rfl ?_
  refine W4.isub (hb hby dP_5) (pc' := 6) rfl ?_
  refine W4.istoreN (Ls' := #[.val (.ref a), .val (.int ((Int32.ofNat cs.length) - (1 : Int32))), .unset, .unset]) (hb hby dP_6) rfl (pc' := 7) rfl ?_
  refine W4.iloadN (hb hby dP_7) rfl (pc' := 8) rfl ?_
  refine W4.iconst (2 : Int32) (hb hby dP_8) rfl (pc' := 9) rfl ?_
  by_cases hc5 : ((Int32.ofNat cs.length) - (1 : Int32)) < (2 : Int32)
  · refine W4.icmpYes (hb hby dP_9) (XT.ii_lt_t hc5) (by decide) (pc' := 32) (by decide) ?_
    refine W4.iconst (0 : Int32) (hb hby dP_32) rfl (pc' := 33) rfl ?_
    exact W4.retZ hret (hb hby dP_33) (by decide) (by decide) (by decide) ⟨congrArg (fun z => some (Value.int z)) (by rw [parF, if_pos hc5]), rfl⟩
  · refine W4.icmpNo (hb hby dP_9) (XT.ii_lt_f hc5) (pc' := 12) rfl ?_
    refine W4.aloadN (hb hby dP_12) rfl rfl (pc' := 13) rfl ?_
    refine W4.iconst (0 : Int32) (hb hby dP_13) rfl (pc' := 14) rfl ?_
    refine W4.callVP (y := (⟨"java/lang/String", "charAt", "(I)C"⟩ : MethodName)) (z := (⟨"java/lang/String", "charAt", "(I)C"⟩ : MethodName)) (hw _ (List.mem_of_getElem? (i := 61) rfl)) (hw _ (List.mem_of_getElem? (i := 62) rfl)) (hw _ (List.mem_of_getElem? (i := 64) rfl)) (hw _ (List.mem_of_getElem? (i := 64) rfl)) (hw _ (List.mem_of_getElem? (i := 63) rfl)) (by decide) (StrA.chr (wd := 0) TS HL W4.2.2.2.1 hw (hw _ (List.mem_of_getElem? (i := 9) rfl)) SC hz SF rfm (by decide) (by decide) (i := 0) (j := (0 : Int32)) (by have := len3 TS.2.2.1 hc5; omega) rfl) TS.1 (hb hby dP_14) (pc' := 17) rfl hml (argsL := [(.int (0 : Int32))]) rfl (lenOf pd_32dd484b rfl) rfl (Nat.le_of_ble_eq_true rfl) (by decide) (by decide) (fun _ _ _ q => pu_nil q) ?_
    intro T6 L6 W6
    show Go p e below _ T6 (mkF m 17 #[.val (.ref a), .val (.int ((Int32.ofNat cs.length) - (1 : Int32))), .unset, .unset] [(.int (cs.getD 0 0))])
    refine W6.bipush (123 : Int32) (hb hby dP_17) rfl (pc' := 19) rfl ?_
    by_cases hc7 : (cs.getD 0 0) = (123 : Int32)
    · refine W6.icmpNo (hb hby dP_19) (XT.ii_ne_f hc7) (pc' := 22) rfl ?_
      refine W6.aloadN (hb hby dP_22) rfl rfl (pc' := 23) rfl ?_
      refine W6.iloadN (hb hby dP_23) rfl (pc' := 24) rfl ?_
      refine W6.callVP (y := (⟨"java/lang/String", "charAt", "(I)C"⟩ : MethodName)) (z := (⟨"java/lang/String", "charAt", "(I)C"⟩ : MethodName)) (hw _ (List.mem_of_getElem? (i := 61) rfl)) (hw _ (List.mem_of_getElem? (i := 62) rfl)) (hw _ (List.mem_of_getElem? (i := 64) rfl)) (hw _ (List.mem_of_getElem? (i := 64) rfl)) (hw _ (List.mem_of_getElem? (i := 63) rfl)) (by decide) (StrA.chr (wd := 0) TS HL W6.2.2.2.1 hw (hw _ (List.mem_of_getElem? (i := 9) rfl)) SC hz SF rfm (by decide) (by decide) (i := (cs.length - 1)) (j := ((Int32.ofNat cs.length) - (1 : Int32))) (by have := len3 TS.2.2.1 hc5; omega) (ofNat_sub (k := 1) (by have := len3 TS.2.2.1 hc5; omega))) TS.1 (hb hby dP_24) (pc' := 27) rfl hml (argsL := [(.int ((Int32.ofNat cs.length) - (1 : Int32)))]) rfl (lenOf pd_32dd484b rfl) rfl (Nat.le_of_ble_eq_true rfl) (by decide) (by decide) (fun _ _ _ q => pu_nil q) ?_
      intro T8 L8 W8
      show Go p e below _ T8 (mkF m 27 #[.val (.ref a), .val (.int ((Int32.ofNat cs.length) - (1 : Int32))), .unset, .unset] [(.int (cs.getD (cs.length - 1) 0))])
      refine W8.bipush (125 : Int32) (hb hby dP_27) rfl (pc' := 29) rfl ?_
      by_cases hc9 : (cs.getD (cs.length - 1) 0) = (125 : Int32)
      · refine W8.icmpYes (hb hby dP_29) (XT.ii_eq_t hc9) (by decide) (pc' := 34) (by decide) ?_
        refine W8.iconst (1 : Int32) (hb hby dP_34) rfl (pc' := 35) rfl ?_
        refine W8.istoreN (Ls' := #[.val (.ref a), .val (.int ((Int32.ofNat cs.length) - (1 : Int32))), .val (.int (1 : Int32)), .unset]) (hb hby dP_35) rfl (pc' := 36) rfl ?_
        exact loop (cs.length - 2) 1 _ _ _ (by have := len3 TS.2.2.1 hc5; omega) (by rw [parF, if_neg hc5, if_pos hc7, if_pos hc9]) (Or.inl rfl) W8
      · refine W8.icmpNo (hb hby dP_29) (XT.ii_eq_f hc9) (pc' := 32) rfl ?_
        refine W8.iconst (0 : Int32) (hb hby dP_32) rfl (pc' := 33) rfl ?_
        exact W8.retZ hret (hb hby dP_33) (by decide) (by decide) (by decide) ⟨congrArg (fun z => some (Value.int z)) (by rw [parF, if_neg hc5, if_pos hc7, if_neg hc9]), rfl⟩
    · refine W6.icmpYes (hb hby dP_19) (XT.ii_ne_t hc7) (by decide) (pc' := 32) (by decide) ?_
      refine W6.iconst (0 : Int32) (hb hby dP_32) rfl (pc' := 33) rfl ?_
      exact W6.retZ hret (hb hby dP_33) (by decide) (by decide) (by decide) ⟨congrArg (fun z => some (Value.int z)) (by rw [parF, if_neg hc5, if_neg hc7]), rfl⟩
def verL (cs : List Int32) : Nat → Nat → Int32
  | _, 0 => 1
  | i, k + 1 => if (isdF (cs.getD i 0)) = (0 : Int32) then 0 else verL cs (i + 1) k
theorem len2 {n : Nat} (hn : n ≤ 4000) (h : ¬ (Int32.ofNat n < 2)) : 2 ≤ n := by
  rw [show (2 : Int32) = Int32.ofNat 2 from rfl, ofNat_lt (by omega) (by omega)] at h
  omega
def verF (cs : List Int32) : Int32 := (if (Int32.ofNat cs.length) < (2 : Int32) then (0 : Int32) else (if (cs.getD 0 0) = (118 : Int32) then (if (cs.getD 1 0) = (48 : Int32) then (0 : Int32) else (verL cs 1 (cs.length - 1))) else (0 : Int32)))
theorem dV_32 : decode prog_6_method_14_code 32 = .ok (.iload_n 1, 1) := by decide +kernel
theorem dV_33 : decode prog_6_method_14_code 33 = .ok (.aload_n 0, 1) := by decide +kernel
theorem dV_34 : decode prog_6_method_14_code 34 = .ok (.invokevirtual 66, 3) := by decide +kernel
theorem dV_37 : decode prog_6_method_14_code 37 = .ok (.if_icmp .ge 22, 3) := by decide +kernel
theorem dV_59 : decode prog_6_method_14_code 59 = .ok (.iconst 1, 1) := by decide +kernel
theorem dV_60 : decode prog_6_method_14_code 60 = .ok (.ireturn, 1) := by decide +kernel
theorem dV_40 : decode prog_6_method_14_code 40 = .ok (.aload_n 0, 1) := by decide +kernel
theorem dV_41 : decode prog_6_method_14_code 41 = .ok (.iload_n 1, 1) := by decide +kernel
theorem dV_42 : decode prog_6_method_14_code 42 = .ok (.invokevirtual 69, 3) := by decide +kernel
theorem dV_45 : decode prog_6_method_14_code 45 = .ok (.invokestatic 73, 3) := by decide +kernel
theorem pd_ba645060 : parseMethodDescriptor "(C)Z" = some ⟨[.char], some .boolean⟩ := by decide +kernel
theorem dV_48 : decode prog_6_method_14_code 48 = .ok (.ifCond .ne 5, 3) := by decide +kernel
theorem dV_51 : decode prog_6_method_14_code 51 = .ok (.iconst 0, 1) := by decide +kernel
theorem dV_52 : decode prog_6_method_14_code 52 = .ok (.ireturn, 1) := by decide +kernel
theorem dV_53 : decode prog_6_method_14_code 53 = .ok (.iinc 1 1, 3) := by decide +kernel
theorem dV_56 : decode prog_6_method_14_code 56 = .ok (.goto (-24), 3) := by decide +kernel
theorem dV_0 : decode prog_6_method_14_code 0 = .ok (.aload_n 0, 1) := by decide +kernel
theorem dV_1 : decode prog_6_method_14_code 1 = .ok (.invokevirtual 66, 3) := by decide +kernel
theorem dV_4 : decode prog_6_method_14_code 4 = .ok (.iconst 2, 1) := by decide +kernel
theorem dV_5 : decode prog_6_method_14_code 5 = .ok (.if_icmp .lt 23, 3) := by decide +kernel
theorem dV_28 : decode prog_6_method_14_code 28 = .ok (.iconst 0, 1) := by decide +kernel
theorem dV_29 : decode prog_6_method_14_code 29 = .ok (.ireturn, 1) := by decide +kernel
theorem dV_8 : decode prog_6_method_14_code 8 = .ok (.aload_n 0, 1) := by decide +kernel
theorem dV_9 : decode prog_6_method_14_code 9 = .ok (.iconst 0, 1) := by decide +kernel
theorem dV_10 : decode prog_6_method_14_code 10 = .ok (.invokevirtual 69, 3) := by decide +kernel
theorem dV_13 : decode prog_6_method_14_code 13 = .ok (.bipush 118, 2) := by decide +kernel
theorem dV_15 : decode prog_6_method_14_code 15 = .ok (.if_icmp .ne 13, 3) := by decide +kernel
theorem dV_18 : decode prog_6_method_14_code 18 = .ok (.aload_n 0, 1) := by decide +kernel
theorem dV_19 : decode prog_6_method_14_code 19 = .ok (.iconst 1, 1) := by decide +kernel
theorem dV_20 : decode prog_6_method_14_code 20 = .ok (.invokevirtual 69, 3) := by decide +kernel
theorem dV_23 : decode prog_6_method_14_code 23 = .ok (.bipush 48, 2) := by decide +kernel
theorem dV_25 : decode prog_6_method_14_code 25 = .ok (.if_icmp .ne 5, 3) := by decide +kernel
theorem dV_30 : decode prog_6_method_14_code 30 = .ok (.iconst 1, 1) := by decide +kernel
theorem dV_31 : decode prog_6_method_14_code 31 = .ok (.istore_n 1, 1) := by decide +kernel
theorem pn_V : plainFor (⟨"com/example/web_api_rules/webapirules/description/CheckedPath", "isVersion", "(Ljava/lang/String;)Z"⟩ : MethodName) = true := by first | exact plainFor_of_name (by first | (simp [plainName, overriddenIn]; done) | decide +kernel) | decide +kernel
set_option maxRecDepth 65536 in
set_option maxHeartbeats 40000000 in
theorem rmV (l : Launch) (Z : State) (a0 : Array Value) (hw : ∀ d ∈ tables_1, d.before a0 Z = true) (a : Addr) (cs : List Int32) (zc : Int32) (fm : Value) (h0 : Heap) (n0 : Nat) (Z0 : n0 ≤ h0.size) (TS : StrA Z h0 a cs) (HL : ∀ c ∈ cs, ¬ (255 : Int32) < c) (SC : Sta Z h0 "java/lang/String" "COMPACT_STRINGS" "Z" (.int zc)) (hz : ¬ zc = 0) (SF : Sta Z h0 "jdk/internal/util/Preconditions" "SIOOBE_FORMATTER" "Ljava/util/function/BiFunction;" fm) (rfm : fm.isRef = true) :
    NM l (⟨"com/example/web_api_rules/webapirules/description/CheckedPath", "isVersion", "(Ljava/lang/String;)Z"⟩ : MethodName) prog_6_method_14_code 2 (some .boolean) [] ({ frames := 4, cells := 0, slots := 0, locals := 53 } : Room) Z n0 #[(.ref a)] h0 [] (Pu (some (.int (verF cs))) h0) := by
  refine NM.walk (Ls := #[.val (.ref a), .unset]) pn_V Z0 (fun m => by first | (simp [entryFrame, mkF, argsToLocals, Value.category]; done) | rfl) ?_
  intro p e s m below meth c s₁ hby hml hret hnm W0
  have loop : ∀ (k i : Nat) (T : State) (Lo : List Loc), (i + k = cs.length) → (verF cs = verL cs i k) → NK p l e ({ frames := 4, cells := 0, slots := 0, locals := 53 } : Room) s m #[(.ref a)] below meth c Z "com/example/web_api_rules/webapirules/description/CheckedPath" n0 h0 [] T h0 Lo 0 0 → Go p e below (EndN n0 ({ frames := 4, cells := 0, slots := 0, locals := 53 } : Room) s below (Pu (some (.int (verF cs))) h0) h0 []) T (mkF m 32 #[.val (.ref a), .val (.int (Int32.ofNat i))] []) := by
    intro k
    induction k with
    | zero =>
      intro i T Lo hi hF Wk
      refine Wk.iloadN (hb hby dV_32) rfl (pc' := 33) rfl ?_
      refine Wk.aloadN (hb hby dV_33) rfl rfl (pc' := 34) rfl ?_
      refine Wk.callVP (y := (⟨"java/lang/String", "length", "()I"⟩ : MethodName)) (z := (⟨"java/lang/String", "length", "()I"⟩ : MethodName)) (hw _ (List.mem_of_getElem? (i := 47) rfl)) (hw _ (List.mem_of_getElem? (i := 30) rfl)) (hw _ (List.mem_of_getElem? (i := 32) rfl)) (hw _ (List.mem_of_getElem? (i := 32) rfl)) (hw _ (List.mem_of_getElem? (i := 31) rfl)) (by decide) (StrA.lenB (wd := 1) TS Wk.2.2.2.1 hw (hw _ (List.mem_of_getElem? (i := 9) rfl)) SC hz (by decide) (by decide)) TS.1 (hb hby dV_34) (pc' := 37) rfl hml (argsL := []) rfl (lenOf pd_368a4b19 rfl) rfl (Nat.le_of_ble_eq_true rfl) (by decide) (by decide) (fun _ _ _ q => pu_nil q) ?_
      intro T1 L1 W1
      show Go p e below _ T1 (mkF m 37 #[.val (.ref a), .val (.int (Int32.ofNat i))] [(.int (Int32.ofNat cs.length)), (.int (Int32.ofNat i))])
      refine W1.icmpYes (hb hby dV_37) (XT.ii_ge_t (by rw [ofNat_lt (by have := TS.2.2.1; omega) (by have := TS.2.2.1; omega)]; omega)) (by decide) (pc' := 59) (by decide) ?_
      refine W1.iconst (1 : Int32) (hb hby dV_59) rfl (pc' := 60) rfl ?_
      exact W1.retZ hret (hb hby dV_60) (by decide) (by decide) (by decide) ⟨congrArg (fun z => some (Value.int z)) (by rw [hF, verL]), rfl⟩
    | succ k ih =>
      intro i T Lo hi hF Wk
      refine Wk.iloadN (hb hby dV_32) rfl (pc' := 33) rfl ?_
      refine Wk.aloadN (hb hby dV_33) rfl rfl (pc' := 34) rfl ?_
      refine Wk.callVP (y := (⟨"java/lang/String", "length", "()I"⟩ : MethodName)) (z := (⟨"java/lang/String", "length", "()I"⟩ : MethodName)) (hw _ (List.mem_of_getElem? (i := 47) rfl)) (hw _ (List.mem_of_getElem? (i := 30) rfl)) (hw _ (List.mem_of_getElem? (i := 32) rfl)) (hw _ (List.mem_of_getElem? (i := 32) rfl)) (hw _ (List.mem_of_getElem? (i := 31) rfl)) (by decide) (StrA.lenB (wd := 1) TS Wk.2.2.2.1 hw (hw _ (List.mem_of_getElem? (i := 9) rfl)) SC hz (by decide) (by decide)) TS.1 (hb hby dV_34) (pc' := 37) rfl hml (argsL := []) rfl (lenOf pd_368a4b19 rfl) rfl (Nat.le_of_ble_eq_true rfl) (by decide) (by decide) (fun _ _ _ q => pu_nil q) ?_
      intro T2 L2 W2
      show Go p e below _ T2 (mkF m 37 #[.val (.ref a), .val (.int (Int32.ofNat i))] [(.int (Int32.ofNat cs.length)), (.int (Int32.ofNat i))])
      refine W2.icmpNo (hb hby dV_37) (XT.ii_ge_f ((ofNat_lt (by have := TS.2.2.1; omega) (by have := TS.2.2.1; omega)).mpr (by omega))) (pc' := 40) rfl ?_
      refine W2.aloadN (hb hby dV_40) rfl rfl (pc' := 41) rfl ?_
      refine W2.iloadN (hb hby dV_41) rfl (pc' := 42) rfl ?_
      refine W2.callVP (y := (⟨"java/lang/String", "charAt", "(I)C"⟩ : MethodName)) (z := (⟨"java/lang/String", "charAt", "(I)C"⟩ : MethodName)) (hw _ (List.mem_of_getElem? (i := 61) rfl)) (hw _ (List.mem_of_getElem? (i := 62) rfl)) (hw _ (List.mem_of_getElem? (i := 64) rfl)) (hw _ (List.mem_of_getElem? (i := 64) rfl)) (hw _ (List.mem_of_getElem? (i := 63) rfl)) (by decide) (StrA.chr (wd := 0) TS HL W2.2.2.2.1 hw (hw _ (List.mem_of_getElem? (i := 9) rfl)) SC hz SF rfm (by decide) (by decide) (i := i) (j := (Int32.ofNat i)) (by omega) rfl) TS.1 (hb hby dV_42) (pc' := 45) rfl hml (argsL := [(.int (Int32.ofNat i))]) rfl (lenOf pd_32dd484b rfl) rfl (Nat.le_of_ble_eq_true rfl) (by decide) (by decide) (fun _ _ _ q => pu_nil q) ?_
      intro T3 L3 W3
      show Go p e below _ T3 (mkF m 45 #[.val (.ref a), .val (.int (Int32.ofNat i))] [(.int (cs.getD i 0))])
      refine W3.callSP (hw _ (List.mem_of_getElem? (i := 89) rfl)) (hw _ (List.mem_of_getElem? (i := 90) rfl)) (hw _ (List.mem_of_getElem? (i := 42) rfl)) (hw _ (List.mem_of_getElem? (i := 91) rfl)) (by decide) (NM.bk (wd := 0) (rmID l Z a0 hw (cs.getD i 0) h0 n0 W3.n0h ) W3.2.2.2.1 (hw _ (List.mem_of_getElem? (i := 91) rfl)) (hw _ (List.mem_of_getElem? (i := 42) rfl)) (by decide) (by decide)) (hb hby dV_45) (pc' := 48) rfl hml (argsL := [(.int (cs.getD i 0))]) rfl (lenOf pd_ba645060 rfl) rfl (Nat.le_of_ble_eq_true rfl) (by decide) (by decide) (fun _ _ _ q => pu_of q) ?_
      intro T4 L4 W4
      show Go p e below _ T4 (mkF m 48 #[.val (.ref a), .val (.int (Int32.ofNat i))] [(.int (isdF (cs.getD i 0)))])
      by_cases hc5 : (isdF (cs.getD i 0)) = (0 : Int32)
      · refine W4.ifNo (hb hby dV_48) (XT.i0_ne_f hc5) (pc' := 51) rfl ?_
        refine W4.iconst (0 : Int32) (hb hby dV_51) rfl (pc' := 52) rfl ?_
        exact W4.retZ hret (hb hby dV_52) (by decide) (by decide) (by decide) ⟨congrArg (fun z => some (Value.int z)) (by rw [hF, verL, if_pos hc5]), rfl⟩
      · refine W4.ifYes (hb hby dV_48) (XT.i0_ne_t hc5) (by decide) (pc' := 53) (by decide) ?_
        refine W4.iinc (Ls' := #[.val (.ref a), .val (.int ((Int32.ofNat i) + (1 : Int32)))]) (1 : Int32) (hb hby dV_53) rfl rfl rfl (pc' := 56) rfl ?_
        refine W4.goto (hb hby dV_56) (by decide) (pc' := 32) (by decide) ?_
        have q := ih (i + 1) _ _ (by omega) (by rw [hF, verL, if_neg hc5]) W4
        rw [← ofNat_succ] at q
        exact q
  refine W0.aloadN (hb hby dV_0) rfl rfl (pc' := 1) rfl ?_
  refine W0.callVP (y := (⟨"java/lang/String", "length", "()I"⟩ : MethodName)) (z := (⟨"java/lang/String", "length", "()I"⟩ : MethodName)) (hw _ (List.mem_of_getElem? (i := 47) rfl)) (hw _ (List.mem_of_getElem? (i := 30) rfl)) (hw _ (List.mem_of_getElem? (i := 32) rfl)) (hw _ (List.mem_of_getElem? (i := 32) rfl)) (hw _ (List.mem_of_getElem? (i := 31) rfl)) (by decide) (StrA.lenB (wd := 0) TS W0.2.2.2.1 hw (hw _ (List.mem_of_getElem? (i := 9) rfl)) SC hz (by decide) (by decide)) TS.1 (hb hby dV_1) (pc' := 4) rfl hml (argsL := []) rfl (lenOf pd_368a4b19 rfl) rfl (Nat.le_of_ble_eq_true rfl) (by decide) (by decide) (fun _ _ _ q => pu_nil q) ?_
  intro T6 L6 W6
  show Go p e below _ T6 (mkF m 4 #[.val (.ref a), .unset] [(.int (Int32.ofNat cs.length))])
  refine W6.iconst (2 : Int32) (hb hby dV_4) rfl (pc' := 5) rfl ?_
  by_cases hc7 : (Int32.ofNat cs.length) < (2 : Int32)
  · refine W6.icmpYes (hb hby dV_5) (XT.ii_lt_t hc7) (by decide) (pc' := 28) (by decide) ?_
    refine W6.iconst (0 : Int32) (hb hby dV_28) rfl (pc' := 29) rfl ?_
    exact W6.retZ hret (hb hby dV_29) (by decide) (by decide) (by decide) ⟨congrArg (fun z => some (Value.int z)) (by rw [verF, if_pos hc7]), rfl⟩
  · refine W6.icmpNo (hb hby dV_5) (XT.ii_lt_f hc7) (pc' := 8) rfl ?_
    refine W6.aloadN (hb hby dV_8) rfl rfl (pc' := 9) rfl ?_
    refine W6.iconst (0 : Int32) (hb hby dV_9) rfl (pc' := 10) rfl ?_
    refine W6.callVP (y := (⟨"java/lang/String", "charAt", "(I)C"⟩ : MethodName)) (z := (⟨"java/lang/String", "charAt", "(I)C"⟩ : MethodName)) (hw _ (List.mem_of_getElem? (i := 61) rfl)) (hw _ (List.mem_of_getElem? (i := 62) rfl)) (hw _ (List.mem_of_getElem? (i := 64) rfl)) (hw _ (List.mem_of_getElem? (i := 64) rfl)) (hw _ (List.mem_of_getElem? (i := 63) rfl)) (by decide) (StrA.chr (wd := 0) TS HL W6.2.2.2.1 hw (hw _ (List.mem_of_getElem? (i := 9) rfl)) SC hz SF rfm (by decide) (by decide) (i := 0) (j := (0 : Int32)) (by have := len2 TS.2.2.1 hc7; omega) rfl) TS.1 (hb hby dV_10) (pc' := 13) rfl hml (argsL := [(.int (0 : Int32))]) rfl (lenOf pd_32dd484b rfl) rfl (Nat.le_of_ble_eq_true rfl) (by decide) (by decide) (fun _ _ _ q => pu_nil q) ?_
    intro T8 L8 W8
    show Go p e below _ T8 (mkF m 13 #[.val (.ref a), .unset] [(.int (cs.getD 0 0))])
    refine W8.bipush (118 : Int32) (hb hby dV_13) rfl (pc' := 15) rfl ?_
    by_cases hc9 : (cs.getD 0 0) = (118 : Int32)
    · refine W8.icmpNo (hb hby dV_15) (XT.ii_ne_f hc9) (pc' := 18) rfl ?_
      refine W8.aloadN (hb hby dV_18) rfl rfl (pc' := 19) rfl ?_
      refine W8.iconst (1 : Int32) (hb hby dV_19) rfl (pc' := 20) rfl ?_
      refine W8.callVP (y := (⟨"java/lang/String", "charAt", "(I)C"⟩ : MethodName)) (z := (⟨"java/lang/String", "charAt", "(I)C"⟩ : MethodName)) (hw _ (List.mem_of_getElem? (i := 61) rfl)) (hw _ (List.mem_of_getElem? (i := 62) rfl)) (hw _ (List.mem_of_getElem? (i := 64) rfl)) (hw _ (List.mem_of_getElem? (i := 64) rfl)) (hw _ (List.mem_of_getElem? (i := 63) rfl)) (by decide) (StrA.chr (wd := 0) TS HL W8.2.2.2.1 hw (hw _ (List.mem_of_getElem? (i := 9) rfl)) SC hz SF rfm (by decide) (by decide) (i := 1) (j := (1 : Int32)) (by have := len2 TS.2.2.1 hc7; omega) rfl) TS.1 (hb hby dV_20) (pc' := 23) rfl hml (argsL := [(.int (1 : Int32))]) rfl (lenOf pd_32dd484b rfl) rfl (Nat.le_of_ble_eq_true rfl) (by decide) (by decide) (fun _ _ _ q => pu_nil q) ?_
      intro T10 L10 W10
      show Go p e below _ T10 (mkF m 23 #[.val (.ref a), .unset] [(.int (cs.getD 1 0))])
      refine W10.bipush (48 : Int32) (hb hby dV_23) rfl (pc' := 25) rfl ?_
      by_cases hc11 : (cs.getD 1 0) = (48 : Int32)
      · refine W10.icmpNo (hb hby dV_25) (XT.ii_ne_f hc11) (pc' := 28) rfl ?_
        refine W10.iconst (0 : Int32) (hb hby dV_28) rfl (pc' := 29) rfl ?_
        exact W10.retZ hret (hb hby dV_29) (by decide) (by decide) (by decide) ⟨congrArg (fun z => some (Value.int z)) (by rw [verF, if_neg hc7, if_pos hc9, if_pos hc11]), rfl⟩
      · refine W10.icmpYes (hb hby dV_25) (XT.ii_ne_t hc11) (by decide) (pc' := 30) (by decide) ?_
        refine W10.iconst (1 : Int32) (hb hby dV_30) rfl (pc' := 31) rfl ?_
        refine W10.istoreN (Ls' := #[.val (.ref a), .val (.int (1 : Int32))]) (hb hby dV_31) rfl (pc' := 32) rfl ?_
        exact loop (cs.length - 1) 1 _ _ (by have := len2 TS.2.2.1 hc7; omega) (by rw [verF, if_neg hc7, if_pos hc9, if_neg hc11]) W10
    · refine W8.icmpYes (hb hby dV_15) (XT.ii_ne_t hc9) (by decide) (pc' := 28) (by decide) ?_
      refine W8.iconst (0 : Int32) (hb hby dV_28) rfl (pc' := 29) rfl ?_
      exact W8.retZ hret (hb hby dV_29) (by decide) (by decide) (by decide) ⟨congrArg (fun z => some (Value.int z)) (by rw [verF, if_neg hc7, if_neg hc9]), rfl⟩
def rsF (cs : List Int32) : Int32 := (if (parF cs) = (0 : Int32) then (if (verF cs) = (0 : Int32) then (1 : Int32) else (0 : Int32)) else (0 : Int32))
theorem dR_0 : decode prog_6_method_4_code 0 = .ok (.aload_n 0, 1) := by decide +kernel
theorem dR_1 : decode prog_6_method_4_code 1 = .ok (.invokestatic 77, 3) := by decide +kernel
theorem pd_896d4e2b : parseMethodDescriptor "(Ljava/lang/String;)Z" = some ⟨[(.object "java/lang/String")], some .boolean⟩ := by decide +kernel
theorem dR_4 : decode prog_6_method_4_code 4 = .ok (.ifCond .ne 14, 3) := by decide +kernel
theorem dR_7 : decode prog_6_method_4_code 7 = .ok (.aload_n 0, 1) := by decide +kernel
theorem dR_8 : decode prog_6_method_4_code 8 = .ok (.invokestatic 81, 3) := by decide +kernel
theorem dR_11 : decode prog_6_method_4_code 11 = .ok (.ifCond .ne 7, 3) := by decide +kernel
theorem dR_14 : decode prog_6_method_4_code 14 = .ok (.iconst 1, 1) := by decide +kernel
theorem dR_15 : decode prog_6_method_4_code 15 = .ok (.goto 4, 3) := by decide +kernel
theorem dR_19 : decode prog_6_method_4_code 19 = .ok (.ireturn, 1) := by decide +kernel
theorem dR_18 : decode prog_6_method_4_code 18 = .ok (.iconst 0, 1) := by decide +kernel
theorem pn_R : plainFor (⟨"com/example/web_api_rules/webapirules/description/CheckedPath", "isResourceSegment", "(Ljava/lang/String;)Z"⟩ : MethodName) = true := by first | exact plainFor_of_name (by first | (simp [plainName, overriddenIn]; done) | decide +kernel) | decide +kernel
set_option maxRecDepth 65536 in
set_option maxHeartbeats 40000000 in
theorem rmR (l : Launch) (Z : State) (a0 : Array Value) (hw : ∀ d ∈ tables_1, d.before a0 Z = true) (a : Addr) (cs : List Int32) (zc : Int32) (fm : Value) (h0 : Heap) (n0 : Nat) (Z0 : n0 ≤ h0.size) (TS : StrA Z h0 a cs) (HL : ∀ c ∈ cs, ¬ (255 : Int32) < c) (SC : Sta Z h0 "java/lang/String" "COMPACT_STRINGS" "Z" (.int zc)) (hz : ¬ zc = 0) (SF : Sta Z h0 "jdk/internal/util/Preconditions" "SIOOBE_FORMATTER" "Ljava/util/function/BiFunction;" fm) (rfm : fm.isRef = true) :
    NM l (⟨"com/example/web_api_rules/webapirules/description/CheckedPath", "isResourceSegment", "(Ljava/lang/String;)Z"⟩ : MethodName) prog_6_method_4_code 1 (some .boolean) [] ({ frames := 5, cells := 0, slots := 0, locals := 70 } : Room) Z n0 #[(.ref a)] h0 [] (Pu (some (.int (rsF cs))) h0) := by
  refine NM.walk (Ls := #[.val (.ref a)]) pn_R Z0 (fun m => by first | (simp [entryFrame, mkF, argsToLocals, Value.category]; done) | rfl) ?_
  intro p e s m below meth c s₁ hby hml hret hnm W0
  refine W0.aloadN (hb hby dR_0) rfl rfl (pc' := 1) rfl ?_
  refine W0.callSP (hw _ (List.mem_of_getElem? (i := 44) rfl)) (hw _ (List.mem_of_getElem? (i := 45) rfl)) (hw _ (List.mem_of_getElem? (i := 42) rfl)) (hw _ (List.mem_of_getElem? (i := 46) rfl)) (by decide) (NM.bk (wd := 0) (rmP l Z a0 hw a cs zc fm h0 n0 W0.n0h TS HL SC hz SF rfm) W0.2.2.2.1 (hw _ (List.mem_of_getElem? (i := 46) rfl)) (hw _ (List.mem_of_getElem? (i := 42) rfl)) (by decide) (by decide)) (hb hby dR_1) (pc' := 4) rfl hml (argsL := [(.ref a)]) rfl (lenOf pd_896d4e2b rfl) rfl (Nat.le_of_ble_eq_true rfl) (by decide) (by decide) (fun _ _ _ q => pu_of q) ?_
  intro T1 L1 W1
  show Go p e below _ T1 (mkF m 4 #[.val (.ref a)] [(.int (parF cs))])
  by_cases hc2 : (parF cs) = (0 : Int32)
  · refine W1.ifNo (hb hby dR_4) (XT.i0_ne_f hc2) (pc' := 7) rfl ?_
    refine W1.aloadN (hb hby dR_7) rfl rfl (pc' := 8) rfl ?_
    refine W1.callSP (hw _ (List.mem_of_getElem? (i := 48) rfl)) (hw _ (List.mem_of_getElem? (i := 49) rfl)) (hw _ (List.mem_of_getElem? (i := 42) rfl)) (hw _ (List.mem_of_getElem? (i := 50) rfl)) (by decide) (NM.bk (wd := 0) (rmV l Z a0 hw a cs zc fm h0 n0 W1.n0h TS HL SC hz SF rfm) W1.2.2.2.1 (hw _ (List.mem_of_getElem? (i := 50) rfl)) (hw _ (List.mem_of_getElem? (i := 42) rfl)) (by decide) (by decide)) (hb hby dR_8) (pc' := 11) rfl hml (argsL := [(.ref a)]) rfl (lenOf pd_896d4e2b rfl) rfl (Nat.le_of_ble_eq_true rfl) (by decide) (by decide) (fun _ _ _ q => pu_of q) ?_
    intro T3 L3 W3
    show Go p e below _ T3 (mkF m 11 #[.val (.ref a)] [(.int (verF cs))])
    by_cases hc4 : (verF cs) = (0 : Int32)
    · refine W3.ifNo (hb hby dR_11) (XT.i0_ne_f hc4) (pc' := 14) rfl ?_
      refine W3.iconst (1 : Int32) (hb hby dR_14) rfl (pc' := 15) rfl ?_
      refine W3.goto (hb hby dR_15) (by decide) (pc' := 19) (by decide) ?_
      exact W3.retZ hret (hb hby dR_19) (by decide) (by decide) (by decide) ⟨congrArg (fun z => some (Value.int z)) (by rw [rsF, if_pos hc2, if_pos hc4]), rfl⟩
    · refine W3.ifYes (hb hby dR_11) (XT.i0_ne_t hc4) (by decide) (pc' := 18) (by decide) ?_
      refine W3.iconst (0 : Int32) (hb hby dR_18) rfl (pc' := 19) rfl ?_
      exact W3.retZ hret (hb hby dR_19) (by decide) (by decide) (by decide) ⟨congrArg (fun z => some (Value.int z)) (by rw [rsF, if_pos hc2, if_neg hc4]), rfl⟩
  · refine W1.ifYes (hb hby dR_4) (XT.i0_ne_t hc2) (by decide) (pc' := 18) (by decide) ?_
    refine W1.iconst (0 : Int32) (hb hby dR_18) rfl (pc' := 19) rfl ?_
    exact W1.retZ hret (hb hby dR_19) (by decide) (by decide) (by decide) ⟨congrArg (fun z => some (Value.int z)) (by rw [rsF, if_neg hc2]), rfl⟩
theorem make_lat {n x0 x1 x2 x3 x4 : Int32} (h0 : ¬ (255 : Int32) < x0) (h1 : ¬ (255 : Int32) < x1) (h2 : ¬ (255 : Int32) < x2) (h3 : ¬ (255 : Int32) < x3) (h4 : ¬ (255 : Int32) < x4) : ∀ c ∈ makeF n x0 x1 x2 x3 x4, ¬ (255 : Int32) < c := by
  rw [makeF]
  repeat' split
  all_goals first | exact mem0 | exact memS h0 mem0 | exact memS h0 (memS h1 mem0) | exact memS h0 (memS h1 (memS h2 mem0)) | exact memS h0 (memS h1 (memS h2 (memS h3 mem0))) | exact memS h0 (memS h1 (memS h2 (memS h3 (memS h4 mem0))))
def paramF (n x0 x1 x2 x3 x4 : Int32) : Int32 := (if n < (3 : Int32) then (0 : Int32) else (if x0 = (123 : Int32) then (if (lastF n x2 x3 x4) = (125 : Int32) then (if (nbF x1) = (0 : Int32) then (0 : Int32) else (if n < (4 : Int32) then (if n < (5 : Int32) then (1 : Int32) else (if (nbF x3) = (0 : Int32) then (0 : Int32) else (1 : Int32))) else (if (nbF x2) = (0 : Int32) then (0 : Int32) else (if n < (5 : Int32) then (1 : Int32) else (if (nbF x3) = (0 : Int32) then (0 : Int32) else (1 : Int32)))))) else (0 : Int32)) else (0 : Int32)))
def versF (n x0 x1 x2 x3 x4 : Int32) : Int32 := (if n < (2 : Int32) then (0 : Int32) else (if x0 = (118 : Int32) then (if x1 = (48 : Int32) then (0 : Int32) else (if (digF x1) = (0 : Int32) then (0 : Int32) else (if n < (3 : Int32) then (if n < (4 : Int32) then (if n < (5 : Int32) then (1 : Int32) else (if (digF x4) = (0 : Int32) then (0 : Int32) else (1 : Int32))) else (if (digF x3) = (0 : Int32) then (0 : Int32) else (if n < (5 : Int32) then (1 : Int32) else (if (digF x4) = (0 : Int32) then (0 : Int32) else (1 : Int32))))) else (if (digF x2) = (0 : Int32) then (0 : Int32) else (if n < (4 : Int32) then (if n < (5 : Int32) then (1 : Int32) else (if (digF x4) = (0 : Int32) then (0 : Int32) else (1 : Int32))) else (if (digF x3) = (0 : Int32) then (0 : Int32) else (if n < (5 : Int32) then (1 : Int32) else (if (digF x4) = (0 : Int32) then (0 : Int32) else (1 : Int32))))))))) else (0 : Int32)))
def exF (b1 b2 : Int32) : Int32 := (if b1 = (0 : Int32) then (if b2 = (0 : Int32) then (1 : Int32) else (0 : Int32)) else (0 : Int32))
theorem make_len {n x0 x1 x2 x3 x4 : Int32} (hn : ∃ k : Nat, k < 6 ∧ n = Int32.ofNat k) : Int32.ofNat (makeF n x0 x1 x2 x3 x4).length = n := by
  obtain ⟨k, hk, rfl⟩ := hn
  obtain rfl | rfl | rfl | rfl | rfl | rfl := (by omega : k = 0 ∨ k = 1 ∨ k = 2 ∨ k = 3 ∨ k = 4 ∨ k = 5) <;> rfl
theorem mk0 {x0 x1 x2 x3 x4 : Int32} : makeF 0 x0 x1 x2 x3 x4 = [] := by simp +decide [makeF]
theorem mk1 {x0 x1 x2 x3 x4 : Int32} : makeF 1 x0 x1 x2 x3 x4 = [x0] := by simp +decide [makeF]
theorem mk2 {x0 x1 x2 x3 x4 : Int32} : makeF 2 x0 x1 x2 x3 x4 = [x0, x1] := by simp +decide [makeF]
theorem mk3 {x0 x1 x2 x3 x4 : Int32} : makeF 3 x0 x1 x2 x3 x4 = [x0, x1, x2] := by simp +decide [makeF]
theorem mk4 {x0 x1 x2 x3 x4 : Int32} : makeF 4 x0 x1 x2 x3 x4 = [x0, x1, x2, x3] := by simp +decide [makeF]
theorem mk5 {x0 x1 x2 x3 x4 : Int32} : makeF 5 x0 x1 x2 x3 x4 = [x0, x1, x2, x3, x4] := by simp +decide [makeF]
theorem nb0 (x : Int32) : (nbF x = 0) ↔ (x = 123 ∨ x = 125) := by
  rw [nbF]; by_cases h1 : x = 123 <;> by_cases h2 : x = 125 <;> simp [h1, h2]
theorem six {n : Int32} (hn : ∃ k : Nat, k < 6 ∧ n = Int32.ofNat k) : n = 0 ∨ n = 1 ∨ n = 2 ∨ n = 3 ∨ n = 4 ∨ n = 5 := by
  obtain ⟨k, hk, rfl⟩ := hn
  obtain rfl | rfl | rfl | rfl | rfl | rfl := (by omega : k = 0 ∨ k = 1 ∨ k = 2 ∨ k = 3 ∨ k = 4 ∨ k = 5) <;> decide
theorem par_eq {n x0 x1 x2 x3 x4 : Int32} (hn : ∃ k : Nat, k < 6 ∧ n = Int32.ofNat k) : parF (makeF n x0 x1 x2 x3 x4) = paramF n x0 x1 x2 x3 x4 := by
  rcases six hn with rfl | rfl | rfl | rfl | rfl | rfl
  · rw [mk0]; simp +decide [parF, paramF]
  · rw [mk1]; simp +decide [parF, paramF]
  · rw [mk2]; simp +decide [parF, paramF]
  · rw [mk3]; simp +decide [parF, paramF, parL, lastF, nb0]
    by_cases h1 : x1 = 123 <;> by_cases h2 : x1 = 125 <;> simp [h1, h2]
  · rw [mk4]; simp +decide [parF, paramF, parL, lastF, nb0]
    by_cases h1 : x1 = 123 <;> by_cases h2 : x1 = 125 <;> by_cases h3 : x2 = 123 <;> by_cases h4 : x2 = 125 <;> simp [h1, h2, h3, h4]
  · rw [mk5]; simp +decide [parF, paramF, parL, lastF, nb0]
    by_cases h1 : x1 = 123 <;> by_cases h2 : x1 = 125 <;> by_cases h3 : x2 = 123 <;> by_cases h4 : x2 = 125 <;> by_cases h5 : x3 = 123 <;> by_cases h6 : x3 = 125 <;> simp [h1, h2, h3, h4, h5, h6]
theorem isd_eq (x : Int32) : isdF x = digF x := rfl
theorem ver_eq {n x0 x1 x2 x3 x4 : Int32} (hn : ∃ k : Nat, k < 6 ∧ n = Int32.ofNat k) : verF (makeF n x0 x1 x2 x3 x4) = versF n x0 x1 x2 x3 x4 := by
  rcases six hn with rfl | rfl | rfl | rfl | rfl | rfl
  · rw [mk0]; simp +decide [verF, versF]
  · rw [mk1]; simp +decide [verF, versF]
  · rw [mk2]; simp +decide [verF, versF, verL, isd_eq]
  · rw [mk3]; simp +decide [verF, versF, verL, isd_eq]
  · rw [mk4]; simp +decide [verF, versF, verL, isd_eq]
  · rw [mk5]; simp +decide [verF, versF, verL, isd_eq]
theorem law_eq {n x0 x1 x2 x3 x4 : Int32} (hn : ∃ k : Nat, k < 6 ∧ n = Int32.ofNat k) : rsF (makeF n x0 x1 x2 x3 x4) = exF (paramF n x0 x1 x2 x3 x4) (versF n x0 x1 x2 x3 x4) := by
  rw [← par_eq hn, ← ver_eq hn]; rfl
--CUT law
theorem pd_e16555fd : parseMethodDescriptor "(ICCCCC)Ljava/lang/String;" = some ⟨[.int, .char, .char, .char, .char, .char], some (.object "java/lang/String")⟩ := by decide +kernel
theorem pd_10e6af06 : parseMethodDescriptor "(ICCC)C" = some ⟨[.int, .char, .char, .char], some .char⟩ := by decide +kernel
theorem pn_Law : plainFor (⟨"com/example/web_api_rules/webapirules/description/CheckedPathIsResourceSegmentPinLaw", "law", "(IIIIII)Z"⟩ : MethodName) = true := by first | exact plainFor_of_name (by first | (simp [plainName, overriddenIn]; done) | decide +kernel) | decide +kernel
set_option maxRecDepth 65536 in
set_option maxHeartbeats 40000000 in
theorem rmLaw (l : Launch) (Z : State) (a0 : Array Value) (hw : ∀ d ∈ tables_1, d.before a0 Z = true) (hEL : EW Z a0 consts_1) (p1 p2 p3 p4 p5 p6 zc : Int32) (fm : Value) (h0 : Heap) (n0 : Nat) (Z0 : n0 ≤ h0.size)  (SC : Sta Z h0 "java/lang/String" "COMPACT_STRINGS" "Z" (.int zc)) (hz : ¬ zc = 0) (SF : Sta Z h0 "jdk/internal/util/Preconditions" "SIOOBE_FORMATTER" "Ljava/util/function/BiFunction;" fm) (rfm : fm.isRef = true) :
    WM l x code maxLocals ret tables_1 room_1 Z consts_1 n0 #[(.int p1), (.int p2), (.int p3), (.int p4), (.int p5), (.int p6)] h0 [] (fun v h => v = some (.int 1) ∧ True) := by
  refine WM.walk (Ls := #[.val (.int p1), .val (.int p2), .val (.int p3), .val (.int p4), .val (.int p5), .val (.int p6), .unset, .unset, .unset, .unset, .unset, .unset, .unset, .unset, .unset, .unset]) pn_Law Z0 (fun m => by first | (simp [entryFrame, mkF, argsToLocals, Value.category, maxLocals]; done) | rfl) ?_
  intro p e s m below meth c s₁ hby hml hret hnm W0
  refine W0.1.iloadN (hb hby at_0) rfl (pc' := 1) rfl ?_
  refine W0.1.bipush (7 : Int32) (hb hby at_1) rfl (pc' := 3) rfl ?_
  refine W0.1.iand (hb hby at_3) (pc' := 4) rfl ?_
  refine W0.1.bipush (6 : Int32) (hb hby at_4) rfl (pc' := 6) rfl ?_
  refine W0.1.irem (hb hby at_6) (by decide) (pc' := 7) rfl ?_
  refine lets (P := fun z => Go _ _ _ _ _ (mkF m 7 #[.val (.int p1), .val (.int p2), .val (.int p3), .val (.int p4), .val (.int p5), .val (.int p6), .unset, .unset, .unset, .unset, .unset, .unset, .unset, .unset, .unset, .unset] [(.int z)])) ((p1 &&& (7 : Int32)) % (6 : Int32)) ?_
  intro n hn
  refine W0.1.istore (Ls' := #[.val (.int p1), .val (.int p2), .val (.int p3), .val (.int p4), .val (.int p5), .val (.int p6), .val (.int n), .unset, .unset, .unset, .unset, .unset, .unset, .unset, .unset, .unset]) (hb hby at_7) rfl (pc' := 9) rfl ?_
  refine W0.1.iloadN (hb hby at_9) rfl (pc' := 10) rfl ?_
  refine W0.1.callS (hw _ (List.mem_of_getElem? (i := 0) rfl)) (hw _ (List.mem_of_getElem? (i := 1) rfl)) (hw _ (List.mem_of_getElem? (i := 2) rfl)) (hw _ (List.mem_of_getElem? (i := 3) rfl)) (by decide) (NM.bk (wd := 0) (rmC l Z a0 hw p2 h0 n0 W0.1.n0h ) W0.1.2.2.2.1 (hw _ (List.mem_of_getElem? (i := 3) rfl)) (hw _ (List.mem_of_getElem? (i := 2) rfl)) (by decide) (by decide)) (hb hby at_10) (pc' := 13) rfl hml (argsL := [(.int p2)]) rfl (lenOf pd_32dd484b rfl) rfl (Nat.le_of_ble_eq_true rfl) (by decide) (by decide) (ws' := []) (fun _ _ _ q => ⟨q.2.2, q.2.1⟩) all0 ?_
  intro v1 T1 h1 L1' L1 N1 Q1 K1
  have W1 := W0.up N1 K1 sf0
  have z1 := K1.1
  obtain ⟨rfl, -, -⟩ := Q1
  show Go p e below _ T1 (mkF m 13 #[.val (.int p1), .val (.int p2), .val (.int p3), .val (.int p4), .val (.int p5), .val (.int p6), .val (.int n), .unset, .unset, .unset, .unset, .unset, .unset, .unset, .unset, .unset] [(.int (chF p2))])
  refine lets (P := fun z => Go _ _ _ _ _ (mkF m 13 #[.val (.int p1), .val (.int p2), .val (.int p3), .val (.int p4), .val (.int p5), .val (.int p6), .val (.int n), .unset, .unset, .unset, .unset, .unset, .unset, .unset, .unset, .unset] [(.int z)])) (chF p2) ?_
  intro x0 hx0
  refine W1.1.istore (Ls' := #[.val (.int p1), .val (.int p2), .val (.int p3), .val (.int p4), .val (.int p5), .val (.int p6), .val (.int n), .val (.int x0), .unset, .unset, .unset, .unset, .unset, .unset, .unset, .unset]) (hb hby at_13) rfl (pc' := 15) rfl ?_
  refine W1.1.iloadN (hb hby at_15) rfl (pc' := 16) rfl ?_
  refine W1.1.callS (hw _ (List.mem_of_getElem? (i := 0) rfl)) (hw _ (List.mem_of_getElem? (i := 1) rfl)) (hw _ (List.mem_of_getElem? (i := 2) rfl)) (hw _ (List.mem_of_getElem? (i := 3) rfl)) (by decide) (NM.bk (wd := 0) (rmC l Z a0 hw p3 h1 n0 W1.1.n0h ) W1.1.2.2.2.1 (hw _ (List.mem_of_getElem? (i := 3) rfl)) (hw _ (List.mem_of_getElem? (i := 2) rfl)) (by decide) (by decide)) (hb hby at_16) (pc' := 19) rfl hml (argsL := [(.int p3)]) rfl (lenOf pd_32dd484b rfl) rfl (Nat.le_of_ble_eq_true rfl) (by decide) (by decide) (ws' := []) (fun _ _ _ q => ⟨q.2.2, q.2.1⟩) all0 ?_
  intro v2 T2 h2 L2' L2 N2 Q2 K2
  have W2 := W1.up N2 K2 sf0
  have z2 := K2.1
  obtain ⟨rfl, -, -⟩ := Q2
  show Go p e below _ T2 (mkF m 19 #[.val (.int p1), .val (.int p2), .val (.int p3), .val (.int p4), .val (.int p5), .val (.int p6), .val (.int n), .val (.int x0), .unset, .unset, .unset, .unset, .unset, .unset, .unset, .unset] [(.int (chF p3))])
  refine lets (P := fun z => Go _ _ _ _ _ (mkF m 19 #[.val (.int p1), .val (.int p2), .val (.int p3), .val (.int p4), .val (.int p5), .val (.int p6), .val (.int n), .val (.int x0), .unset, .unset, .unset, .unset, .unset, .unset, .unset, .unset] [(.int z)])) (chF p3) ?_
  intro x1 hx1
  refine W2.1.istore (Ls' := #[.val (.int p1), .val (.int p2), .val (.int p3), .val (.int p4), .val (.int p5), .val (.int p6), .val (.int n), .val (.int x0), .val (.int x1), .unset, .unset, .unset, .unset, .unset, .unset, .unset]) (hb hby at_19) rfl (pc' := 21) rfl ?_
  refine W2.1.iloadN (hb hby at_21) rfl (pc' := 22) rfl ?_
  refine W2.1.callS (hw _ (List.mem_of_getElem? (i := 0) rfl)) (hw _ (List.mem_of_getElem? (i := 1) rfl)) (hw _ (List.mem_of_getElem? (i := 2) rfl)) (hw _ (List.mem_of_getElem? (i := 3) rfl)) (by decide) (NM.bk (wd := 0) (rmC l Z a0 hw p4 h2 n0 W2.1.n0h ) W2.1.2.2.2.1 (hw _ (List.mem_of_getElem? (i := 3) rfl)) (hw _ (List.mem_of_getElem? (i := 2) rfl)) (by decide) (by decide)) (hb hby at_22) (pc' := 25) rfl hml (argsL := [(.int p4)]) rfl (lenOf pd_32dd484b rfl) rfl (Nat.le_of_ble_eq_true rfl) (by decide) (by decide) (ws' := []) (fun _ _ _ q => ⟨q.2.2, q.2.1⟩) all0 ?_
  intro v3 T3 h3 L3' L3 N3 Q3 K3
  have W3 := W2.up N3 K3 sf0
  have z3 := K3.1
  obtain ⟨rfl, -, -⟩ := Q3
  show Go p e below _ T3 (mkF m 25 #[.val (.int p1), .val (.int p2), .val (.int p3), .val (.int p4), .val (.int p5), .val (.int p6), .val (.int n), .val (.int x0), .val (.int x1), .unset, .unset, .unset, .unset, .unset, .unset, .unset] [(.int (chF p4))])
  refine lets (P := fun z => Go _ _ _ _ _ (mkF m 25 #[.val (.int p1), .val (.int p2), .val (.int p3), .val (.int p4), .val (.int p5), .val (.int p6), .val (.int n), .val (.int x0), .val (.int x1), .unset, .unset, .unset, .unset, .unset, .unset, .unset] [(.int z)])) (chF p4) ?_
  intro x2 hx2
  refine W3.1.istore (Ls' := #[.val (.int p1), .val (.int p2), .val (.int p3), .val (.int p4), .val (.int p5), .val (.int p6), .val (.int n), .val (.int x0), .val (.int x1), .val (.int x2), .unset, .unset, .unset, .unset, .unset, .unset]) (hb hby at_25) rfl (pc' := 27) rfl ?_
  refine W3.1.iload (hb hby at_27) rfl (pc' := 29) rfl ?_
  refine W3.1.callS (hw _ (List.mem_of_getElem? (i := 0) rfl)) (hw _ (List.mem_of_getElem? (i := 1) rfl)) (hw _ (List.mem_of_getElem? (i := 2) rfl)) (hw _ (List.mem_of_getElem? (i := 3) rfl)) (by decide) (NM.bk (wd := 0) (rmC l Z a0 hw p5 h3 n0 W3.1.n0h ) W3.1.2.2.2.1 (hw _ (List.mem_of_getElem? (i := 3) rfl)) (hw _ (List.mem_of_getElem? (i := 2) rfl)) (by decide) (by decide)) (hb hby at_29) (pc' := 32) rfl hml (argsL := [(.int p5)]) rfl (lenOf pd_32dd484b rfl) rfl (Nat.le_of_ble_eq_true rfl) (by decide) (by decide) (ws' := []) (fun _ _ _ q => ⟨q.2.2, q.2.1⟩) all0 ?_
  intro v4 T4 h4 L4' L4 N4 Q4 K4
  have W4 := W3.up N4 K4 sf0
  have z4 := K4.1
  obtain ⟨rfl, -, -⟩ := Q4
  show Go p e below _ T4 (mkF m 32 #[.val (.int p1), .val (.int p2), .val (.int p3), .val (.int p4), .val (.int p5), .val (.int p6), .val (.int n), .val (.int x0), .val (.int x1), .val (.int x2), .unset, .unset, .unset, .unset, .unset, .unset] [(.int (chF p5))])
  refine lets (P := fun z => Go _ _ _ _ _ (mkF m 32 #[.val (.int p1), .val (.int p2), .val (.int p3), .val (.int p4), .val (.int p5), .val (.int p6), .val (.int n), .val (.int x0), .val (.int x1), .val (.int x2), .unset, .unset, .unset, .unset, .unset, .unset] [(.int z)])) (chF p5) ?_
  intro x3 hx3
  refine W4.1.istore (Ls' := #[.val (.int p1), .val (.int p2), .val (.int p3), .val (.int p4), .val (.int p5), .val (.int p6), .val (.int n), .val (.int x0), .val (.int x1), .val (.int x2), .val (.int x3), .unset, .unset, .unset, .unset, .unset]) (hb hby at_32) rfl (pc' := 34) rfl ?_
  refine W4.1.iload (hb hby at_34) rfl (pc' := 36) rfl ?_
  refine W4.1.callS (hw _ (List.mem_of_getElem? (i := 0) rfl)) (hw _ (List.mem_of_getElem? (i := 1) rfl)) (hw _ (List.mem_of_getElem? (i := 2) rfl)) (hw _ (List.mem_of_getElem? (i := 3) rfl)) (by decide) (NM.bk (wd := 0) (rmC l Z a0 hw p6 h4 n0 W4.1.n0h ) W4.1.2.2.2.1 (hw _ (List.mem_of_getElem? (i := 3) rfl)) (hw _ (List.mem_of_getElem? (i := 2) rfl)) (by decide) (by decide)) (hb hby at_36) (pc' := 39) rfl hml (argsL := [(.int p6)]) rfl (lenOf pd_32dd484b rfl) rfl (Nat.le_of_ble_eq_true rfl) (by decide) (by decide) (ws' := []) (fun _ _ _ q => ⟨q.2.2, q.2.1⟩) all0 ?_
  intro v5 T5 h5 L5' L5 N5 Q5 K5
  have W5 := W4.up N5 K5 sf0
  have z5 := K5.1
  obtain ⟨rfl, -, -⟩ := Q5
  show Go p e below _ T5 (mkF m 39 #[.val (.int p1), .val (.int p2), .val (.int p3), .val (.int p4), .val (.int p5), .val (.int p6), .val (.int n), .val (.int x0), .val (.int x1), .val (.int x2), .val (.int x3), .unset, .unset, .unset, .unset, .unset] [(.int (chF p6))])
  refine lets (P := fun z => Go _ _ _ _ _ (mkF m 39 #[.val (.int p1), .val (.int p2), .val (.int p3), .val (.int p4), .val (.int p5), .val (.int p6), .val (.int n), .val (.int x0), .val (.int x1), .val (.int x2), .val (.int x3), .unset, .unset, .unset, .unset, .unset] [(.int z)])) (chF p6) ?_
  intro x4 hx4
  refine W5.1.istore (Ls' := #[.val (.int p1), .val (.int p2), .val (.int p3), .val (.int p4), .val (.int p5), .val (.int p6), .val (.int n), .val (.int x0), .val (.int x1), .val (.int x2), .val (.int x3), .val (.int x4), .unset, .unset, .unset, .unset]) (hb hby at_39) rfl (pc' := 41) rfl ?_
  refine W5.1.iload (hb hby at_41) rfl (pc' := 43) rfl ?_
  refine W5.1.iload (hb hby at_43) rfl (pc' := 45) rfl ?_
  refine W5.1.iload (hb hby at_45) rfl (pc' := 47) rfl ?_
  refine W5.1.iload (hb hby at_47) rfl (pc' := 49) rfl ?_
  refine W5.1.iload (hb hby at_49) rfl (pc' := 51) rfl ?_
  refine W5.1.iload (hb hby at_51) rfl (pc' := 53) rfl ?_
  have X0_5_7 : Ext h0 h5 := Keep.toExt ((((((Keep.refl h0 []).trans K1 all0).trans K2 all0).trans K3 all0).trans K4 all0).trans K5 all0)
  have zX0_5_7 := X0_5_7.1
  have F8 := Sta.ext X0_5_7 SC
  refine W5.callS (hw _ (List.mem_of_getElem? (i := 5) rfl)) (hw _ (List.mem_of_getElem? (i := 6) rfl)) (hw _ (List.mem_of_getElem? (i := 2) rfl)) (hw _ (List.mem_of_getElem? (i := 7) rfl)) (by decide) (WM.bk (wd := 0) (rmM l Z a0 hw hEL n x0 x1 x2 x3 x4 zc h5 n0 W5.1.n0h (hx0 ▸ chF_lat _) (hx1 ▸ chF_lat _) (hx2 ▸ chF_lat _) (hx3 ▸ chF_lat _) (hx4 ▸ chF_lat _) F8 hz) W5.1.2.2.2.1 (hw _ (List.mem_of_getElem? (i := 7) rfl)) (hw _ (List.mem_of_getElem? (i := 2) rfl)) (by decide) (by decide) hEL W5.2.2.1) (hb hby at_53) (pc' := 56) rfl hml (argsL := [(.int n), (.int x0), (.int x1), (.int x2), (.int x3), (.int x4)]) rfl (lenOf pd_e16555fd rfl) rfl (Nat.le_of_ble_eq_true rfl) (by decide) (by decide) (ws' := []) (fun _ _ _ q => ⟨q.2.2, q.2.1⟩) all0 ?_
  intro v6 T6 h6 vm6 L6' L6 W6 Q6 K6 C6
  have z6 := K6.1
  obtain ⟨⟨a6, rfl, S6⟩, -, -⟩ := Q6
  have ML6 : ∀ c ∈ (makeF n x0 x1 x2 x3 x4), ¬ (255 : Int32) < c := make_lat (hx0 ▸ chF_lat _).2 (hx1 ▸ chF_lat _).2 (hx2 ▸ chF_lat _).2 (hx3 ▸ chF_lat _).2 (hx4 ▸ chF_lat _).2
  show Go p e below _ T6 (mkF m 56 #[.val (.int p1), .val (.int p2), .val (.int p3), .val (.int p4), .val (.int p5), .val (.int p6), .val (.int n), .val (.int x0), .val (.int x1), .val (.int x2), .val (.int x3), .val (.int x4), .unset, .unset, .unset, .unset] [(.ref a6)])
  refine W6.1.astore (Ls' := #[.val (.int p1), .val (.int p2), .val (.int p3), .val (.int p4), .val (.int p5), .val (.int p6), .val (.int n), .val (.int x0), .val (.int x1), .val (.int x2), .val (.int x3), .val (.int x4), .val (.ref a6), .unset, .unset, .unset]) (hb hby at_56) rfl rfl (pc' := 58) rfl ?_
  suffices kk9 : ∀ (T' : State) (L' : List Loc), WK consts_1 p l e room_1 s m #[(.int p1), (.int p2), (.int p3), (.int p4), (.int p5), (.int p6)] below meth c Z "com/example/web_api_rules/webapirules/description/CheckedPathIsResourceSegmentPinLaw" n0 h0 [] T' h6 vm6 L' 11 56 → Go p e below _ T' (mkF m 128 #[.val (.int p1), .val (.int p2), .val (.int p3), .val (.int p4), .val (.int p5), .val (.int p6), .val (.int n), .val (.int x0), .val (.int x1), .val (.int x2), .val (.int x3), .val (.int x4), .val (.ref a6), .unset, .unset, .unset] [(.int (paramF n x0 x1 x2 x3 x4))]) by
    refine W6.1.iload (hb hby at_58) rfl (pc' := 60) rfl ?_
    refine W6.1.iconst (3 : Int32) (hb hby at_60) rfl (pc' := 61) rfl ?_
    by_cases hc10 : n < (3 : Int32)
    · refine W6.1.icmpYes (hb hby at_61) (XT.ii_lt_t hc10) (by decide) (pc' := 127) (by decide) ?_
      refine W6.1.iconst (0 : Int32) (hb hby at_127) rfl (pc' := 128) rfl ?_
      have q9 := kk9 _ _ W6
      rw [show (paramF n x0 x1 x2 x3 x4) = (0 : Int32) from by rw [paramF, if_pos hc10]] at q9
      exact q9
    · refine W6.1.icmpNo (hb hby at_61) (XT.ii_lt_f hc10) (pc' := 64) rfl ?_
      refine W6.1.iload (hb hby at_64) rfl (pc' := 66) rfl ?_
      refine W6.1.bipush (123 : Int32) (hb hby at_66) rfl (pc' := 68) rfl ?_
      by_cases hc11 : x0 = (123 : Int32)
      · refine W6.1.icmpNo (hb hby at_68) (XT.ii_ne_f hc11) (pc' := 71) rfl ?_
        refine W6.1.iload (hb hby at_71) rfl (pc' := 73) rfl ?_
        refine W6.1.iload (hb hby at_73) rfl (pc' := 75) rfl ?_
        refine W6.1.iload (hb hby at_75) rfl (pc' := 77) rfl ?_
        refine W6.1.iload (hb hby at_77) rfl (pc' := 79) rfl ?_
        refine W6.1.callSP (hw _ (List.mem_of_getElem? (i := 83) rfl)) (hw _ (List.mem_of_getElem? (i := 84) rfl)) (hw _ (List.mem_of_getElem? (i := 2) rfl)) (hw _ (List.mem_of_getElem? (i := 85) rfl)) (by decide) (NM.bk (wd := 0) (rmL l Z a0 hw n x2 x3 x4 h6 n0 W6.1.n0h (hx2 ▸ chF_lat _) (hx3 ▸ chF_lat _) (hx4 ▸ chF_lat _)) W6.1.2.2.2.1 (hw _ (List.mem_of_getElem? (i := 85) rfl)) (hw _ (List.mem_of_getElem? (i := 2) rfl)) (by decide) (by decide)) (hb hby at_79) (pc' := 82) rfl hml (argsL := [(.int n), (.int x2), (.int x3), (.int x4)]) rfl (lenOf pd_10e6af06 rfl) rfl (Nat.le_of_ble_eq_true rfl) (by decide) (by decide) (fun _ _ _ q => pu_of q) ?_
        intro T12 L12 N12
        have W12 := W6.same N12
        show Go p e below _ T12 (mkF m 82 #[.val (.int p1), .val (.int p2), .val (.int p3), .val (.int p4), .val (.int p5), .val (.int p6), .val (.int n), .val (.int x0), .val (.int x1), .val (.int x2), .val (.int x3), .val (.int x4), .val (.ref a6), .unset, .unset, .unset] [(.int (lastF n x2 x3 x4))])
        refine W12.1.bipush (125 : Int32) (hb hby at_82) rfl (pc' := 84) rfl ?_
        by_cases hc13 : (lastF n x2 x3 x4) = (125 : Int32)
        · refine W12.1.icmpNo (hb hby at_84) (XT.ii_ne_f hc13) (pc' := 87) rfl ?_
          refine W12.1.iload (hb hby at_87) rfl (pc' := 89) rfl ?_
          refine W12.1.callSP (hw _ (List.mem_of_getElem? (i := 92) rfl)) (hw _ (List.mem_of_getElem? (i := 93) rfl)) (hw _ (List.mem_of_getElem? (i := 2) rfl)) (hw _ (List.mem_of_getElem? (i := 94) rfl)) (by decide) (NM.bk (wd := 0) (rmNB l Z a0 hw x1 h6 n0 W12.1.n0h ) W12.1.2.2.2.1 (hw _ (List.mem_of_getElem? (i := 94) rfl)) (hw _ (List.mem_of_getElem? (i := 2) rfl)) (by decide) (by decide)) (hb hby at_89) (pc' := 92) rfl hml (argsL := [(.int x1)]) rfl (lenOf pd_ba645060 rfl) rfl (Nat.le_of_ble_eq_true rfl) (by decide) (by decide) (fun _ _ _ q => pu_of q) ?_
          intro T14 L14 N14
          have W14 := W12.same N14
          show Go p e below _ T14 (mkF m 92 #[.val (.int p1), .val (.int p2), .val (.int p3), .val (.int p4), .val (.int p5), .val (.int p6), .val (.int n), .val (.int x0), .val (.int x1), .val (.int x2), .val (.int x3), .val (.int x4), .val (.ref a6), .unset, .unset, .unset] [(.int (nbF x1))])
          by_cases hc15 : (nbF x1) = (0 : Int32)
          · refine W14.1.ifYes (hb hby at_92) (XT.i0_eq_t hc15) (by decide) (pc' := 127) (by decide) ?_
            refine W14.1.iconst (0 : Int32) (hb hby at_127) rfl (pc' := 128) rfl ?_
            have q9 := kk9 _ _ W14
            rw [show (paramF n x0 x1 x2 x3 x4) = (0 : Int32) from by rw [paramF, if_neg hc10, if_pos hc11, if_pos hc13, if_pos hc15]] at q9
            exact q9
          · refine W14.1.ifNo (hb hby at_92) (XT.i0_eq_f hc15) (pc' := 95) rfl ?_
            refine W14.1.iload (hb hby at_95) rfl (pc' := 97) rfl ?_
            refine W14.1.iconst (4 : Int32) (hb hby at_97) rfl (pc' := 98) rfl ?_
            by_cases hc16 : n < (4 : Int32)
            · refine W14.1.icmpYes (hb hby at_98) (XT.ii_lt_t hc16) (by decide) (pc' := 109) (by decide) ?_
              refine W14.1.iload (hb hby at_109) rfl (pc' := 111) rfl ?_
              refine W14.1.iconst (5 : Int32) (hb hby at_111) rfl (pc' := 112) rfl ?_
              by_cases hc17 : n < (5 : Int32)
              · refine W14.1.icmpYes (hb hby at_112) (XT.ii_lt_t hc17) (by decide) (pc' := 123) (by decide) ?_
                refine W14.1.iconst (1 : Int32) (hb hby at_123) rfl (pc' := 124) rfl ?_
                refine W14.1.goto (hb hby at_124) (by decide) (pc' := 128) (by decide) ?_
                have q9 := kk9 _ _ W14
                rw [show (paramF n x0 x1 x2 x3 x4) = (1 : Int32) from by rw [paramF, if_neg hc10, if_pos hc11, if_pos hc13, if_neg hc15, if_pos hc16, if_pos hc17]] at q9
                exact q9
              · refine W14.1.icmpNo (hb hby at_112) (XT.ii_lt_f hc17) (pc' := 115) rfl ?_
                refine W14.1.iload (hb hby at_115) rfl (pc' := 117) rfl ?_
                refine W14.1.callSP (hw _ (List.mem_of_getElem? (i := 92) rfl)) (hw _ (List.mem_of_getElem? (i := 93) rfl)) (hw _ (List.mem_of_getElem? (i := 2) rfl)) (hw _ (List.mem_of_getElem? (i := 94) rfl)) (by decide) (NM.bk (wd := 0) (rmNB l Z a0 hw x3 h6 n0 W14.1.n0h ) W14.1.2.2.2.1 (hw _ (List.mem_of_getElem? (i := 94) rfl)) (hw _ (List.mem_of_getElem? (i := 2) rfl)) (by decide) (by decide)) (hb hby at_117) (pc' := 120) rfl hml (argsL := [(.int x3)]) rfl (lenOf pd_ba645060 rfl) rfl (Nat.le_of_ble_eq_true rfl) (by decide) (by decide) (fun _ _ _ q => pu_of q) ?_
                intro T18 L18 N18
                have W18 := W14.same N18
                show Go p e below _ T18 (mkF m 120 #[.val (.int p1), .val (.int p2), .val (.int p3), .val (.int p4), .val (.int p5), .val (.int p6), .val (.int n), .val (.int x0), .val (.int x1), .val (.int x2), .val (.int x3), .val (.int x4), .val (.ref a6), .unset, .unset, .unset] [(.int (nbF x3))])
                by_cases hc19 : (nbF x3) = (0 : Int32)
                · refine W18.1.ifYes (hb hby at_120) (XT.i0_eq_t hc19) (by decide) (pc' := 127) (by decide) ?_
                  refine W18.1.iconst (0 : Int32) (hb hby at_127) rfl (pc' := 128) rfl ?_
                  have q9 := kk9 _ _ W18
                  rw [show (paramF n x0 x1 x2 x3 x4) = (0 : Int32) from by rw [paramF, if_neg hc10, if_pos hc11, if_pos hc13, if_neg hc15, if_pos hc16, if_neg hc17, if_pos hc19]] at q9
                  exact q9
                · refine W18.1.ifNo (hb hby at_120) (XT.i0_eq_f hc19) (pc' := 123) rfl ?_
                  refine W18.1.iconst (1 : Int32) (hb hby at_123) rfl (pc' := 124) rfl ?_
                  refine W18.1.goto (hb hby at_124) (by decide) (pc' := 128) (by decide) ?_
                  have q9 := kk9 _ _ W18
                  rw [show (paramF n x0 x1 x2 x3 x4) = (1 : Int32) from by rw [paramF, if_neg hc10, if_pos hc11, if_pos hc13, if_neg hc15, if_pos hc16, if_neg hc17, if_neg hc19]] at q9
                  exact q9
            · refine W14.1.icmpNo (hb hby at_98) (XT.ii_lt_f hc16) (pc' := 101) rfl ?_
              refine W14.1.iload (hb hby at_101) rfl (pc' := 103) rfl ?_
              refine W14.1.callSP (hw _ (List.mem_of_getElem? (i := 92) rfl)) (hw _ (List.mem_of_getElem? (i := 93) rfl)) (hw _ (List.mem_of_getElem? (i := 2) rfl)) (hw _ (List.mem_of_getElem? (i := 94) rfl)) (by decide) (NM.bk (wd := 0) (rmNB l Z a0 hw x2 h6 n0 W14.1.n0h ) W14.1.2.2.2.1 (hw _ (List.mem_of_getElem? (i := 94) rfl)) (hw _ (List.mem_of_getElem? (i := 2) rfl)) (by decide) (by decide)) (hb hby at_103) (pc' := 106) rfl hml (argsL := [(.int x2)]) rfl (lenOf pd_ba645060 rfl) rfl (Nat.le_of_ble_eq_true rfl) (by decide) (by decide) (fun _ _ _ q => pu_of q) ?_
              intro T20 L20 N20
              have W20 := W14.same N20
              show Go p e below _ T20 (mkF m 106 #[.val (.int p1), .val (.int p2), .val (.int p3), .val (.int p4), .val (.int p5), .val (.int p6), .val (.int n), .val (.int x0), .val (.int x1), .val (.int x2), .val (.int x3), .val (.int x4), .val (.ref a6), .unset, .unset, .unset] [(.int (nbF x2))])
              by_cases hc21 : (nbF x2) = (0 : Int32)
              · refine W20.1.ifYes (hb hby at_106) (XT.i0_eq_t hc21) (by decide) (pc' := 127) (by decide) ?_
                refine W20.1.iconst (0 : Int32) (hb hby at_127) rfl (pc' := 128) rfl ?_
                have q9 := kk9 _ _ W20
                rw [show (paramF n x0 x1 x2 x3 x4) = (0 : Int32) from by rw [paramF, if_neg hc10, if_pos hc11, if_pos hc13, if_neg hc15, if_neg hc16, if_pos hc21]] at q9
                exact q9
              · refine W20.1.ifNo (hb hby at_106) (XT.i0_eq_f hc21) (pc' := 109) rfl ?_
                refine W20.1.iload (hb hby at_109) rfl (pc' := 111) rfl ?_
                refine W20.1.iconst (5 : Int32) (hb hby at_111) rfl (pc' := 112) rfl ?_
                by_cases hc22 : n < (5 : Int32)
                · refine W20.1.icmpYes (hb hby at_112) (XT.ii_lt_t hc22) (by decide) (pc' := 123) (by decide) ?_
                  refine W20.1.iconst (1 : Int32) (hb hby at_123) rfl (pc' := 124) rfl ?_
                  refine W20.1.goto (hb hby at_124) (by decide) (pc' := 128) (by decide) ?_
                  have q9 := kk9 _ _ W20
                  rw [show (paramF n x0 x1 x2 x3 x4) = (1 : Int32) from by rw [paramF, if_neg hc10, if_pos hc11, if_pos hc13, if_neg hc15, if_neg hc16, if_neg hc21, if_pos hc22]] at q9
                  exact q9
                · refine W20.1.icmpNo (hb hby at_112) (XT.ii_lt_f hc22) (pc' := 115) rfl ?_
                  refine W20.1.iload (hb hby at_115) rfl (pc' := 117) rfl ?_
                  refine W20.1.callSP (hw _ (List.mem_of_getElem? (i := 92) rfl)) (hw _ (List.mem_of_getElem? (i := 93) rfl)) (hw _ (List.mem_of_getElem? (i := 2) rfl)) (hw _ (List.mem_of_getElem? (i := 94) rfl)) (by decide) (NM.bk (wd := 0) (rmNB l Z a0 hw x3 h6 n0 W20.1.n0h ) W20.1.2.2.2.1 (hw _ (List.mem_of_getElem? (i := 94) rfl)) (hw _ (List.mem_of_getElem? (i := 2) rfl)) (by decide) (by decide)) (hb hby at_117) (pc' := 120) rfl hml (argsL := [(.int x3)]) rfl (lenOf pd_ba645060 rfl) rfl (Nat.le_of_ble_eq_true rfl) (by decide) (by decide) (fun _ _ _ q => pu_of q) ?_
                  intro T23 L23 N23
                  have W23 := W20.same N23
                  show Go p e below _ T23 (mkF m 120 #[.val (.int p1), .val (.int p2), .val (.int p3), .val (.int p4), .val (.int p5), .val (.int p6), .val (.int n), .val (.int x0), .val (.int x1), .val (.int x2), .val (.int x3), .val (.int x4), .val (.ref a6), .unset, .unset, .unset] [(.int (nbF x3))])
                  by_cases hc24 : (nbF x3) = (0 : Int32)
                  · refine W23.1.ifYes (hb hby at_120) (XT.i0_eq_t hc24) (by decide) (pc' := 127) (by decide) ?_
                    refine W23.1.iconst (0 : Int32) (hb hby at_127) rfl (pc' := 128) rfl ?_
                    have q9 := kk9 _ _ W23
                    rw [show (paramF n x0 x1 x2 x3 x4) = (0 : Int32) from by rw [paramF, if_neg hc10, if_pos hc11, if_pos hc13, if_neg hc15, if_neg hc16, if_neg hc21, if_neg hc22, if_pos hc24]] at q9
                    exact q9
                  · refine W23.1.ifNo (hb hby at_120) (XT.i0_eq_f hc24) (pc' := 123) rfl ?_
                    refine W23.1.iconst (1 : Int32) (hb hby at_123) rfl (pc' := 124) rfl ?_
                    refine W23.1.goto (hb hby at_124) (by decide) (pc' := 128) (by decide) ?_
                    have q9 := kk9 _ _ W23
                    rw [show (paramF n x0 x1 x2 x3 x4) = (1 : Int32) from by rw [paramF, if_neg hc10, if_pos hc11, if_pos hc13, if_neg hc15, if_neg hc16, if_neg hc21, if_neg hc22, if_neg hc24]] at q9
                    exact q9
        · refine W12.1.icmpYes (hb hby at_84) (XT.ii_ne_t hc13) (by decide) (pc' := 127) (by decide) ?_
          refine W12.1.iconst (0 : Int32) (hb hby at_127) rfl (pc' := 128) rfl ?_
          have q9 := kk9 _ _ W12
          rw [show (paramF n x0 x1 x2 x3 x4) = (0 : Int32) from by rw [paramF, if_neg hc10, if_pos hc11, if_neg hc13]] at q9
          exact q9
      · refine W6.1.icmpYes (hb hby at_68) (XT.ii_ne_t hc11) (by decide) (pc' := 127) (by decide) ?_
        refine W6.1.iconst (0 : Int32) (hb hby at_127) rfl (pc' := 128) rfl ?_
        have q9 := kk9 _ _ W6
        rw [show (paramF n x0 x1 x2 x3 x4) = (0 : Int32) from by rw [paramF, if_neg hc10, if_neg hc11]] at q9
        exact q9
  intro T9 L9 W9
  refine lets (P := fun z => Go _ _ _ _ _ (mkF m 128 #[.val (.int p1), .val (.int p2), .val (.int p3), .val (.int p4), .val (.int p5), .val (.int p6), .val (.int n), .val (.int x0), .val (.int x1), .val (.int x2), .val (.int x3), .val (.int x4), .val (.ref a6), .unset, .unset, .unset] [(.int z)])) (paramF n x0 x1 x2 x3 x4) ?_
  intro b1 hb1
  refine W9.1.istore (Ls' := #[.val (.int p1), .val (.int p2), .val (.int p3), .val (.int p4), .val (.int p5), .val (.int p6), .val (.int n), .val (.int x0), .val (.int x1), .val (.int x2), .val (.int x3), .val (.int x4), .val (.ref a6), .val (.int b1), .unset, .unset]) (hb hby at_128) rfl (pc' := 130) rfl ?_
  suffices kk25 : ∀ (T' : State) (L' : List Loc), WK consts_1 p l e room_1 s m #[(.int p1), (.int p2), (.int p3), (.int p4), (.int p5), (.int p6)] below meth c Z "com/example/web_api_rules/webapirules/description/CheckedPathIsResourceSegmentPinLaw" n0 h0 [] T' h6 vm6 L' 11 56 → Go p e below _ T' (mkF m 205 #[.val (.int p1), .val (.int p2), .val (.int p3), .val (.int p4), .val (.int p5), .val (.int p6), .val (.int n), .val (.int x0), .val (.int x1), .val (.int x2), .val (.int x3), .val (.int x4), .val (.ref a6), .val (.int b1), .unset, .unset] [(.int (versF n x0 x1 x2 x3 x4))]) by
    refine W9.1.iload (hb hby at_130) rfl (pc' := 132) rfl ?_
    refine W9.1.iconst (2 : Int32) (hb hby at_132) rfl (pc' := 133) rfl ?_
    by_cases hc26 : n < (2 : Int32)
    · refine W9.1.icmpYes (hb hby at_133) (XT.ii_lt_t hc26) (by decide) (pc' := 204) (by decide) ?_
      refine W9.1.iconst (0 : Int32) (hb hby at_204) rfl (pc' := 205) rfl ?_
      have q25 := kk25 _ _ W9
      rw [show (versF n x0 x1 x2 x3 x4) = (0 : Int32) from by rw [versF, if_pos hc26]] at q25
      exact q25
    · refine W9.1.icmpNo (hb hby at_133) (XT.ii_lt_f hc26) (pc' := 136) rfl ?_
      refine W9.1.iload (hb hby at_136) rfl (pc' := 138) rfl ?_
      refine W9.1.bipush (118 : Int32) (hb hby at_138) rfl (pc' := 140) rfl ?_
      by_cases hc27 : x0 = (118 : Int32)
      · refine W9.1.icmpNo (hb hby at_140) (XT.ii_ne_f hc27) (pc' := 143) rfl ?_
        refine W9.1.iload (hb hby at_143) rfl (pc' := 145) rfl ?_
        refine W9.1.bipush (48 : Int32) (hb hby at_145) rfl (pc' := 147) rfl ?_
        by_cases hc28 : x1 = (48 : Int32)
        · refine W9.1.icmpYes (hb hby at_147) (XT.ii_eq_t hc28) (by decide) (pc' := 204) (by decide) ?_
          refine W9.1.iconst (0 : Int32) (hb hby at_204) rfl (pc' := 205) rfl ?_
          have q25 := kk25 _ _ W9
          rw [show (versF n x0 x1 x2 x3 x4) = (0 : Int32) from by rw [versF, if_neg hc26, if_pos hc27, if_pos hc28]] at q25
          exact q25
        · refine W9.1.icmpNo (hb hby at_147) (XT.ii_eq_f hc28) (pc' := 150) rfl ?_
          refine W9.1.iload (hb hby at_150) rfl (pc' := 152) rfl ?_
          refine W9.1.callSP (hw _ (List.mem_of_getElem? (i := 86) rfl)) (hw _ (List.mem_of_getElem? (i := 87) rfl)) (hw _ (List.mem_of_getElem? (i := 2) rfl)) (hw _ (List.mem_of_getElem? (i := 88) rfl)) (by decide) (NM.bk (wd := 0) (rmDG l Z a0 hw x1 h6 n0 W9.1.n0h ) W9.1.2.2.2.1 (hw _ (List.mem_of_getElem? (i := 88) rfl)) (hw _ (List.mem_of_getElem? (i := 2) rfl)) (by decide) (by decide)) (hb hby at_152) (pc' := 155) rfl hml (argsL := [(.int x1)]) rfl (lenOf pd_ba645060 rfl) rfl (Nat.le_of_ble_eq_true rfl) (by decide) (by decide) (fun _ _ _ q => pu_of q) ?_
          intro T29 L29 N29
          have W29 := W9.same N29
          show Go p e below _ T29 (mkF m 155 #[.val (.int p1), .val (.int p2), .val (.int p3), .val (.int p4), .val (.int p5), .val (.int p6), .val (.int n), .val (.int x0), .val (.int x1), .val (.int x2), .val (.int x3), .val (.int x4), .val (.ref a6), .val (.int b1), .unset, .unset] [(.int (digF x1))])
          by_cases hc30 : (digF x1) = (0 : Int32)
          · refine W29.1.ifYes (hb hby at_155) (XT.i0_eq_t hc30) (by decide) (pc' := 204) (by decide) ?_
            refine W29.1.iconst (0 : Int32) (hb hby at_204) rfl (pc' := 205) rfl ?_
            have q25 := kk25 _ _ W29
            rw [show (versF n x0 x1 x2 x3 x4) = (0 : Int32) from by rw [versF, if_neg hc26, if_pos hc27, if_neg hc28, if_pos hc30]] at q25
            exact q25
          · refine W29.1.ifNo (hb hby at_155) (XT.i0_eq_f hc30) (pc' := 158) rfl ?_
            refine W29.1.iload (hb hby at_158) rfl (pc' := 160) rfl ?_
            refine W29.1.iconst (3 : Int32) (hb hby at_160) rfl (pc' := 161) rfl ?_
            by_cases hc31 : n < (3 : Int32)
            · refine W29.1.icmpYes (hb hby at_161) (XT.ii_lt_t hc31) (by decide) (pc' := 172) (by decide) ?_
              refine W29.1.iload (hb hby at_172) rfl (pc' := 174) rfl ?_
              refine W29.1.iconst (4 : Int32) (hb hby at_174) rfl (pc' := 175) rfl ?_
              by_cases hc32 : n < (4 : Int32)
              · refine W29.1.icmpYes (hb hby at_175) (XT.ii_lt_t hc32) (by decide) (pc' := 186) (by decide) ?_
                refine W29.1.iload (hb hby at_186) rfl (pc' := 188) rfl ?_
                refine W29.1.iconst (5 : Int32) (hb hby at_188) rfl (pc' := 189) rfl ?_
                by_cases hc33 : n < (5 : Int32)
                · refine W29.1.icmpYes (hb hby at_189) (XT.ii_lt_t hc33) (by decide) (pc' := 200) (by decide) ?_
                  refine W29.1.iconst (1 : Int32) (hb hby at_200) rfl (pc' := 201) rfl ?_
                  refine W29.1.goto (hb hby at_201) (by decide) (pc' := 205) (by decide) ?_
                  have q25 := kk25 _ _ W29
                  rw [show (versF n x0 x1 x2 x3 x4) = (1 : Int32) from by rw [versF, if_neg hc26, if_pos hc27, if_neg hc28, if_neg hc30, if_pos hc31, if_pos hc32, if_pos hc33]] at q25
                  exact q25
                · refine W29.1.icmpNo (hb hby at_189) (XT.ii_lt_f hc33) (pc' := 192) rfl ?_
                  refine W29.1.iload (hb hby at_192) rfl (pc' := 194) rfl ?_
                  refine W29.1.callSP (hw _ (List.mem_of_getElem? (i := 86) rfl)) (hw _ (List.mem_of_getElem? (i := 87) rfl)) (hw _ (List.mem_of_getElem? (i := 2) rfl)) (hw _ (List.mem_of_getElem? (i := 88) rfl)) (by decide) (NM.bk (wd := 0) (rmDG l Z a0 hw x4 h6 n0 W29.1.n0h ) W29.1.2.2.2.1 (hw _ (List.mem_of_getElem? (i := 88) rfl)) (hw _ (List.mem_of_getElem? (i := 2) rfl)) (by decide) (by decide)) (hb hby at_194) (pc' := 197) rfl hml (argsL := [(.int x4)]) rfl (lenOf pd_ba645060 rfl) rfl (Nat.le_of_ble_eq_true rfl) (by decide) (by decide) (fun _ _ _ q => pu_of q) ?_
                  intro T34 L34 N34
                  have W34 := W29.same N34
                  show Go p e below _ T34 (mkF m 197 #[.val (.int p1), .val (.int p2), .val (.int p3), .val (.int p4), .val (.int p5), .val (.int p6), .val (.int n), .val (.int x0), .val (.int x1), .val (.int x2), .val (.int x3), .val (.int x4), .val (.ref a6), .val (.int b1), .unset, .unset] [(.int (digF x4))])
                  by_cases hc35 : (digF x4) = (0 : Int32)
                  · refine W34.1.ifYes (hb hby at_197) (XT.i0_eq_t hc35) (by decide) (pc' := 204) (by decide) ?_
                    refine W34.1.iconst (0 : Int32) (hb hby at_204) rfl (pc' := 205) rfl ?_
                    have q25 := kk25 _ _ W34
                    rw [show (versF n x0 x1 x2 x3 x4) = (0 : Int32) from by rw [versF, if_neg hc26, if_pos hc27, if_neg hc28, if_neg hc30, if_pos hc31, if_pos hc32, if_neg hc33, if_pos hc35]] at q25
                    exact q25
                  · refine W34.1.ifNo (hb hby at_197) (XT.i0_eq_f hc35) (pc' := 200) rfl ?_
                    refine W34.1.iconst (1 : Int32) (hb hby at_200) rfl (pc' := 201) rfl ?_
                    refine W34.1.goto (hb hby at_201) (by decide) (pc' := 205) (by decide) ?_
                    have q25 := kk25 _ _ W34
                    rw [show (versF n x0 x1 x2 x3 x4) = (1 : Int32) from by rw [versF, if_neg hc26, if_pos hc27, if_neg hc28, if_neg hc30, if_pos hc31, if_pos hc32, if_neg hc33, if_neg hc35]] at q25
                    exact q25
              · refine W29.1.icmpNo (hb hby at_175) (XT.ii_lt_f hc32) (pc' := 178) rfl ?_
                refine W29.1.iload (hb hby at_178) rfl (pc' := 180) rfl ?_
                refine W29.1.callSP (hw _ (List.mem_of_getElem? (i := 86) rfl)) (hw _ (List.mem_of_getElem? (i := 87) rfl)) (hw _ (List.mem_of_getElem? (i := 2) rfl)) (hw _ (List.mem_of_getElem? (i := 88) rfl)) (by decide) (NM.bk (wd := 0) (rmDG l Z a0 hw x3 h6 n0 W29.1.n0h ) W29.1.2.2.2.1 (hw _ (List.mem_of_getElem? (i := 88) rfl)) (hw _ (List.mem_of_getElem? (i := 2) rfl)) (by decide) (by decide)) (hb hby at_180) (pc' := 183) rfl hml (argsL := [(.int x3)]) rfl (lenOf pd_ba645060 rfl) rfl (Nat.le_of_ble_eq_true rfl) (by decide) (by decide) (fun _ _ _ q => pu_of q) ?_
                intro T36 L36 N36
                have W36 := W29.same N36
                show Go p e below _ T36 (mkF m 183 #[.val (.int p1), .val (.int p2), .val (.int p3), .val (.int p4), .val (.int p5), .val (.int p6), .val (.int n), .val (.int x0), .val (.int x1), .val (.int x2), .val (.int x3), .val (.int x4), .val (.ref a6), .val (.int b1), .unset, .unset] [(.int (digF x3))])
                by_cases hc37 : (digF x3) = (0 : Int32)
                · refine W36.1.ifYes (hb hby at_183) (XT.i0_eq_t hc37) (by decide) (pc' := 204) (by decide) ?_
                  refine W36.1.iconst (0 : Int32) (hb hby at_204) rfl (pc' := 205) rfl ?_
                  have q25 := kk25 _ _ W36
                  rw [show (versF n x0 x1 x2 x3 x4) = (0 : Int32) from by rw [versF, if_neg hc26, if_pos hc27, if_neg hc28, if_neg hc30, if_pos hc31, if_neg hc32, if_pos hc37]] at q25
                  exact q25
                · refine W36.1.ifNo (hb hby at_183) (XT.i0_eq_f hc37) (pc' := 186) rfl ?_
                  refine W36.1.iload (hb hby at_186) rfl (pc' := 188) rfl ?_
                  refine W36.1.iconst (5 : Int32) (hb hby at_188) rfl (pc' := 189) rfl ?_
                  by_cases hc38 : n < (5 : Int32)
                  · refine W36.1.icmpYes (hb hby at_189) (XT.ii_lt_t hc38) (by decide) (pc' := 200) (by decide) ?_
                    refine W36.1.iconst (1 : Int32) (hb hby at_200) rfl (pc' := 201) rfl ?_
                    refine W36.1.goto (hb hby at_201) (by decide) (pc' := 205) (by decide) ?_
                    have q25 := kk25 _ _ W36
                    rw [show (versF n x0 x1 x2 x3 x4) = (1 : Int32) from by rw [versF, if_neg hc26, if_pos hc27, if_neg hc28, if_neg hc30, if_pos hc31, if_neg hc32, if_neg hc37, if_pos hc38]] at q25
                    exact q25
                  · refine W36.1.icmpNo (hb hby at_189) (XT.ii_lt_f hc38) (pc' := 192) rfl ?_
                    refine W36.1.iload (hb hby at_192) rfl (pc' := 194) rfl ?_
                    refine W36.1.callSP (hw _ (List.mem_of_getElem? (i := 86) rfl)) (hw _ (List.mem_of_getElem? (i := 87) rfl)) (hw _ (List.mem_of_getElem? (i := 2) rfl)) (hw _ (List.mem_of_getElem? (i := 88) rfl)) (by decide) (NM.bk (wd := 0) (rmDG l Z a0 hw x4 h6 n0 W36.1.n0h ) W36.1.2.2.2.1 (hw _ (List.mem_of_getElem? (i := 88) rfl)) (hw _ (List.mem_of_getElem? (i := 2) rfl)) (by decide) (by decide)) (hb hby at_194) (pc' := 197) rfl hml (argsL := [(.int x4)]) rfl (lenOf pd_ba645060 rfl) rfl (Nat.le_of_ble_eq_true rfl) (by decide) (by decide) (fun _ _ _ q => pu_of q) ?_
                    intro T39 L39 N39
                    have W39 := W36.same N39
                    show Go p e below _ T39 (mkF m 197 #[.val (.int p1), .val (.int p2), .val (.int p3), .val (.int p4), .val (.int p5), .val (.int p6), .val (.int n), .val (.int x0), .val (.int x1), .val (.int x2), .val (.int x3), .val (.int x4), .val (.ref a6), .val (.int b1), .unset, .unset] [(.int (digF x4))])
                    by_cases hc40 : (digF x4) = (0 : Int32)
                    · refine W39.1.ifYes (hb hby at_197) (XT.i0_eq_t hc40) (by decide) (pc' := 204) (by decide) ?_
                      refine W39.1.iconst (0 : Int32) (hb hby at_204) rfl (pc' := 205) rfl ?_
                      have q25 := kk25 _ _ W39
                      rw [show (versF n x0 x1 x2 x3 x4) = (0 : Int32) from by rw [versF, if_neg hc26, if_pos hc27, if_neg hc28, if_neg hc30, if_pos hc31, if_neg hc32, if_neg hc37, if_neg hc38, if_pos hc40]] at q25
                      exact q25
                    · refine W39.1.ifNo (hb hby at_197) (XT.i0_eq_f hc40) (pc' := 200) rfl ?_
                      refine W39.1.iconst (1 : Int32) (hb hby at_200) rfl (pc' := 201) rfl ?_
                      refine W39.1.goto (hb hby at_201) (by decide) (pc' := 205) (by decide) ?_
                      have q25 := kk25 _ _ W39
                      rw [show (versF n x0 x1 x2 x3 x4) = (1 : Int32) from by rw [versF, if_neg hc26, if_pos hc27, if_neg hc28, if_neg hc30, if_pos hc31, if_neg hc32, if_neg hc37, if_neg hc38, if_neg hc40]] at q25
                      exact q25
            · refine W29.1.icmpNo (hb hby at_161) (XT.ii_lt_f hc31) (pc' := 164) rfl ?_
              refine W29.1.iload (hb hby at_164) rfl (pc' := 166) rfl ?_
              refine W29.1.callSP (hw _ (List.mem_of_getElem? (i := 86) rfl)) (hw _ (List.mem_of_getElem? (i := 87) rfl)) (hw _ (List.mem_of_getElem? (i := 2) rfl)) (hw _ (List.mem_of_getElem? (i := 88) rfl)) (by decide) (NM.bk (wd := 0) (rmDG l Z a0 hw x2 h6 n0 W29.1.n0h ) W29.1.2.2.2.1 (hw _ (List.mem_of_getElem? (i := 88) rfl)) (hw _ (List.mem_of_getElem? (i := 2) rfl)) (by decide) (by decide)) (hb hby at_166) (pc' := 169) rfl hml (argsL := [(.int x2)]) rfl (lenOf pd_ba645060 rfl) rfl (Nat.le_of_ble_eq_true rfl) (by decide) (by decide) (fun _ _ _ q => pu_of q) ?_
              intro T41 L41 N41
              have W41 := W29.same N41
              show Go p e below _ T41 (mkF m 169 #[.val (.int p1), .val (.int p2), .val (.int p3), .val (.int p4), .val (.int p5), .val (.int p6), .val (.int n), .val (.int x0), .val (.int x1), .val (.int x2), .val (.int x3), .val (.int x4), .val (.ref a6), .val (.int b1), .unset, .unset] [(.int (digF x2))])
              by_cases hc42 : (digF x2) = (0 : Int32)
              · refine W41.1.ifYes (hb hby at_169) (XT.i0_eq_t hc42) (by decide) (pc' := 204) (by decide) ?_
                refine W41.1.iconst (0 : Int32) (hb hby at_204) rfl (pc' := 205) rfl ?_
                have q25 := kk25 _ _ W41
                rw [show (versF n x0 x1 x2 x3 x4) = (0 : Int32) from by rw [versF, if_neg hc26, if_pos hc27, if_neg hc28, if_neg hc30, if_neg hc31, if_pos hc42]] at q25
                exact q25
              · refine W41.1.ifNo (hb hby at_169) (XT.i0_eq_f hc42) (pc' := 172) rfl ?_
                refine W41.1.iload (hb hby at_172) rfl (pc' := 174) rfl ?_
                refine W41.1.iconst (4 : Int32) (hb hby at_174) rfl (pc' := 175) rfl ?_
                by_cases hc43 : n < (4 : Int32)
                · refine W41.1.icmpYes (hb hby at_175) (XT.ii_lt_t hc43) (by decide) (pc' := 186) (by decide) ?_
                  refine W41.1.iload (hb hby at_186) rfl (pc' := 188) rfl ?_
                  refine W41.1.iconst (5 : Int32) (hb hby at_188) rfl (pc' := 189) rfl ?_
                  by_cases hc44 : n < (5 : Int32)
                  · refine W41.1.icmpYes (hb hby at_189) (XT.ii_lt_t hc44) (by decide) (pc' := 200) (by decide) ?_
                    refine W41.1.iconst (1 : Int32) (hb hby at_200) rfl (pc' := 201) rfl ?_
                    refine W41.1.goto (hb hby at_201) (by decide) (pc' := 205) (by decide) ?_
                    have q25 := kk25 _ _ W41
                    rw [show (versF n x0 x1 x2 x3 x4) = (1 : Int32) from by rw [versF, if_neg hc26, if_pos hc27, if_neg hc28, if_neg hc30, if_neg hc31, if_neg hc42, if_pos hc43, if_pos hc44]] at q25
                    exact q25
                  · refine W41.1.icmpNo (hb hby at_189) (XT.ii_lt_f hc44) (pc' := 192) rfl ?_
                    refine W41.1.iload (hb hby at_192) rfl (pc' := 194) rfl ?_
                    refine W41.1.callSP (hw _ (List.mem_of_getElem? (i := 86) rfl)) (hw _ (List.mem_of_getElem? (i := 87) rfl)) (hw _ (List.mem_of_getElem? (i := 2) rfl)) (hw _ (List.mem_of_getElem? (i := 88) rfl)) (by decide) (NM.bk (wd := 0) (rmDG l Z a0 hw x4 h6 n0 W41.1.n0h ) W41.1.2.2.2.1 (hw _ (List.mem_of_getElem? (i := 88) rfl)) (hw _ (List.mem_of_getElem? (i := 2) rfl)) (by decide) (by decide)) (hb hby at_194) (pc' := 197) rfl hml (argsL := [(.int x4)]) rfl (lenOf pd_ba645060 rfl) rfl (Nat.le_of_ble_eq_true rfl) (by decide) (by decide) (fun _ _ _ q => pu_of q) ?_
                    intro T45 L45 N45
                    have W45 := W41.same N45
                    show Go p e below _ T45 (mkF m 197 #[.val (.int p1), .val (.int p2), .val (.int p3), .val (.int p4), .val (.int p5), .val (.int p6), .val (.int n), .val (.int x0), .val (.int x1), .val (.int x2), .val (.int x3), .val (.int x4), .val (.ref a6), .val (.int b1), .unset, .unset] [(.int (digF x4))])
                    by_cases hc46 : (digF x4) = (0 : Int32)
                    · refine W45.1.ifYes (hb hby at_197) (XT.i0_eq_t hc46) (by decide) (pc' := 204) (by decide) ?_
                      refine W45.1.iconst (0 : Int32) (hb hby at_204) rfl (pc' := 205) rfl ?_
                      have q25 := kk25 _ _ W45
                      rw [show (versF n x0 x1 x2 x3 x4) = (0 : Int32) from by rw [versF, if_neg hc26, if_pos hc27, if_neg hc28, if_neg hc30, if_neg hc31, if_neg hc42, if_pos hc43, if_neg hc44, if_pos hc46]] at q25
                      exact q25
                    · refine W45.1.ifNo (hb hby at_197) (XT.i0_eq_f hc46) (pc' := 200) rfl ?_
                      refine W45.1.iconst (1 : Int32) (hb hby at_200) rfl (pc' := 201) rfl ?_
                      refine W45.1.goto (hb hby at_201) (by decide) (pc' := 205) (by decide) ?_
                      have q25 := kk25 _ _ W45
                      rw [show (versF n x0 x1 x2 x3 x4) = (1 : Int32) from by rw [versF, if_neg hc26, if_pos hc27, if_neg hc28, if_neg hc30, if_neg hc31, if_neg hc42, if_pos hc43, if_neg hc44, if_neg hc46]] at q25
                      exact q25
                · refine W41.1.icmpNo (hb hby at_175) (XT.ii_lt_f hc43) (pc' := 178) rfl ?_
                  refine W41.1.iload (hb hby at_178) rfl (pc' := 180) rfl ?_
                  refine W41.1.callSP (hw _ (List.mem_of_getElem? (i := 86) rfl)) (hw _ (List.mem_of_getElem? (i := 87) rfl)) (hw _ (List.mem_of_getElem? (i := 2) rfl)) (hw _ (List.mem_of_getElem? (i := 88) rfl)) (by decide) (NM.bk (wd := 0) (rmDG l Z a0 hw x3 h6 n0 W41.1.n0h ) W41.1.2.2.2.1 (hw _ (List.mem_of_getElem? (i := 88) rfl)) (hw _ (List.mem_of_getElem? (i := 2) rfl)) (by decide) (by decide)) (hb hby at_180) (pc' := 183) rfl hml (argsL := [(.int x3)]) rfl (lenOf pd_ba645060 rfl) rfl (Nat.le_of_ble_eq_true rfl) (by decide) (by decide) (fun _ _ _ q => pu_of q) ?_
                  intro T47 L47 N47
                  have W47 := W41.same N47
                  show Go p e below _ T47 (mkF m 183 #[.val (.int p1), .val (.int p2), .val (.int p3), .val (.int p4), .val (.int p5), .val (.int p6), .val (.int n), .val (.int x0), .val (.int x1), .val (.int x2), .val (.int x3), .val (.int x4), .val (.ref a6), .val (.int b1), .unset, .unset] [(.int (digF x3))])
                  by_cases hc48 : (digF x3) = (0 : Int32)
                  · refine W47.1.ifYes (hb hby at_183) (XT.i0_eq_t hc48) (by decide) (pc' := 204) (by decide) ?_
                    refine W47.1.iconst (0 : Int32) (hb hby at_204) rfl (pc' := 205) rfl ?_
                    have q25 := kk25 _ _ W47
                    rw [show (versF n x0 x1 x2 x3 x4) = (0 : Int32) from by rw [versF, if_neg hc26, if_pos hc27, if_neg hc28, if_neg hc30, if_neg hc31, if_neg hc42, if_neg hc43, if_pos hc48]] at q25
                    exact q25
                  · refine W47.1.ifNo (hb hby at_183) (XT.i0_eq_f hc48) (pc' := 186) rfl ?_
                    refine W47.1.iload (hb hby at_186) rfl (pc' := 188) rfl ?_
                    refine W47.1.iconst (5 : Int32) (hb hby at_188) rfl (pc' := 189) rfl ?_
                    by_cases hc49 : n < (5 : Int32)
                    · refine W47.1.icmpYes (hb hby at_189) (XT.ii_lt_t hc49) (by decide) (pc' := 200) (by decide) ?_
                      refine W47.1.iconst (1 : Int32) (hb hby at_200) rfl (pc' := 201) rfl ?_
                      refine W47.1.goto (hb hby at_201) (by decide) (pc' := 205) (by decide) ?_
                      have q25 := kk25 _ _ W47
                      rw [show (versF n x0 x1 x2 x3 x4) = (1 : Int32) from by rw [versF, if_neg hc26, if_pos hc27, if_neg hc28, if_neg hc30, if_neg hc31, if_neg hc42, if_neg hc43, if_neg hc48, if_pos hc49]] at q25
                      exact q25
                    · refine W47.1.icmpNo (hb hby at_189) (XT.ii_lt_f hc49) (pc' := 192) rfl ?_
                      refine W47.1.iload (hb hby at_192) rfl (pc' := 194) rfl ?_
                      refine W47.1.callSP (hw _ (List.mem_of_getElem? (i := 86) rfl)) (hw _ (List.mem_of_getElem? (i := 87) rfl)) (hw _ (List.mem_of_getElem? (i := 2) rfl)) (hw _ (List.mem_of_getElem? (i := 88) rfl)) (by decide) (NM.bk (wd := 0) (rmDG l Z a0 hw x4 h6 n0 W47.1.n0h ) W47.1.2.2.2.1 (hw _ (List.mem_of_getElem? (i := 88) rfl)) (hw _ (List.mem_of_getElem? (i := 2) rfl)) (by decide) (by decide)) (hb hby at_194) (pc' := 197) rfl hml (argsL := [(.int x4)]) rfl (lenOf pd_ba645060 rfl) rfl (Nat.le_of_ble_eq_true rfl) (by decide) (by decide) (fun _ _ _ q => pu_of q) ?_
                      intro T50 L50 N50
                      have W50 := W47.same N50
                      show Go p e below _ T50 (mkF m 197 #[.val (.int p1), .val (.int p2), .val (.int p3), .val (.int p4), .val (.int p5), .val (.int p6), .val (.int n), .val (.int x0), .val (.int x1), .val (.int x2), .val (.int x3), .val (.int x4), .val (.ref a6), .val (.int b1), .unset, .unset] [(.int (digF x4))])
                      by_cases hc51 : (digF x4) = (0 : Int32)
                      · refine W50.1.ifYes (hb hby at_197) (XT.i0_eq_t hc51) (by decide) (pc' := 204) (by decide) ?_
                        refine W50.1.iconst (0 : Int32) (hb hby at_204) rfl (pc' := 205) rfl ?_
                        have q25 := kk25 _ _ W50
                        rw [show (versF n x0 x1 x2 x3 x4) = (0 : Int32) from by rw [versF, if_neg hc26, if_pos hc27, if_neg hc28, if_neg hc30, if_neg hc31, if_neg hc42, if_neg hc43, if_neg hc48, if_neg hc49, if_pos hc51]] at q25
                        exact q25
                      · refine W50.1.ifNo (hb hby at_197) (XT.i0_eq_f hc51) (pc' := 200) rfl ?_
                        refine W50.1.iconst (1 : Int32) (hb hby at_200) rfl (pc' := 201) rfl ?_
                        refine W50.1.goto (hb hby at_201) (by decide) (pc' := 205) (by decide) ?_
                        have q25 := kk25 _ _ W50
                        rw [show (versF n x0 x1 x2 x3 x4) = (1 : Int32) from by rw [versF, if_neg hc26, if_pos hc27, if_neg hc28, if_neg hc30, if_neg hc31, if_neg hc42, if_neg hc43, if_neg hc48, if_neg hc49, if_neg hc51]] at q25
                        exact q25
      · refine W9.1.icmpYes (hb hby at_140) (XT.ii_ne_t hc27) (by decide) (pc' := 204) (by decide) ?_
        refine W9.1.iconst (0 : Int32) (hb hby at_204) rfl (pc' := 205) rfl ?_
        have q25 := kk25 _ _ W9
        rw [show (versF n x0 x1 x2 x3 x4) = (0 : Int32) from by rw [versF, if_neg hc26, if_neg hc27]] at q25
        exact q25
  intro T25 L25 W25
  refine lets (P := fun z => Go _ _ _ _ _ (mkF m 205 #[.val (.int p1), .val (.int p2), .val (.int p3), .val (.int p4), .val (.int p5), .val (.int p6), .val (.int n), .val (.int x0), .val (.int x1), .val (.int x2), .val (.int x3), .val (.int x4), .val (.ref a6), .val (.int b1), .unset, .unset] [(.int z)])) (versF n x0 x1 x2 x3 x4) ?_
  intro b2 hb2
  refine W25.1.istore (Ls' := #[.val (.int p1), .val (.int p2), .val (.int p3), .val (.int p4), .val (.int p5), .val (.int p6), .val (.int n), .val (.int x0), .val (.int x1), .val (.int x2), .val (.int x3), .val (.int x4), .val (.ref a6), .val (.int b1), .val (.int b2), .unset]) (hb hby at_205) rfl (pc' := 207) rfl ?_
  suffices kk52 : ∀ (T' : State) (L' : List Loc), WK consts_1 p l e room_1 s m #[(.int p1), (.int p2), (.int p3), (.int p4), (.int p5), (.int p6)] below meth c Z "com/example/web_api_rules/webapirules/description/CheckedPathIsResourceSegmentPinLaw" n0 h0 [] T' h6 vm6 L' 11 56 → Go p e below _ T' (mkF m 222 #[.val (.int p1), .val (.int p2), .val (.int p3), .val (.int p4), .val (.int p5), .val (.int p6), .val (.int n), .val (.int x0), .val (.int x1), .val (.int x2), .val (.int x3), .val (.int x4), .val (.ref a6), .val (.int b1), .val (.int b2), .unset] [(.int (exF b1 b2))]) by
    refine W25.1.iload (hb hby at_207) rfl (pc' := 209) rfl ?_
    by_cases hc53 : b1 = (0 : Int32)
    · refine W25.1.ifNo (hb hby at_209) (XT.i0_ne_f hc53) (pc' := 212) rfl ?_
      refine W25.1.iload (hb hby at_212) rfl (pc' := 214) rfl ?_
      by_cases hc54 : b2 = (0 : Int32)
      · refine W25.1.ifNo (hb hby at_214) (XT.i0_ne_f hc54) (pc' := 217) rfl ?_
        refine W25.1.iconst (1 : Int32) (hb hby at_217) rfl (pc' := 218) rfl ?_
        refine W25.1.goto (hb hby at_218) (by decide) (pc' := 222) (by decide) ?_
        have q52 := kk52 _ _ W25
        rw [show (exF b1 b2) = (1 : Int32) from by rw [exF, if_pos hc53, if_pos hc54]] at q52
        exact q52
      · refine W25.1.ifYes (hb hby at_214) (XT.i0_ne_t hc54) (by decide) (pc' := 221) (by decide) ?_
        refine W25.1.iconst (0 : Int32) (hb hby at_221) rfl (pc' := 222) rfl ?_
        have q52 := kk52 _ _ W25
        rw [show (exF b1 b2) = (0 : Int32) from by rw [exF, if_pos hc53, if_neg hc54]] at q52
        exact q52
    · refine W25.1.ifYes (hb hby at_209) (XT.i0_ne_t hc53) (by decide) (pc' := 221) (by decide) ?_
      refine W25.1.iconst (0 : Int32) (hb hby at_221) rfl (pc' := 222) rfl ?_
      have q52 := kk52 _ _ W25
      rw [show (exF b1 b2) = (0 : Int32) from by rw [exF, if_neg hc53]] at q52
      exact q52
  intro T52 L52 W52
  refine lets (P := fun z => Go _ _ _ _ _ (mkF m 222 #[.val (.int p1), .val (.int p2), .val (.int p3), .val (.int p4), .val (.int p5), .val (.int p6), .val (.int n), .val (.int x0), .val (.int x1), .val (.int x2), .val (.int x3), .val (.int x4), .val (.ref a6), .val (.int b1), .val (.int b2), .unset] [(.int z)])) (exF b1 b2) ?_
  intro b3 hb3
  refine W52.1.istore (Ls' := #[.val (.int p1), .val (.int p2), .val (.int p3), .val (.int p4), .val (.int p5), .val (.int p6), .val (.int n), .val (.int x0), .val (.int x1), .val (.int x2), .val (.int x3), .val (.int x4), .val (.ref a6), .val (.int b1), .val (.int b2), .val (.int b3)]) (hb hby at_222) rfl (pc' := 224) rfl ?_
  refine W52.1.aload (hb hby at_224) rfl rfl (pc' := 226) rfl ?_
  have X0_6_56 : Ext h0 h6 := Keep.toExt (((((((Keep.refl h0 []).trans K1 all0).trans K2 all0).trans K3 all0).trans K4 all0).trans K5 all0).trans K6 all0)
  have zX0_6_56 := X0_6_56.1
  have F57 := Sta.ext X0_6_56 SC
  refine W52.1.callVP (y := (⟨"java/lang/String", "length", "()I"⟩ : MethodName)) (z := (⟨"java/lang/String", "length", "()I"⟩ : MethodName)) (hw _ (List.mem_of_getElem? (i := 29) rfl)) (hw _ (List.mem_of_getElem? (i := 30) rfl)) (hw _ (List.mem_of_getElem? (i := 32) rfl)) (hw _ (List.mem_of_getElem? (i := 32) rfl)) (hw _ (List.mem_of_getElem? (i := 31) rfl)) (by decide) (StrA.lenB (wd := 0) S6 W52.1.2.2.2.1 hw (hw _ (List.mem_of_getElem? (i := 9) rfl)) F57 hz (by decide) (by decide)) S6.1 (hb hby at_226) (pc' := 229) rfl hml (argsL := []) rfl (lenOf pd_368a4b19 rfl) rfl (Nat.le_of_ble_eq_true rfl) (by decide) (by decide) (fun _ _ _ q => pu_nil q) ?_
  intro T55 L55 N55
  have W55 := W52.same N55
  show Go p e below _ T55 (mkF m 229 #[.val (.int p1), .val (.int p2), .val (.int p3), .val (.int p4), .val (.int p5), .val (.int p6), .val (.int n), .val (.int x0), .val (.int x1), .val (.int x2), .val (.int x3), .val (.int x4), .val (.ref a6), .val (.int b1), .val (.int b2), .val (.int b3)] [(.int (Int32.ofNat (makeF n x0 x1 x2 x3 x4).length))])
  refine W55.1.iload (hb hby at_229) rfl (pc' := 231) rfl ?_
  refine W55.1.icmpNo (hb hby at_231) (XT.ii_ne_f (make_len (rem_nat 6 7 (by decide) (by decide) (by decide) hn))) (pc' := 234) rfl ?_
  refine W55.1.aload (hb hby at_234) rfl rfl (pc' := 236) rfl ?_
  have F59 := Sta.ext X0_6_56 SF
  refine W55.1.callSP (hw _ (List.mem_of_getElem? (i := 40) rfl)) (hw _ (List.mem_of_getElem? (i := 41) rfl)) (hw _ (List.mem_of_getElem? (i := 42) rfl)) (hw _ (List.mem_of_getElem? (i := 43) rfl)) (by decide) (NM.bk (wd := 0) (rmR l Z a0 hw a6 (makeF n x0 x1 x2 x3 x4) zc fm h6 n0 W55.1.n0h S6 ML6 F57 hz F59 rfm) W55.1.2.2.2.1 (hw _ (List.mem_of_getElem? (i := 43) rfl)) (hw _ (List.mem_of_getElem? (i := 42) rfl)) (by decide) (by decide)) (hb hby at_236) (pc' := 239) rfl hml (argsL := [(.ref a6)]) rfl (lenOf pd_896d4e2b rfl) rfl (Nat.le_of_ble_eq_true rfl) (by decide) (by decide) (fun _ _ _ q => pu_of q) ?_
  intro T58 L58 N58
  have W58 := W55.same N58
  show Go p e below _ T58 (mkF m 239 #[.val (.int p1), .val (.int p2), .val (.int p3), .val (.int p4), .val (.int p5), .val (.int p6), .val (.int n), .val (.int x0), .val (.int x1), .val (.int x2), .val (.int x3), .val (.int x4), .val (.ref a6), .val (.int b1), .val (.int b2), .val (.int b3)] [(.int (rsF (makeF n x0 x1 x2 x3 x4)))])
  refine W58.1.iload (hb hby at_239) rfl (pc' := 241) rfl ?_
  refine W58.1.icmpNo (hb hby at_241) (XT.ii_ne_f (by rw [hb3, hb2, hb1]; exact law_eq (rem_nat 6 7 (by decide) (by decide) (by decide) hn))) (pc' := 244) rfl ?_
  refine W58.1.iconst (1 : Int32) (hb hby at_244) rfl (pc' := 245) rfl ?_
  refine W58.1.goto (hb hby at_245) (by decide) (pc' := 249) (by decide) ?_
  exact W58.retZ hEL hret (hb hby at_249) (by decide) (by decide) (by decide) ⟨rfl, trivial⟩
set_option maxRecDepth 65536 in
set_option maxHeartbeats 40000000 in
theorem comes_1 {Post : Tables → Env → Array Value → State → Outcome → State → Prop} (hpost : ∀ tb e args s v u, (limb_1_1.after args s (.returned v) u = true ∧ limb_1_2.after args s (.returned v) u = true) → ReturnedEndW s (.returned v) u (Jvm.fieldLocs frame_1_writes args s ++ Jvm.arrayLocs frame_1_arrays args s ++ Jvm.staticLocs frame_1_statics s) 32 1216 → Post tb e args s (.returned v) u) :
    ArmFor flags0 classFile x code maxLocals ret World_1 tables_1 room_1 Calls_1 rest_1 Pre_1 Post := by
  intro l hfl _ _ p e ha hc hk s m args below hf hA hF happ hP
  obtain ⟨hcalls, hrest, hpre⟩ := hP
  obtain ⟨-, -, -, hnamed, -, -, -, hat⟩ := (Spec.applies_iff hf).mp happ
  obtain ⟨hg, hn⟩ := and_e (Cond.before_iff.mp (show (Jvm.Cond.and given_1 narrow_1).before args s = true from hpre))
  obtain ⟨gA1, gB1⟩ := and_e hg
  obtain ⟨gA2, gB2⟩ := and_e gB1
  obtain ⟨gA3, gB3⟩ := and_e gB2
  obtain ⟨gA4, gB4⟩ := and_e gB3
  obtain ⟨gA5, gB5⟩ := and_e gB4
  obtain ⟨gA6, gB6⟩ := and_e gB5
  obtain ⟨w0, w1, w2, w3, w4, w5, rfl⟩ : ∃ w0 w1 w2 w3 w4 w5 : Value, args = #[w0, w1, w2, w3, w4, w5] := by
    have hs : args.size = 6 := by simpa [Cond.value, given_1] using gA1
    obtain ⟨L⟩ := args
    match L, hs with
    | [w0, w1, w2, w3, w4, w5], _ => exact ⟨w0, w1, w2, w3, w4, w5, rfl⟩
  have hw := fun d (hd : d ∈ tables_1) => atoms_spec (ws := Jvm.Cond.code x code maxLocals ret :: tables_1) hat d (List.mem_cons_of_mem _ hd)
  have hfit : Fit s := fun {y c} hc i hi => by
    obtain ⟨ha, rfl⟩ := Array.getElem?_eq_some_iff.mp hc
    have q := List.all_eq_true.mp ((Array.all_eq_true_iff_forall_mem.mp hF) _ (Array.getElem_mem ha)) i (List.mem_range.mpr hi)
    simpa [Array.getElem?_eq_getElem hi] using q
  obtain ⟨hsets, hown0⟩ := atoms_of _ (rest_1_c_eq ▸ (show rest_1_c.before _ s = true from hrest))
  have hr0 := Cond.before_iff.mp hown0
  obtain ⟨i0, ei0⟩ := is_v gA2
  obtain rfl : w0 = (.int i0) := Option.some.inj ei0
  obtain ⟨i1, ei1⟩ := is_v gA3
  obtain rfl : w1 = (.int i1) := Option.some.inj ei1
  obtain ⟨i2, ei2⟩ := is_v gA4
  obtain rfl : w2 = (.int i2) := Option.some.inj ei2
  obtain ⟨i3, ei3⟩ := is_v gA5
  obtain rfl : w3 = (.int i3) := Option.some.inj ei3
  obtain ⟨i4, ei4⟩ := is_v gA6
  obtain rfl : w4 = (.int i4) := Option.some.inj ei4
  obtain ⟨i5, ei5⟩ := is_v gB6
  obtain rfl : w5 = (.int i5) := Option.some.inj ei5
  have n5 := not_v (Cond.before_iff.mp (hsets _ (List.mem_of_getElem? (i := 2) rfl)))
  obtain ⟨zc, ezc⟩ := is_v (Cond.before_iff.mp (hsets _ (List.mem_of_getElem? (i := 1) rfl)))
  have SC : Sta s s.heap "java/lang/String" "COMPACT_STRINGS" "Z" (.int zc) := Sta.start ezc (Or.inl (hsets _ (List.mem_of_getElem? (i := 0) rfl)))
  have hz : ¬ (zc = (0 : Int32)) := gotF (Cond.eq_ints ezc (Term.int_eval (0))) n5
  obtain ⟨fm, efm, rfm⟩ := isR_v (Cond.before_iff.mp (hsets _ (List.mem_of_getElem? (i := 8) rfl)))
  have SF : Sta s s.heap "jdk/internal/util/Preconditions" "SIOOBE_FORMATTER" "Ljava/util/function/BiFunction;" fm := Sta.start efm (Or.inl (hsets _ (List.mem_of_getElem? (i := 7) rfl)))
  have hELs : EW s _ consts_1 := (EW.cons (hw _ (List.mem_of_getElem? (i := 21) rfl)) (by decide) EW.nil)
  have hCH : CHv s consts_1 s.vm s.heap := CHv.start hELs (fun q hq => constHeld_of (hcalls.1 q hq)) (hsets _ (List.mem_of_getElem? (i := 2) rfl)) (hw _ (List.mem_of_getElem? (i := 22) rfl)) (hw _ (List.mem_of_getElem? (i := 9) rfl))
  obtain ⟨n, o, h1, h2, h3, _, L, rfl, ⟨⟨rfl, -⟩, -, N⟩, -, hq⟩ := rmLaw l s _ hw hELs i0 i1 i2 i3 i4 i5 zc fm s.heap s.heap.size (Nat.le_refl _) SC hz SF rfm p e ha hc hk s m _ below hf ((Spec.applies_iff_loose hf).mp happ).1 ⟨rfl, State.Warmed39.refl s, rfl, hCH⟩ trivial
  exact ⟨n, _, h1, h2, h3, hpost _ _ _ _ _ _ ⟨Cond.after_iff.mpr rfl, Cond.after_iff.mpr (eq_i res_at (Term.int_eval (1)) rfl)⟩ ⟨hq.1, hq.2.1, hq.2.2.1, (hq.2.2.2.sift fun y hy => Or.inr (N y hy)).mono (by decide) (by decide)⟩⟩
theorem main_1_1 : Claimed_1_1 := comes_1 fun _ _ _ _ _ _ h hF => ⟨h.1, hF⟩
theorem main_1_2 : Claimed_1_2 := comes_1 fun _ _ _ _ _ _ h hF => ⟨h.2, hF⟩
end Jvm.Pilot.@@N@@
namespace Jvm.Pilot.@@N@@
open Jvm Jvm.ClassFile Sem Op Lib Jvm.Free Jvm.Stand Jvm.Pilot.@@N@@.Jvm.D
/-! MADE BY PROGRAM (witnessworld.py) out of the Statement's table words and the real class files: 20 classes; the members and pool entries that the words name. The judged class is class 1, her method 1. -/
namespace start1
open Jvm.ClassFile
def u (s : String) : CpInfo := .utf8 (stringToUtf16 s)
/-- a pool by its gaps: so many unusable entries, then the entry; so many at the end -/
def gap : Nat → List CpInfo → List CpInfo
  | 0, r => r
  | n + 1, r => .unusable :: gap n r
def poolList (es : List (Nat × CpInfo)) (last : Nat) : List CpInfo := es.foldr (fun e r => gap e.1 (e.2 :: r)) (gap last [])
def pool (es : List (Nat × CpInfo)) (last : Nat) : Array CpInfo := ⟨poolList es last⟩
def fileOf (pool : Array CpInfo) (this : Nat) (attrs : Array Attribute := #[]) (ms : Array MethodInfo := #[]) (fl : Nat := 33) (sup : Nat := 0) (ifs : Array Nat := #[]) (fds : Array FieldInfo := #[]) : ClassFile where
  minorVersion := 0
  majorVersion := 65
  constantPool := pool
  accessFlags := fl
  thisClass := this
  superClass := sup
  interfaces := ifs
  fields := fds
  methods := ms
  attributes := attrs
def plain (name : String) (sup : Option ClassId) : Class where
  name := name
  kind := .ordinary
  loader := none
  accessFlags := 33
  super := sup
  interfaces := #[]
  cf := none
  fields := #[]
  methods := #[]
  instanceTypes := #[]
  staticTypes := #[]
  resolved := #[]
  callSites := []
  init := .initialized
  statics := none
  mirror := none

def pool0 : Array CpInfo := pool [(5, u "<init>"), (0, u "()V"), (1, .class_ 10), (1, u "java/lang/Object")] 113

def k0c0 : Code := { maxStack := 0, maxLocals := 1, code := object_method_1_code, exceptionTable := #[], attributes := #[] }
def k0m0 : Method := { name := "<init>", desc := "()V", sig := { parameters := [], returnType := none }, accessFlags := 1, code := some k0c0 }
/-- java/lang/Object -/
def k0 : Class := { plain "java/lang/Object" none with
  accessFlags := 33
  interfaces := #[]
  cf := some (fileOf pool0 8 #[] #[{ accessFlags := 1, nameIndex := 5, descriptorIndex := 6, attributes := #[] }] 33 0 #[] #[])
  fields := #[]
  methods := #[k0m0]
  instanceTypes := #[]
  staticTypes := #[]
  resolved := Array.replicate 124 none
  statics := none }

def pool1 : Array CpInfo := pool [(2, .class_ 4), (1, u "java/lang/Object"), (0, u "<init>"), (0, u "()V"), (0, .methodref 8 9), (0, .class_ 10), (0, .nameAndType 11 12), (0, u "com/example/web_api_rules/webapirules/description/CheckedPathIsResourceSegmentPinLaw"), (0, u "ch"), (0, u "(I)C"), (0, .methodref 8 14), (0, .nameAndType 15 16), (0, u "make"), (0, u "(ICCCCC)Ljava/lang/String;"), (0, .methodref 8 18), (0, .nameAndType 19 20), (0, u "last"), (0, u "(ICCC)C"), (0, .methodref 8 22), (0, .nameAndType 23 24), (0, u "noBrace"), (0, u "(C)Z"), (0, .methodref 8 26), (0, .nameAndType 27 24), (0, u "dig"), (0, .methodref 29 30), (0, .class_ 31), (0, .nameAndType 32 33), (0, u "java/lang/String"), (0, u "length"), (0, u "()I"), (0, .methodref 35 36), (0, .class_ 37), (0, .nameAndType 38 39), (0, u "com/example/web_api_rules/webapirules/description/CheckedPath"), (0, u "isResourceSegment"), (0, u "(Ljava/lang/String;)Z"), (0, .methodref 29 41), (0, .nameAndType 5 42), (0, u "([C)V"), (2, u "law"), (0, u "(IIIIII)Z")] 3

def k1m0 : Method := { name := "<init>", desc := "()V", sig := { parameters := [], returnType := none }, accessFlags := 1, code := none }
def k1c1 : Code := { maxStack := 6, maxLocals := 16, code := code, exceptionTable := #[], attributes := #[] }
def k1m1 : Method := { name := "law", desc := "(IIIIII)Z", sig := { parameters := [.int, .int, .int, .int, .int, .int], returnType := some .boolean }, accessFlags := 9, code := some k1c1 }
def k1c2 : Code := { maxStack := 4, maxLocals := 3, code := method_3_code, exceptionTable := #[], attributes := #[] }
def k1m2 : Method := { name := "ch", desc := "(I)C", sig := { parameters := [.int], returnType := some .char }, accessFlags := 10, code := some k1c2 }
def k1c3 : Code := { maxStack := 6, maxLocals := 6, code := method_4_code, exceptionTable := #[], attributes := #[] }
def k1m3 : Method := { name := "make", desc := "(ICCCCC)Ljava/lang/String;", sig := { parameters := [.int, .char, .char, .char, .char, .char], returnType := some (.object "java/lang/String") }, accessFlags := 10, code := some k1c3 }
def k1c4 : Code := { maxStack := 2, maxLocals := 4, code := method_5_code, exceptionTable := #[], attributes := #[] }
def k1m4 : Method := { name := "last", desc := "(ICCC)C", sig := { parameters := [.int, .char, .char, .char], returnType := some .char }, accessFlags := 10, code := some k1c4 }
def k1c5 : Code := { maxStack := 2, maxLocals := 1, code := method_6_code, exceptionTable := #[], attributes := #[] }
def k1m5 : Method := { name := "noBrace", desc := "(C)Z", sig := { parameters := [.char], returnType := some .boolean }, accessFlags := 10, code := some k1c5 }
def k1c6 : Code := { maxStack := 2, maxLocals := 1, code := method_7_code, exceptionTable := #[], attributes := #[] }
def k1m6 : Method := { name := "dig", desc := "(C)Z", sig := { parameters := [.char], returnType := some .boolean }, accessFlags := 10, code := some k1c6 }
/-- com/example/web_api_rules/webapirules/description/CheckedPathIsResourceSegmentPinLaw -/
def k1 : Class := { plain "com/example/web_api_rules/webapirules/description/CheckedPathIsResourceSegmentPinLaw" (some 0) with
  accessFlags := 49
  interfaces := #[]
  cf := some (fileOf pool1 8 #[] #[{ accessFlags := 1, nameIndex := 5, descriptorIndex := 6, attributes := #[] }, { accessFlags := 9, nameIndex := 45, descriptorIndex := 46, attributes := #[] }, { accessFlags := 10, nameIndex := 11, descriptorIndex := 12, attributes := #[] }, { accessFlags := 10, nameIndex := 15, descriptorIndex := 16, attributes := #[] }, { accessFlags := 10, nameIndex := 19, descriptorIndex := 20, attributes := #[] }, { accessFlags := 10, nameIndex := 23, descriptorIndex := 24, attributes := #[] }, { accessFlags := 10, nameIndex := 27, descriptorIndex := 24, attributes := #[] }] 49 2 #[] #[])
  fields := #[]
  methods := #[k1m0, k1m1, k1m2, k1m3, k1m4, k1m5, k1m6]
  instanceTypes := #[]
  staticTypes := #[]
  resolved := Array.replicate 50 none
  statics := none }

def pool2 : Array CpInfo := pool [(1, .class_ 2), (0, u "java/io/Serializable"), (0, .class_ 4), (0, u "java/lang/Object")] 2

/-- java/io/Serializable -/
def k2 : Class := { plain "java/io/Serializable" (some 0) with
  accessFlags := 1537
  interfaces := #[]
  cf := some (fileOf pool2 1 #[] #[] 1537 3 #[] #[])
  fields := #[]
  methods := #[]
  instanceTypes := #[]
  staticTypes := #[]
  resolved := Array.replicate 7 none
  statics := none }

def pool3 : Array CpInfo := pool [(1, .class_ 2), (0, u "java/lang/Comparable"), (0, .class_ 4), (0, u "java/lang/Object")] 7

/-- java/lang/Comparable -/
def k3 : Class := { plain "java/lang/Comparable" (some 0) with
  accessFlags := 1537
  interfaces := #[]
  cf := some (fileOf pool3 1 #[] #[] 1537 3 #[] #[])
  fields := #[]
  methods := #[]
  instanceTypes := #[]
  staticTypes := #[]
  resolved := Array.replicate 12 none
  statics := none }

def pool4 : Array CpInfo := pool [(2, .class_ 4), (1, u "java/lang/CharSequence"), (42, .class_ 48), (0, u "java/lang/CharSequence$1CodePointIterator"), (10, .class_ 60), (0, u "java/lang/CharSequence$1CharIterator"), (5, .class_ 67), (0, u "java/lang/Object")] 63

/-- java/lang/CharSequence -/
def k4 : Class := { plain "java/lang/CharSequence" (some 0) with
  accessFlags := 1537
  interfaces := #[]
  cf := some (fileOf pool4 2 #[.nestMembers #[47, 59]] #[] 1537 66 #[] #[])
  fields := #[]
  methods := #[]
  instanceTypes := #[]
  staticTypes := #[]
  resolved := Array.replicate 131 none
  statics := none }

def pool5 : Array CpInfo := pool [(1, .class_ 2), (0, u "java/lang/constant/Constable"), (0, .class_ 4), (0, u "java/lang/Object")] 6

/-- java/lang/constant/Constable -/
def k5 : Class := { plain "java/lang/constant/Constable" (some 0) with
  accessFlags := 1537
  interfaces := #[]
  cf := some (fileOf pool5 1 #[] #[] 1537 3 #[] #[])
  fields := #[]
  methods := #[]
  instanceTypes := #[]
  staticTypes := #[]
  resolved := Array.replicate 11 none
  statics := none }

def pool6 : Array CpInfo := pool [(1, .class_ 2), (0, u "java/lang/constant/ConstantDesc"), (0, .class_ 4), (0, u "java/lang/Object")] 32

/-- java/lang/constant/ConstantDesc -/
def k6 : Class := { plain "java/lang/constant/ConstantDesc" (some 0) with
  accessFlags := 1537
  interfaces := #[]
  cf := some (fileOf pool6 1 #[] #[] 1537 3 #[] #[])
  fields := #[]
  methods := #[]
  instanceTypes := #[]
  staticTypes := #[]
  resolved := Array.replicate 37 none
  statics := none }

def pool7 : Array CpInfo := pool [(1, .methodref 2 3), (0, .class_ 4), (0, .nameAndType 5 6), (0, u "java/lang/Object"), (0, u "<init>"), (0, u "()V"), (0, .string 8), (0, u ""), (0, .fieldref 10 11), (0, .class_ 12), (0, .nameAndType 13 14), (0, u "java/lang/String"), (0, u "value"), (0, u "[B"), (0, .fieldref 10 16), (0, .nameAndType 17 18), (0, u "coder"), (0, u "B"), (2, u "hash"), (0, u "I"), (2, u "hashIsZero"), (0, u "Z"), (0, .methodref 10 28), (0, .nameAndType 5 29), (0, u "([CIILjava/lang/Void;)V"), (8, .fieldref 10 39), (0, .nameAndType 40 26), (0, u "COMPACT_STRINGS"), (1, .class_ 44), (1, u "java/lang/StringUTF16"), (0, u "compress"), (1, .methodref 42 48), (0, .nameAndType 49 50), (0, u "coderFromArrayLen"), (0, u "([BI)B"), (56, .class_ 109), (1, u "java/lang/StringLatin1"), (32, u "()Z"), (34, .methodref 42 178), (0, .nameAndType 45 179), (0, u "([CII)[B"), (154, u "()I"), (0, .methodref 10 336), (0, .nameAndType 17 337), (0, u "()B"), (25, u "([BI)C"), (27, u "(II)V"), (35, u "(I)C"), (64, .methodref 10 493), (0, .nameAndType 494 142), (0, u "isLatin1"), (0, .methodref 107 496), (0, .nameAndType 497 363), (0, u "charAt"), (3, u "checkIndex"), (5, u "length"), (67, .class_ 576), (0, u "java/lang/CharSequence"), (22, u "CASE_INSENSITIVE_ORDER"), (0, u "Ljava/util/Comparator;"), (409, u "([C)V"), (42, .fieldref 1054 1055), (0, .class_ 1056), (0, .nameAndType 1057 1058), (0, u "jdk/internal/util/Preconditions"), (0, u "SIOOBE_FORMATTER"), (0, u "Ljava/util/function/BiFunction;"), (0, .methodref 1054 1060), (0, .nameAndType 501 1061), (0, u "(IILjava/util/function/BiFunction;)I"), (39, u "serialPersistentFields"), (0, u "[Ljava/io/ObjectStreamField;"), (0, .class_ 1104), (0, u "java/lang/String$CaseInsensitiveComparator"), (1, .class_ 1107), (0, u "java/io/Serializable"), (0, .class_ 1109), (0, u "java/lang/Comparable"), (0, .class_ 1111), (0, u "java/lang/constant/Constable"), (0, .class_ 1113), (0, u "java/lang/constant/ConstantDesc"), (2, u "serialVersionUID"), (0, u "J"), (3, u "REPL"), (0, u "C"), (2, u "LATIN1"), (1, u "UTF16")] 323

def k7m0 : Method := { name := "<init>", desc := "()V", sig := { parameters := [], returnType := none }, accessFlags := 1, code := none }
def k7c1 : Code := { maxStack := 5, maxLocals := 2, code := jdk_42_method_3_code, exceptionTable := #[], attributes := #[] }
def k7m1 : Method := { name := "<init>", desc := "([C)V", sig := { parameters := [(.array .char)], returnType := none }, accessFlags := 1, code := some k7c1 }
def k7c2 : Code := { maxStack := 2, maxLocals := 1, code := jdk_42_method_54_code, exceptionTable := #[], attributes := #[] }
def k7m2 : Method := { name := "length", desc := "()I", sig := { parameters := [], returnType := some .int }, accessFlags := 1, code := some k7c2 }
def k7c3 : Code := { maxStack := 2, maxLocals := 2, code := jdk_42_method_56_code, exceptionTable := #[], attributes := #[] }
def k7m3 : Method := { name := "charAt", desc := "(I)C", sig := { parameters := [.int], returnType := some .char }, accessFlags := 1, code := some k7c3 }
def k7c4 : Code := { maxStack := 4, maxLocals := 6, code := jdk_42_method_149_code, exceptionTable := #[], attributes := #[] }
def k7m4 : Method := { name := "<init>", desc := "([CIILjava/lang/Void;)V", sig := { parameters := [(.array .char), .int, .int, (.object "java/lang/Void")], returnType := none }, accessFlags := 2, code := some k7c4 }
def k7c5 : Code := { maxStack := 1, maxLocals := 1, code := jdk_42_method_152_code, exceptionTable := #[], attributes := #[] }
def k7m5 : Method := { name := "coder", desc := "()B", sig := { parameters := [], returnType := some .byte }, accessFlags := 0, code := some k7c5 }
def k7c6 : Code := { maxStack := 1, maxLocals := 1, code := jdk_42_method_154_code, exceptionTable := #[], attributes := #[] }
def k7m6 : Method := { name := "isLatin1", desc := "()Z", sig := { parameters := [], returnType := some .boolean }, accessFlags := 0, code := some k7c6 }
def k7c7 : Code := { maxStack := 3, maxLocals := 2, code := jdk_42_method_155_code, exceptionTable := #[], attributes := #[] }
def k7m7 : Method := { name := "checkIndex", desc := "(II)V", sig := { parameters := [.int, .int], returnType := none }, accessFlags := 8, code := some k7c7 }
/-- java/lang/String -/
def k7 : Class := { plain "java/lang/String" (some 0) with
  accessFlags := 49
  interfaces := #[2, 3, 4, 5, 6]
  cf := some (fileOf pool7 10 #[.nestMembers #[1103]] #[{ accessFlags := 1, nameIndex := 5, descriptorIndex := 6, attributes := #[] }, { accessFlags := 1, nameIndex := 5, descriptorIndex := 1010, attributes := #[] }, { accessFlags := 1, nameIndex := 507, descriptorIndex := 334, attributes := #[] }, { accessFlags := 1, nameIndex := 497, descriptorIndex := 427, attributes := #[] }, { accessFlags := 2, nameIndex := 5, descriptorIndex := 29, attributes := #[] }, { accessFlags := 0, nameIndex := 17, descriptorIndex := 337, attributes := #[] }, { accessFlags := 0, nameIndex := 494, descriptorIndex := 142, attributes := #[] }, { accessFlags := 8, nameIndex := 501, descriptorIndex := 391, attributes := #[] }] 49 2 #[1106, 1108, 575, 1110, 1112] #[{ accessFlags := 18, nameIndex := 13, descriptorIndex := 14, attributes := #[] }, { accessFlags := 18, nameIndex := 17, descriptorIndex := 18, attributes := #[] }, { accessFlags := 2, nameIndex := 21, descriptorIndex := 22, attributes := #[] }, { accessFlags := 2, nameIndex := 25, descriptorIndex := 26, attributes := #[] }, { accessFlags := 26, nameIndex := 1116, descriptorIndex := 1117, attributes := #[] }, { accessFlags := 24, nameIndex := 40, descriptorIndex := 26, attributes := #[] }, { accessFlags := 26, nameIndex := 1101, descriptorIndex := 1102, attributes := #[] }, { accessFlags := 26, nameIndex := 1121, descriptorIndex := 1122, attributes := #[] }, { accessFlags := 25, nameIndex := 599, descriptorIndex := 600, attributes := #[] }, { accessFlags := 24, nameIndex := 1125, descriptorIndex := 18, attributes := #[] }, { accessFlags := 24, nameIndex := 1127, descriptorIndex := 18, attributes := #[] }])
  fields := #[{ name := "value", type := (.array .byte), accessFlags := 18, slot := 0, constantValue := 0 }, { name := "coder", type := .byte, accessFlags := 18, slot := 1, constantValue := 0 }, { name := "hash", type := .int, accessFlags := 2, slot := 2, constantValue := 0 }, { name := "hashIsZero", type := .boolean, accessFlags := 2, slot := 3, constantValue := 0 }, { name := "serialVersionUID", type := .long, accessFlags := 26, slot := 0, constantValue := 0 }, { name := "COMPACT_STRINGS", type := .boolean, accessFlags := 24, slot := 1, constantValue := 0 }, { name := "serialPersistentFields", type := (.array (.object "java/io/ObjectStreamField")), accessFlags := 26, slot := 2, constantValue := 0 }, { name := "REPL", type := .char, accessFlags := 26, slot := 3, constantValue := 0 }, { name := "CASE_INSENSITIVE_ORDER", type := (.object "java/util/Comparator"), accessFlags := 25, slot := 4, constantValue := 0 }, { name := "LATIN1", type := .byte, accessFlags := 24, slot := 5, constantValue := 0 }, { name := "UTF16", type := .byte, accessFlags := 24, slot := 6, constantValue := 0 }]
  methods := #[k7m0, k7m1, k7m2, k7m3, k7m4, k7m5, k7m6, k7m7]
  instanceTypes := #[(.array .byte), .byte, .int, .boolean]
  staticTypes := #[.long, .boolean, (.array (.object "java/io/ObjectStreamField")), .char, (.object "java/util/Comparator"), .byte, .byte]
  resolved := Array.replicate 1451 none
  statics := some 0 }

def pool8 : Array CpInfo := pool [(2, .class_ 4), (1, u "java/lang/Object"), (3, .class_ 10), (1, u "java/lang/String"), (7, .class_ 20), (1, u "com/example/web_api_rules/webapirules/description/CheckedPath"), (0, u "segments"), (18, u "text"), (0, u "Ljava/lang/String;"), (2, u "keyPath"), (6, u "Ljava/util/List;"), (2, u "versionEnd"), (3, u "I"), (3, u "()I"), (2, u "keyStart"), (0, .methodref 8 67), (0, .nameAndType 68 62), (0, u "length"), (0, .methodref 8 70), (0, .nameAndType 71 72), (0, u "charAt"), (0, u "(I)C"), (0, .methodref 18 74), (0, .nameAndType 75 76), (0, u "isDigit"), (0, u "(C)Z"), (0, .methodref 18 78), (0, .nameAndType 79 80), (0, u "isParameter"), (0, u "(Ljava/lang/String;)Z"), (0, .methodref 18 82), (0, .nameAndType 83 80), (0, u "isVersion"), (77, u "isResourceSegment")] 89

def k8c0 : Code := { maxStack := 2, maxLocals := 4, code := prog_6_method_2_code, exceptionTable := #[], attributes := #[] }
def k8m0 : Method := { name := "isParameter", desc := "(Ljava/lang/String;)Z", sig := { parameters := [(.object "java/lang/String")], returnType := some .boolean }, accessFlags := 9, code := some k8c0 }
def k8c1 : Code := { maxStack := 1, maxLocals := 1, code := prog_6_method_4_code, exceptionTable := #[], attributes := #[] }
def k8m1 : Method := { name := "isResourceSegment", desc := "(Ljava/lang/String;)Z", sig := { parameters := [(.object "java/lang/String")], returnType := some .boolean }, accessFlags := 9, code := some k8c1 }
def k8c2 : Code := { maxStack := 2, maxLocals := 2, code := prog_6_method_14_code, exceptionTable := #[], attributes := #[] }
def k8m2 : Method := { name := "isVersion", desc := "(Ljava/lang/String;)Z", sig := { parameters := [(.object "java/lang/String")], returnType := some .boolean }, accessFlags := 10, code := some k8c2 }
def k8c3 : Code := { maxStack := 2, maxLocals := 1, code := prog_6_method_15_code, exceptionTable := #[], attributes := #[] }
def k8m3 : Method := { name := "isDigit", desc := "(C)Z", sig := { parameters := [.char], returnType := some .boolean }, accessFlags := 10, code := some k8c3 }
/-- com/example/web_api_rules/webapirules/description/CheckedPath -/
def k8 : Class := { plain "com/example/web_api_rules/webapirules/description/CheckedPath" (some 0) with
  accessFlags := 33
  interfaces := #[]
  cf := some (fileOf pool8 18 #[] #[{ accessFlags := 9, nameIndex := 79, descriptorIndex := 80, attributes := #[] }, { accessFlags := 9, nameIndex := 161, descriptorIndex := 80, attributes := #[] }, { accessFlags := 10, nameIndex := 83, descriptorIndex := 80, attributes := #[] }, { accessFlags := 10, nameIndex := 75, descriptorIndex := 76, attributes := #[] }] 33 2 #[] #[{ accessFlags := 18, nameIndex := 40, descriptorIndex := 41, attributes := #[] }, { accessFlags := 18, nameIndex := 44, descriptorIndex := 41, attributes := #[] }, { accessFlags := 18, nameIndex := 21, descriptorIndex := 51, attributes := #[] }, { accessFlags := 18, nameIndex := 54, descriptorIndex := 58, attributes := #[] }, { accessFlags := 18, nameIndex := 65, descriptorIndex := 58, attributes := #[] }])
  fields := #[{ name := "text", type := (.object "java/lang/String"), accessFlags := 18, slot := 0, constantValue := 0 }, { name := "keyPath", type := (.object "java/lang/String"), accessFlags := 18, slot := 1, constantValue := 0 }, { name := "segments", type := (.object "java/util/List"), accessFlags := 18, slot := 2, constantValue := 0 }, { name := "versionEnd", type := .int, accessFlags := 18, slot := 3, constantValue := 0 }, { name := "keyStart", type := .int, accessFlags := 18, slot := 4, constantValue := 0 }]
  methods := #[k8m0, k8m1, k8m2, k8m3]
  instanceTypes := #[(.object "java/lang/String"), (.object "java/lang/String"), (.object "java/util/List"), .int, .int]
  staticTypes := #[]
  resolved := Array.replicate 251 none
  statics := none }

def pool9 : Array CpInfo := pool [(6, .class_ 8), (1, u "java/lang/Object"), (0, u "<init>"), (0, u "()V"), (1, .class_ 14), (1, u "java/lang/StringUTF16"), (31, u "$assertionsDisabled"), (0, u "Z"), (13, u "HI_BYTE_SHIFT"), (0, u "I"), (2, u "LO_BYTE_SHIFT"), (49, .methodref 12 116), (0, .nameAndType 117 118), (0, u "compress"), (0, u "([CI[BII)I"), (3, u "([CII)[B"), (138, u "coderFromArrayLen"), (0, u "([BI)B"), (106, .class_ 371), (1, u "java/lang/StringUTF16$LinesSpliterator"), (58, u "MAX_LENGTH"), (196, .class_ 628), (0, u "java/lang/StringUTF16$CodePointsSpliterator"), (0, .class_ 630), (0, u "java/lang/StringUTF16$CharsSpliterator")] 4

def k9m0 : Method := { name := "<init>", desc := "()V", sig := { parameters := [], returnType := none }, accessFlags := 0, code := none }
def k9c1 : Code := { maxStack := 2, maxLocals := 2, code := jdk_52_method_15_code, exceptionTable := #[], attributes := #[] }
def k9m1 : Method := { name := "coderFromArrayLen", desc := "([BI)B", sig := { parameters := [(.array .byte), .int], returnType := some .byte }, accessFlags := 8, code := some k9c1 }
def k9c2 : Code := { maxStack := 5, maxLocals := 6, code := jdk_52_method_16_code, exceptionTable := #[], attributes := #[] }
def k9m2 : Method := { name := "compress", desc := "([CII)[B", sig := { parameters := [(.array .char), .int, .int], returnType := some (.array .byte) }, accessFlags := 9, code := some k9c2 }
def k9c3 : Code := { maxStack := 3, maxLocals := 7, code := jdk_52_method_21_code, exceptionTable := #[], attributes := #[] }
def k9m3 : Method := { name := "compress", desc := "([CI[BII)I", sig := { parameters := [(.array .char), .int, (.array .byte), .int, .int], returnType := some .int }, accessFlags := 9, code := some k9c3 }
/-- java/lang/StringUTF16 -/
def k9 : Class := { plain "java/lang/StringUTF16" (some 0) with
  accessFlags := 48
  interfaces := #[]
  cf := some (fileOf pool9 12 #[.nestMembers #[627, 629, 369]] #[{ accessFlags := 0, nameIndex := 9, descriptorIndex := 10, attributes := #[] }, { accessFlags := 8, nameIndex := 261, descriptorIndex := 262, attributes := #[] }, { accessFlags := 9, nameIndex := 117, descriptorIndex := 122, attributes := #[] }, { accessFlags := 9, nameIndex := 117, descriptorIndex := 118, attributes := #[] }] 48 6 #[] #[{ accessFlags := 26, nameIndex := 61, descriptorIndex := 62, attributes := #[] }, { accessFlags := 26, nameIndex := 65, descriptorIndex := 62, attributes := #[] }, { accessFlags := 24, nameIndex := 430, descriptorIndex := 62, attributes := #[] }, { accessFlags := 4120, nameIndex := 46, descriptorIndex := 47, attributes := #[] }])
  fields := #[{ name := "HI_BYTE_SHIFT", type := .int, accessFlags := 26, slot := 0, constantValue := 0 }, { name := "LO_BYTE_SHIFT", type := .int, accessFlags := 26, slot := 1, constantValue := 0 }, { name := "MAX_LENGTH", type := .int, accessFlags := 24, slot := 2, constantValue := 0 }, { name := "$assertionsDisabled", type := .boolean, accessFlags := 4120, slot := 3, constantValue := 0 }]
  methods := #[k9m0, k9m1, k9m2, k9m3]
  instanceTypes := #[]
  staticTypes := #[.int, .int, .int, .boolean]
  resolved := Array.replicate 635 none
  statics := none }

def pool10 : Array CpInfo := pool [(1, .class_ 2), (0, u "java/lang/String"), (1, .class_ 6), (1, u "java/lang/Object"), (0, u "<init>"), (0, u "()V"), (0, .methodref 1 10), (0, .nameAndType 11 12), (0, u "checkIndex"), (0, u "(II)V"), (1, .class_ 16), (1, u "java/lang/StringLatin1"), (36, u "([BI)C"), (67, u "$assertionsDisabled"), (0, u "Z"), (98, .class_ 223), (1, u "java/lang/StringLatin1$LinesSpliterator"), (28, u "charAt"), (137, .class_ 391), (0, u "java/lang/StringLatin1$CharsSpliterator")] 3

def k10m0 : Method := { name := "<init>", desc := "()V", sig := { parameters := [], returnType := none }, accessFlags := 0, code := none }
def k10c1 : Code := { maxStack := 2, maxLocals := 2, code := jdk_43_method_2_code, exceptionTable := #[], attributes := #[] }
def k10m1 : Method := { name := "charAt", desc := "([BI)C", sig := { parameters := [(.array .byte), .int], returnType := some .char }, accessFlags := 9, code := some k10c1 }
/-- java/lang/StringLatin1 -/
def k10 : Class := { plain "java/lang/StringLatin1" (some 0) with
  accessFlags := 48
  interfaces := #[]
  cf := some (fileOf pool10 14 #[.nestMembers #[390, 221]] #[{ accessFlags := 0, nameIndex := 7, descriptorIndex := 8, attributes := #[] }, { accessFlags := 9, nameIndex := 252, descriptorIndex := 53, attributes := #[] }] 48 4 #[] #[{ accessFlags := 4120, nameIndex := 121, descriptorIndex := 122, attributes := #[] }])
  fields := #[{ name := "$assertionsDisabled", type := .boolean, accessFlags := 4120, slot := 0, constantValue := 0 }]
  methods := #[k10m0, k10m1]
  instanceTypes := #[]
  staticTypes := #[.boolean]
  resolved := Array.replicate 395 none
  statics := none }

def pool11 : Array CpInfo := pool [(2, .class_ 4), (1, u "java/lang/Object"), (0, u "<init>"), (0, u "()V"), (17, .class_ 26), (1, u "jdk/internal/util/Preconditions"), (6, u "checkIndex"), (21, .class_ 56), (0, u "jdk/internal/util/Preconditions$4"), (57, .class_ 115), (0, u "jdk/internal/util/Preconditions$1"), (7, u "SIOOBE_FORMATTER"), (0, u "Ljava/util/function/BiFunction;"), (0, .class_ 126), (0, u "jdk/internal/util/Preconditions$2"), (3, u "AIOOBE_FORMATTER"), (0, .class_ 132), (0, u "jdk/internal/util/Preconditions$3"), (3, u "IOOBE_FORMATTER"), (41, u "(IILjava/util/function/BiFunction;)I")] 15

def k11m0 : Method := { name := "<init>", desc := "()V", sig := { parameters := [], returnType := none }, accessFlags := 1, code := none }
def k11c1 : Code := { maxStack := 3, maxLocals := 3, code := jdk_41_method_11_code, exceptionTable := #[], attributes := #[] }
def k11m1 : Method := { name := "checkIndex", desc := "(IILjava/util/function/BiFunction;)I", sig := { parameters := [.int, .int, (.object "java/util/function/BiFunction")], returnType := some .int }, accessFlags := 9, code := some k11c1 }
/-- jdk/internal/util/Preconditions -/
def k11 : Class := { plain "jdk/internal/util/Preconditions" (some 0) with
  accessFlags := 33
  interfaces := #[]
  cf := some (fileOf pool11 24 #[.nestMembers #[55, 131, 125, 114]] #[{ accessFlags := 1, nameIndex := 5, descriptorIndex := 6, attributes := #[] }, { accessFlags := 9, nameIndex := 33, descriptorIndex := 178, attributes := #[] }] 33 2 #[] #[{ accessFlags := 25, nameIndex := 123, descriptorIndex := 124, attributes := #[] }, { accessFlags := 25, nameIndex := 130, descriptorIndex := 124, attributes := #[] }, { accessFlags := 25, nameIndex := 136, descriptorIndex := 124, attributes := #[] }])
  fields := #[{ name := "SIOOBE_FORMATTER", type := (.object "java/util/function/BiFunction"), accessFlags := 25, slot := 0, constantValue := 0 }, { name := "AIOOBE_FORMATTER", type := (.object "java/util/function/BiFunction"), accessFlags := 25, slot := 1, constantValue := 0 }, { name := "IOOBE_FORMATTER", type := (.object "java/util/function/BiFunction"), accessFlags := 25, slot := 2, constantValue := 0 }]
  methods := #[k11m0, k11m1]
  instanceTypes := #[]
  staticTypes := #[(.object "java/util/function/BiFunction"), (.object "java/util/function/BiFunction"), (.object "java/util/function/BiFunction")]
  resolved := Array.replicate 194 none
  statics := some 1 }

def pool12 : Array CpInfo := pool [(9, u "<init>"), (6, .class_ 18), (1, u "java/lang/Object"), (0, u "()V"), (1, .class_ 23), (1, u "jdk/internal/util/ArraysSupport"), (0, u "LOG2_ARRAY_LONG_INDEX_SCALE"), (0, u "I"), (2, u "U"), (0, u "Ljdk/internal/misc/Unsafe;"), (8, u "BIG_ENDIAN"), (0, u "Z"), (8, u "LOG2_BYTE_BIT_SIZE"), (4, u "LOG2_ARRAY_INT_INDEX_SCALE"), (54, u "JLA"), (0, u "Ljdk/internal/access/JavaLangAccess;"), (11, u "LOG2_ARRAY_BOOLEAN_INDEX_SCALE"), (9, u "LOG2_ARRAY_BYTE_INDEX_SCALE"), (5, u "LOG2_ARRAY_CHAR_INDEX_SCALE"), (5, u "LOG2_ARRAY_SHORT_INDEX_SCALE"), (18, u "LOG2_ARRAY_FLOAT_INDEX_SCALE"), (24, u "LOG2_ARRAY_DOUBLE_INDEX_SCALE"), (89, u "T_BOOLEAN"), (2, u "T_CHAR"), (1, u "T_FLOAT"), (1, u "T_DOUBLE"), (1, u "T_BYTE"), (1, u "T_SHORT"), (1, u "T_INT"), (1, u "T_LONG"), (1, u "SOFT_MAX_ARRAY_LENGTH")] 83

def k12m0 : Method := { name := "<init>", desc := "()V", sig := { parameters := [], returnType := none }, accessFlags := 2, code := none }
/-- jdk/internal/util/ArraysSupport -/
def k12 : Class := { plain "jdk/internal/util/ArraysSupport" (some 0) with
  accessFlags := 33
  interfaces := #[]
  cf := some (fileOf pool12 21 #[] #[{ accessFlags := 2, nameIndex := 9, descriptorIndex := 19, attributes := #[] }] 33 16 #[] #[{ accessFlags := 24, nameIndex := 28, descriptorIndex := 29, attributes := #[] }, { accessFlags := 26, nameIndex := 38, descriptorIndex := 39, attributes := #[] }, { accessFlags := 25, nameIndex := 121, descriptorIndex := 25, attributes := #[] }, { accessFlags := 25, nameIndex := 131, descriptorIndex := 25, attributes := #[] }, { accessFlags := 25, nameIndex := 137, descriptorIndex := 25, attributes := #[] }, { accessFlags := 25, nameIndex := 143, descriptorIndex := 25, attributes := #[] }, { accessFlags := 25, nameIndex := 53, descriptorIndex := 25, attributes := #[] }, { accessFlags := 25, nameIndex := 24, descriptorIndex := 25, attributes := #[] }, { accessFlags := 25, nameIndex := 162, descriptorIndex := 25, attributes := #[] }, { accessFlags := 25, nameIndex := 187, descriptorIndex := 25, attributes := #[] }, { accessFlags := 26, nameIndex := 48, descriptorIndex := 25, attributes := #[] }, { accessFlags := 25, nameIndex := 277, descriptorIndex := 25, attributes := #[] }, { accessFlags := 25, nameIndex := 280, descriptorIndex := 25, attributes := #[] }, { accessFlags := 25, nameIndex := 282, descriptorIndex := 25, attributes := #[] }, { accessFlags := 25, nameIndex := 284, descriptorIndex := 25, attributes := #[] }, { accessFlags := 25, nameIndex := 286, descriptorIndex := 25, attributes := #[] }, { accessFlags := 25, nameIndex := 288, descriptorIndex := 25, attributes := #[] }, { accessFlags := 25, nameIndex := 290, descriptorIndex := 25, attributes := #[] }, { accessFlags := 25, nameIndex := 292, descriptorIndex := 25, attributes := #[] }, { accessFlags := 26, nameIndex := 108, descriptorIndex := 109, attributes := #[] }, { accessFlags := 25, nameIndex := 294, descriptorIndex := 25, attributes := #[] }])
  fields := #[{ name := "U", type := (.object "jdk/internal/misc/Unsafe"), accessFlags := 24, slot := 0, constantValue := 0 }, { name := "BIG_ENDIAN", type := .boolean, accessFlags := 26, slot := 1, constantValue := 0 }, { name := "LOG2_ARRAY_BOOLEAN_INDEX_SCALE", type := .int, accessFlags := 25, slot := 2, constantValue := 0 }, { name := "LOG2_ARRAY_BYTE_INDEX_SCALE", type := .int, accessFlags := 25, slot := 3, constantValue := 0 }, { name := "LOG2_ARRAY_CHAR_INDEX_SCALE", type := .int, accessFlags := 25, slot := 4, constantValue := 0 }, { name := "LOG2_ARRAY_SHORT_INDEX_SCALE", type := .int, accessFlags := 25, slot := 5, constantValue := 0 }, { name := "LOG2_ARRAY_INT_INDEX_SCALE", type := .int, accessFlags := 25, slot := 6, constantValue := 0 }, { name := "LOG2_ARRAY_LONG_INDEX_SCALE", type := .int, accessFlags := 25, slot := 7, constantValue := 0 }, { name := "LOG2_ARRAY_FLOAT_INDEX_SCALE", type := .int, accessFlags := 25, slot := 8, constantValue := 0 }, { name := "LOG2_ARRAY_DOUBLE_INDEX_SCALE", type := .int, accessFlags := 25, slot := 9, constantValue := 0 }, { name := "LOG2_BYTE_BIT_SIZE", type := .int, accessFlags := 26, slot := 10, constantValue := 0 }, { name := "T_BOOLEAN", type := .int, accessFlags := 25, slot := 11, constantValue := 0 }, { name := "T_CHAR", type := .int, accessFlags := 25, slot := 12, constantValue := 0 }, { name := "T_FLOAT", type := .int, accessFlags := 25, slot := 13, constantValue := 0 }, { name := "T_DOUBLE", type := .int, accessFlags := 25, slot := 14, constantValue := 0 }, { name := "T_BYTE", type := .int, accessFlags := 25, slot := 15, constantValue := 0 }, { name := "T_SHORT", type := .int, accessFlags := 25, slot := 16, constantValue := 0 }, { name := "T_INT", type := .int, accessFlags := 25, slot := 17, constantValue := 0 }, { name := "T_LONG", type := .int, accessFlags := 25, slot := 18, constantValue := 0 }, { name := "JLA", type := (.object "jdk/internal/access/JavaLangAccess"), accessFlags := 26, slot := 19, constantValue := 0 }, { name := "SOFT_MAX_ARRAY_LENGTH", type := .int, accessFlags := 25, slot := 20, constantValue := 0 }]
  methods := #[k12m0]
  instanceTypes := #[]
  staticTypes := #[(.object "jdk/internal/misc/Unsafe"), .boolean, .int, .int, .int, .int, .int, .int, .int, .int, .int, .int, .int, .int, .int, .int, .int, .int, .int, (.object "jdk/internal/access/JavaLangAccess"), .int]
  resolved := Array.replicate 378 none
  statics := none }

def pool13 : Array CpInfo := pool [(1, u "java/lang/Cloneable"), (0, .class_ 1), (0, u "java/lang/Object"), (0, .class_ 3)] 3

/-- java/lang/Cloneable -/
def k13 : Class := { plain "java/lang/Cloneable" (some 0) with
  accessFlags := 1537
  interfaces := #[]
  cf := some (fileOf pool13 2 #[] #[] 1537 4 #[] #[])
  fields := #[]
  methods := #[]
  instanceTypes := #[]
  staticTypes := #[]
  resolved := Array.replicate 8 none
  statics := none }

/-- the primitive byte -/
def k14 : Class := { plain "byte" none with kind := .primitive 'B', accessFlags := 0x411 }
/-- [B -/
def k15 : Class := { plain "[B" (some 0) with kind := .array 14 .byte, interfaces := #[13, 2], accessFlags := 1041 }

/-- the primitive char -/
def k16 : Class := { plain "char" none with kind := .primitive 'C', accessFlags := 0x411 }
/-- [C -/
def k17 : Class := { plain "[C" (some 0) with kind := .array 16 .char, interfaces := #[13, 2], accessFlags := 1041 }

/-- the primitive int -/
def k18 : Class := { plain "int" none with kind := .primitive 'I', accessFlags := 0x411 }
/-- [I -/
def k19 : Class := { plain "[I" (some 0) with kind := .array 18 .int, interfaces := #[13, 2], accessFlags := 1041 }

def heap : Heap := #[{ cls := 7, slots := #[.long 0, .int 1, .null, .int 0, .null, .int 0, .int 0], vm := .statics 7 },
  { cls := 11, slots := #[.null, .null, .null], vm := .statics 11 }]
def classes : Array Class := #[k0, k1, k2, k3, k4, k5, k6, k7, k8, k9, k10, k11, k12, k13, k14, k15, k16, k17, k18, k19]
def interned : List (Array UInt16 × Addr) := []
def slotsUsed : Nat := 10
def theMethod : MethodId := ⟨1, 1⟩
def args0 : Array Value := #[.int 5, .int 7, .int 300, .int 9, .int 3, .int 11]
def aboutOver (below : List Frame) : State where
  vm := { classes := classes, interned := interned.toArray }
  heap := heap
  slotsUsed := slotsUsed
  threads := #[{ frames := .invoking theMethod args0 :: below }]
def below0 : List Frame := [.native { method := ⟨0, 0⟩, args := #[] }]
def about1 : State := aboutOver below0
def p0 : Program := .bare "" "" ""
def e0 : Env := launch0.env 0 0 0
theorem w_frames : about1.frames = Frame.invoking theMethod args0 :: below0 := rfl
set_option maxRecDepth 65536 in
theorem w_args : argsFit about1.vm theMethod args0 = true := by decide +kernel
set_option maxRecDepth 65536 in
theorem w_heap : heapFits about1 = true := by decide +kernel
set_option maxRecDepth 65536 in
theorem w_runnable : about1.curStatus? = some .runnable := by decide +kernel
set_option maxRecDepth 65536 in
theorem w_alone : about1.alone = true := by decide +kernel
set_option maxRecDepth 65536 in
theorem w_named : about1.methodNamed? x = some theMethod := by decide +kernel
set_option maxRecDepth 65536 in
theorem w_hears : about1.hears theMethod below0 = true := by decide +kernel
set_option maxRecDepth 65536 in
theorem w_ripe : about1.ripe theMethod args0 below0 = true := by decide +kernel
theorem w_running : about1.status = .running := rfl
set_option maxRecDepth 65536 in
theorem w_room : about1.hasRoom e0.platform room_1 = true :=
  launch0.hasRoom_least _ room_1 (by decide +kernel) (by decide +kernel) (by decide +kernel) (by decide +kernel) (by decide +kernel) (by decide +kernel)
theorem allAtoms_all (ts : List Jvm.Cond) (a : Array Jvm.Value) (st : Jvm.State) : (allAtoms ts).before a st = ts.all (fun c => c.before a st) := by
  induction ts with
  | nil => rfl
  | cons c t ih =>
    show (Jvm.Cond.and c (allAtoms t)).before a st = _
    rw [Jvm.Cond.before_and, ih, List.all_cons]
def words1 : List Jvm.Cond := Jvm.Cond.code x code maxLocals ret :: tables_1
/-- a 'code' word, met by the world's own term for the bytes: nothing is compared byte by byte -/
theorem code_word {y : MethodName} {bytes : ByteArray} {mx : Nat} {rt : Option FieldType} {a : Array Value} {s : State} {m : MethodId} {meth : Method} {c : Code} (h1 : s.methodNamed? y = some m) (h2 : s.vm.method? m = some meth) (h3 : meth.code = some c) (h4 : c.code = bytes)
    (h5 : (c.maxLocals == mx && c.exceptionTable.isEmpty && decide (c.maxStack ≤ mostOperands) && decide (meth.sig.returnType = rt) && !meth.locks && decide (parseMethodDescriptor y.desc = some meth.sig)) = true) : (Jvm.Cond.code y bytes mx rt).before a s = true := by
  simp only [Bool.and_eq_true, beq_iff_eq, Bool.not_eq_true', decide_eq_true_eq] at h5
  obtain ⟨⟨⟨⟨⟨g1, g2⟩, g3⟩, g4⟩, g5⟩, g6⟩ := h5
  simp [Cond.before, Cond.holds, Cond.value, h1, h2, h3, h4, g1, g2, g3, g4, g5, g6]
def isCode : Jvm.Cond → Bool
  | .code _ _ _ _ => true
  | _ => false
theorem all_split {L : List Jvm.Cond} {P : Jvm.Cond → Bool} (h1 : L.all (fun c => isCode c || P c) = true) (h2 : ∀ c ∈ L.filter isCode, P c = true) : L.all P = true := by
  refine List.all_eq_true.mpr fun c hc => ?_
  have h := List.all_eq_true.mp h1 c hc
  rcases Bool.eq_false_or_eq_true (isCode c) with hi | hi
  · exact h2 c (List.mem_filter.mpr ⟨hc, hi⟩)
  · simpa [hi] using h
set_option maxRecDepth 65536 in
theorem w_c0 : (Jvm.Cond.code x code maxLocals ret).before args0 about1 = true := code_word (m := ⟨1, 1⟩) (meth := k1m1) (c := k1c1) (by decide +kernel) rfl rfl rfl (by decide +kernel)
set_option maxRecDepth 65536 in
theorem w_c1 : (Jvm.Cond.code ({ cls := "com/example/web_api_rules/webapirules/description/CheckedPathIsResourceSegmentPinLaw", name := "ch", desc := "(I)C" } : Jvm.MethodName) method_3_code (3 : Nat) (Option.some Jvm.ClassFile.FieldType.char)).before args0 about1 = true := code_word (m := ⟨1, 2⟩) (meth := k1m2) (c := k1c2) (by decide +kernel) rfl rfl rfl (by decide +kernel)
set_option maxRecDepth 65536 in
theorem w_c2 : (Jvm.Cond.code ({ cls := "com/example/web_api_rules/webapirules/description/CheckedPathIsResourceSegmentPinLaw", name := "make", desc := "(ICCCCC)Ljava/lang/String;" } : Jvm.MethodName) method_4_code (6 : Nat) (Option.some (Jvm.ClassFile.FieldType.object "java/lang/String"))).before args0 about1 = true := code_word (m := ⟨1, 3⟩) (meth := k1m3) (c := k1c3) (by decide +kernel) rfl rfl rfl (by decide +kernel)
set_option maxRecDepth 65536 in
theorem w_c3 : (Jvm.Cond.code ({ cls := "java/lang/String", name := "<init>", desc := "([C)V" } : Jvm.MethodName) jdk_42_method_3_code (2 : Nat) (Option.none : Option Jvm.ClassFile.FieldType)).before args0 about1 = true := code_word (m := ⟨7, 1⟩) (meth := k7m1) (c := k7c1) (by decide +kernel) rfl rfl rfl (by decide +kernel)
set_option maxRecDepth 65536 in
theorem w_c4 : (Jvm.Cond.code ({ cls := "java/lang/String", name := "<init>", desc := "([CIILjava/lang/Void;)V" } : Jvm.MethodName) jdk_42_method_149_code (6 : Nat) (Option.none : Option Jvm.ClassFile.FieldType)).before args0 about1 = true := code_word (m := ⟨7, 4⟩) (meth := k7m4) (c := k7c4) (by decide +kernel) rfl rfl rfl (by decide +kernel)
set_option maxRecDepth 65536 in
theorem w_c5 : (Jvm.Cond.code ({ cls := "java/lang/Object", name := "<init>", desc := "()V" } : Jvm.MethodName) object_method_1_code (1 : Nat) (Option.none : Option Jvm.ClassFile.FieldType)).before args0 about1 = true := code_word (m := ⟨0, 0⟩) (meth := k0m0) (c := k0c0) (by decide +kernel) rfl rfl rfl (by decide +kernel)
set_option maxRecDepth 65536 in
theorem w_c6 : (Jvm.Cond.code ({ cls := "java/lang/String", name := "length", desc := "()I" } : Jvm.MethodName) jdk_42_method_54_code (1 : Nat) (Option.some Jvm.ClassFile.FieldType.int)).before args0 about1 = true := code_word (m := ⟨7, 2⟩) (meth := k7m2) (c := k7c2) (by decide +kernel) rfl rfl rfl (by decide +kernel)
set_option maxRecDepth 65536 in
theorem w_c7 : (Jvm.Cond.code ({ cls := "java/lang/String", name := "coder", desc := "()B" } : Jvm.MethodName) jdk_42_method_152_code (1 : Nat) (Option.some Jvm.ClassFile.FieldType.byte)).before args0 about1 = true := code_word (m := ⟨7, 5⟩) (meth := k7m5) (c := k7c5) (by decide +kernel) rfl rfl rfl (by decide +kernel)
set_option maxRecDepth 65536 in
theorem w_c8 : (Jvm.Cond.code ({ cls := "com/example/web_api_rules/webapirules/description/CheckedPath", name := "isResourceSegment", desc := "(Ljava/lang/String;)Z" } : Jvm.MethodName) prog_6_method_4_code (1 : Nat) (Option.some Jvm.ClassFile.FieldType.boolean)).before args0 about1 = true := code_word (m := ⟨8, 1⟩) (meth := k8m1) (c := k8c1) (by decide +kernel) rfl rfl rfl (by decide +kernel)
set_option maxRecDepth 65536 in
theorem w_c9 : (Jvm.Cond.code ({ cls := "com/example/web_api_rules/webapirules/description/CheckedPath", name := "isParameter", desc := "(Ljava/lang/String;)Z" } : Jvm.MethodName) prog_6_method_2_code (4 : Nat) (Option.some Jvm.ClassFile.FieldType.boolean)).before args0 about1 = true := code_word (m := ⟨8, 0⟩) (meth := k8m0) (c := k8c0) (by decide +kernel) rfl rfl rfl (by decide +kernel)
set_option maxRecDepth 65536 in
theorem w_c10 : (Jvm.Cond.code ({ cls := "com/example/web_api_rules/webapirules/description/CheckedPath", name := "isVersion", desc := "(Ljava/lang/String;)Z" } : Jvm.MethodName) prog_6_method_14_code (2 : Nat) (Option.some Jvm.ClassFile.FieldType.boolean)).before args0 about1 = true := code_word (m := ⟨8, 2⟩) (meth := k8m2) (c := k8c2) (by decide +kernel) rfl rfl rfl (by decide +kernel)
set_option maxRecDepth 65536 in
theorem w_c11 : (Jvm.Cond.code ({ cls := "java/lang/StringUTF16", name := "compress", desc := "([CII)[B" } : Jvm.MethodName) jdk_52_method_16_code (6 : Nat) (Option.some (Jvm.ClassFile.FieldType.array Jvm.ClassFile.FieldType.byte))).before args0 about1 = true := code_word (m := ⟨9, 2⟩) (meth := k9m2) (c := k9c2) (by decide +kernel) rfl rfl rfl (by decide +kernel)
set_option maxRecDepth 65536 in
theorem w_c12 : (Jvm.Cond.code ({ cls := "java/lang/StringUTF16", name := "compress", desc := "([CI[BII)I" } : Jvm.MethodName) jdk_52_method_21_code (7 : Nat) (Option.some Jvm.ClassFile.FieldType.int)).before args0 about1 = true := code_word (m := ⟨9, 3⟩) (meth := k9m3) (c := k9c3) (by decide +kernel) rfl rfl rfl (by decide +kernel)
set_option maxRecDepth 65536 in
theorem w_c13 : (Jvm.Cond.code ({ cls := "java/lang/StringUTF16", name := "coderFromArrayLen", desc := "([BI)B" } : Jvm.MethodName) jdk_52_method_15_code (2 : Nat) (Option.some Jvm.ClassFile.FieldType.byte)).before args0 about1 = true := code_word (m := ⟨9, 1⟩) (meth := k9m1) (c := k9c1) (by decide +kernel) rfl rfl rfl (by decide +kernel)
set_option maxRecDepth 65536 in
theorem w_c14 : (Jvm.Cond.code ({ cls := "java/lang/String", name := "charAt", desc := "(I)C" } : Jvm.MethodName) jdk_42_method_56_code (2 : Nat) (Option.some Jvm.ClassFile.FieldType.char)).before args0 about1 = true := code_word (m := ⟨7, 3⟩) (meth := k7m3) (c := k7c3) (by decide +kernel) rfl rfl rfl (by decide +kernel)
set_option maxRecDepth 65536 in
theorem w_c15 : (Jvm.Cond.code ({ cls := "java/lang/String", name := "isLatin1", desc := "()Z" } : Jvm.MethodName) jdk_42_method_154_code (1 : Nat) (Option.some Jvm.ClassFile.FieldType.boolean)).before args0 about1 = true := code_word (m := ⟨7, 6⟩) (meth := k7m6) (c := k7c6) (by decide +kernel) rfl rfl rfl (by decide +kernel)
set_option maxRecDepth 65536 in
theorem w_c16 : (Jvm.Cond.code ({ cls := "java/lang/StringLatin1", name := "charAt", desc := "([BI)C" } : Jvm.MethodName) jdk_43_method_2_code (2 : Nat) (Option.some Jvm.ClassFile.FieldType.char)).before args0 about1 = true := code_word (m := ⟨10, 1⟩) (meth := k10m1) (c := k10c1) (by decide +kernel) rfl rfl rfl (by decide +kernel)
set_option maxRecDepth 65536 in
theorem w_c17 : (Jvm.Cond.code ({ cls := "java/lang/String", name := "checkIndex", desc := "(II)V" } : Jvm.MethodName) jdk_42_method_155_code (2 : Nat) (Option.none : Option Jvm.ClassFile.FieldType)).before args0 about1 = true := code_word (m := ⟨7, 7⟩) (meth := k7m7) (c := k7c7) (by decide +kernel) rfl rfl rfl (by decide +kernel)
set_option maxRecDepth 65536 in
theorem w_c18 : (Jvm.Cond.code ({ cls := "jdk/internal/util/Preconditions", name := "checkIndex", desc := "(IILjava/util/function/BiFunction;)I" } : Jvm.MethodName) jdk_41_method_11_code (3 : Nat) (Option.some Jvm.ClassFile.FieldType.int)).before args0 about1 = true := code_word (m := ⟨11, 1⟩) (meth := k11m1) (c := k11c1) (by decide +kernel) rfl rfl rfl (by decide +kernel)
set_option maxRecDepth 65536 in
theorem w_c19 : (Jvm.Cond.code ({ cls := "com/example/web_api_rules/webapirules/description/CheckedPathIsResourceSegmentPinLaw", name := "last", desc := "(ICCC)C" } : Jvm.MethodName) method_5_code (4 : Nat) (Option.some Jvm.ClassFile.FieldType.char)).before args0 about1 = true := code_word (m := ⟨1, 4⟩) (meth := k1m4) (c := k1c4) (by decide +kernel) rfl rfl rfl (by decide +kernel)
set_option maxRecDepth 65536 in
theorem w_c20 : (Jvm.Cond.code ({ cls := "com/example/web_api_rules/webapirules/description/CheckedPathIsResourceSegmentPinLaw", name := "dig", desc := "(C)Z" } : Jvm.MethodName) method_7_code (1 : Nat) (Option.some Jvm.ClassFile.FieldType.boolean)).before args0 about1 = true := code_word (m := ⟨1, 6⟩) (meth := k1m6) (c := k1c6) (by decide +kernel) rfl rfl rfl (by decide +kernel)
set_option maxRecDepth 65536 in
theorem w_c21 : (Jvm.Cond.code ({ cls := "com/example/web_api_rules/webapirules/description/CheckedPath", name := "isDigit", desc := "(C)Z" } : Jvm.MethodName) prog_6_method_15_code (1 : Nat) (Option.some Jvm.ClassFile.FieldType.boolean)).before args0 about1 = true := code_word (m := ⟨8, 3⟩) (meth := k8m3) (c := k8c3) (by decide +kernel) rfl rfl rfl (by decide +kernel)
set_option maxRecDepth 65536 in
theorem w_c22 : (Jvm.Cond.code ({ cls := "com/example/web_api_rules/webapirules/description/CheckedPathIsResourceSegmentPinLaw", name := "noBrace", desc := "(C)Z" } : Jvm.MethodName) method_6_code (1 : Nat) (Option.some Jvm.ClassFile.FieldType.boolean)).before args0 about1 = true := code_word (m := ⟨1, 5⟩) (meth := k1m5) (c := k1c5) (by decide +kernel) rfl rfl rfl (by decide +kernel)
def codes1 : List Jvm.Cond := [Jvm.Cond.code x code maxLocals ret, Jvm.Cond.code ({ cls := "com/example/web_api_rules/webapirules/description/CheckedPathIsResourceSegmentPinLaw", name := "ch", desc := "(I)C" } : Jvm.MethodName) method_3_code (3 : Nat) (Option.some Jvm.ClassFile.FieldType.char), Jvm.Cond.code ({ cls := "com/example/web_api_rules/webapirules/description/CheckedPathIsResourceSegmentPinLaw", name := "make", desc := "(ICCCCC)Ljava/lang/String;" } : Jvm.MethodName) method_4_code (6 : Nat) (Option.some (Jvm.ClassFile.FieldType.object "java/lang/String")), Jvm.Cond.code ({ cls := "java/lang/String", name := "<init>", desc := "([C)V" } : Jvm.MethodName) jdk_42_method_3_code (2 : Nat) (Option.none : Option Jvm.ClassFile.FieldType), Jvm.Cond.code ({ cls := "java/lang/String", name := "<init>", desc := "([CIILjava/lang/Void;)V" } : Jvm.MethodName) jdk_42_method_149_code (6 : Nat) (Option.none : Option Jvm.ClassFile.FieldType), Jvm.Cond.code ({ cls := "java/lang/Object", name := "<init>", desc := "()V" } : Jvm.MethodName) object_method_1_code (1 : Nat) (Option.none : Option Jvm.ClassFile.FieldType), Jvm.Cond.code ({ cls := "java/lang/String", name := "length", desc := "()I" } : Jvm.MethodName) jdk_42_method_54_code (1 : Nat) (Option.some Jvm.ClassFile.FieldType.int), Jvm.Cond.code ({ cls := "java/lang/String", name := "coder", desc := "()B" } : Jvm.MethodName) jdk_42_method_152_code (1 : Nat) (Option.some Jvm.ClassFile.FieldType.byte), Jvm.Cond.code ({ cls := "com/example/web_api_rules/webapirules/description/CheckedPath", name := "isResourceSegment", desc := "(Ljava/lang/String;)Z" } : Jvm.MethodName) prog_6_method_4_code (1 : Nat) (Option.some Jvm.ClassFile.FieldType.boolean), Jvm.Cond.code ({ cls := "com/example/web_api_rules/webapirules/description/CheckedPath", name := "isParameter", desc := "(Ljava/lang/String;)Z" } : Jvm.MethodName) prog_6_method_2_code (4 : Nat) (Option.some Jvm.ClassFile.FieldType.boolean), Jvm.Cond.code ({ cls := "com/example/web_api_rules/webapirules/description/CheckedPath", name := "isVersion", desc := "(Ljava/lang/String;)Z" } : Jvm.MethodName) prog_6_method_14_code (2 : Nat) (Option.some Jvm.ClassFile.FieldType.boolean), Jvm.Cond.code ({ cls := "java/lang/StringUTF16", name := "compress", desc := "([CII)[B" } : Jvm.MethodName) jdk_52_method_16_code (6 : Nat) (Option.some (Jvm.ClassFile.FieldType.array Jvm.ClassFile.FieldType.byte)), Jvm.Cond.code ({ cls := "java/lang/StringUTF16", name := "compress", desc := "([CI[BII)I" } : Jvm.MethodName) jdk_52_method_21_code (7 : Nat) (Option.some Jvm.ClassFile.FieldType.int), Jvm.Cond.code ({ cls := "java/lang/StringUTF16", name := "coderFromArrayLen", desc := "([BI)B" } : Jvm.MethodName) jdk_52_method_15_code (2 : Nat) (Option.some Jvm.ClassFile.FieldType.byte), Jvm.Cond.code ({ cls := "java/lang/String", name := "charAt", desc := "(I)C" } : Jvm.MethodName) jdk_42_method_56_code (2 : Nat) (Option.some Jvm.ClassFile.FieldType.char), Jvm.Cond.code ({ cls := "java/lang/String", name := "isLatin1", desc := "()Z" } : Jvm.MethodName) jdk_42_method_154_code (1 : Nat) (Option.some Jvm.ClassFile.FieldType.boolean), Jvm.Cond.code ({ cls := "java/lang/StringLatin1", name := "charAt", desc := "([BI)C" } : Jvm.MethodName) jdk_43_method_2_code (2 : Nat) (Option.some Jvm.ClassFile.FieldType.char), Jvm.Cond.code ({ cls := "java/lang/String", name := "checkIndex", desc := "(II)V" } : Jvm.MethodName) jdk_42_method_155_code (2 : Nat) (Option.none : Option Jvm.ClassFile.FieldType), Jvm.Cond.code ({ cls := "jdk/internal/util/Preconditions", name := "checkIndex", desc := "(IILjava/util/function/BiFunction;)I" } : Jvm.MethodName) jdk_41_method_11_code (3 : Nat) (Option.some Jvm.ClassFile.FieldType.int), Jvm.Cond.code ({ cls := "com/example/web_api_rules/webapirules/description/CheckedPathIsResourceSegmentPinLaw", name := "last", desc := "(ICCC)C" } : Jvm.MethodName) method_5_code (4 : Nat) (Option.some Jvm.ClassFile.FieldType.char), Jvm.Cond.code ({ cls := "com/example/web_api_rules/webapirules/description/CheckedPathIsResourceSegmentPinLaw", name := "dig", desc := "(C)Z" } : Jvm.MethodName) method_7_code (1 : Nat) (Option.some Jvm.ClassFile.FieldType.boolean), Jvm.Cond.code ({ cls := "com/example/web_api_rules/webapirules/description/CheckedPath", name := "isDigit", desc := "(C)Z" } : Jvm.MethodName) prog_6_method_15_code (1 : Nat) (Option.some Jvm.ClassFile.FieldType.boolean), Jvm.Cond.code ({ cls := "com/example/web_api_rules/webapirules/description/CheckedPathIsResourceSegmentPinLaw", name := "noBrace", desc := "(C)Z" } : Jvm.MethodName) method_6_code (1 : Nat) (Option.some Jvm.ClassFile.FieldType.boolean)]
set_option maxRecDepth 65536 in
theorem codes_eq : words1.filter isCode = codes1 := rfl
theorem w_codes : ∀ c ∈ words1.filter isCode, c.before args0 about1 = true := by
  rw [codes_eq]
  intro c hc
  simp only [codes1, List.mem_cons, List.not_mem_nil, or_false] at hc
  rcases hc with rfl | rfl | rfl | rfl | rfl | rfl | rfl | rfl | rfl | rfl | rfl | rfl | rfl | rfl | rfl | rfl | rfl | rfl | rfl | rfl | rfl | rfl | rfl
  · exact w_c0
  · exact w_c1
  · exact w_c2
  · exact w_c3
  · exact w_c4
  · exact w_c5
  · exact w_c6
  · exact w_c7
  · exact w_c8
  · exact w_c9
  · exact w_c10
  · exact w_c11
  · exact w_c12
  · exact w_c13
  · exact w_c14
  · exact w_c15
  · exact w_c16
  · exact w_c17
  · exact w_c18
  · exact w_c19
  · exact w_c20
  · exact w_c21
  · exact w_c22
set_option maxRecDepth 65536 in
theorem w_t1 : (words1.take 24).all (fun c => isCode c || c.before args0 about1) = true := by decide +kernel
set_option maxRecDepth 65536 in
theorem w_t2 : ((words1.drop 24).take 24).all (fun c => isCode c || c.before args0 about1) = true := by decide +kernel
set_option maxRecDepth 65536 in
theorem w_t3 : (((words1.drop 24).drop 24).take 24).all (fun c => isCode c || c.before args0 about1) = true := by decide +kernel
set_option maxRecDepth 65536 in
theorem w_t4 : (((words1.drop 24).drop 24).drop 24).all (fun c => isCode c || c.before args0 about1) = true := by decide +kernel
theorem w_tables : (allAtoms (Jvm.Cond.code x code maxLocals ret :: tables_1)).before args0 about1 = true := by
  rw [allAtoms_all]
  show words1.all (fun c => c.before args0 about1) = true
  refine all_split ?_ w_codes
  rw [← List.take_append_drop 24 words1, List.all_append, w_t1, ← List.take_append_drop 24 (words1.drop 24), List.all_append, w_t2, ← List.take_append_drop 24 ((words1.drop 24).drop 24), List.all_append, w_t3, w_t4]
  rfl
set_option maxRecDepth 65536 in
theorem w_rest : rest_1_c.before args0 about1 = true := by decide +kernel
set_option maxRecDepth 65536 in
theorem w_case : (Jvm.Cond.and given_1 narrow_1).before args0 about1 = true := by decide +kernel
set_option maxRecDepth 65536 in
theorem w_consts : constsHeld consts_1 about1 := Jvm.Lit.constsHeldB_iff.mp (by decide +kernel)
theorem w_applies : (headSpec (Jvm.Cond.code x code maxLocals ret :: tables_1) room_1).applies x e0.platform about1 = true :=
  (Spec.applies_iff w_frames).mpr ⟨w_running, w_runnable, w_alone, w_named, w_hears, w_ripe, w_room, w_tables⟩
theorem atStart : AtStart classFile x code maxLocals ret World_1 tables_1 room_1 Calls_1 rest_1 Pre_1 launch0 p0 e0 about1 theMethod args0 below0 :=
  ⟨lists_1, trivial, launch0.admits_env _ _ _, launch0.least_env, fairChoices_fair.cas, fairChoices_fair.clock, w_frames, w_args, w_heap, w_applies, ⟨w_consts, trivial⟩, w_rest, w_case⟩
end start1
theorem witness_1 : WitnessClaimed_1 := ⟨start1.p0, start1.e0, start1.about1, start1.theMethod, start1.args0, start1.below0, start1.atStart⟩
end Jvm.Pilot.@@N@@
