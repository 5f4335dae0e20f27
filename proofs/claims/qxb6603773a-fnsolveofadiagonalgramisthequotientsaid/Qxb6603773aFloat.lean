/-
  What this law's road asks of 64-bit floats, over the exact core: plain.
-/
import Derived.WalkKit
import Derived.WalkLawsBesides
import Derived.Laws.FloatArith
namespace Go.Proofs.Qxb6603773a
open Ieee

/-- The format of float64. -/
def D : Format := Ieee.double

theorem D_binade : D.binade = 4503599627370496 := by decide
theorem D_sign : D.signWeight = 9223372036854775808 := by decide
theorem D_inf : D.infRung = 9218868437227405312 := by decide
theorem D_least : D.leastPlace = -1074 := by decide
theorem D_frac : D.fractionBits = 52 := rfl

/-! ### words, by sign and rung -/
theorem word_split {x : Nat} (hx : x < 18446744073709551616) : ∃ s r, r < 9223372036854775808 ∧ x = D.word s r := by
  by_cases h : x < 9223372036854775808
  · exact ⟨false, x, h, rfl⟩
  · exact ⟨true, x - 9223372036854775808, by omega, by simp only [Format.word, D_sign, if_true]; omega⟩

/-- The significand and the exponent's place of a rung. -/
def mant (r : Nat) : Nat := if r < 4503599627370496 then r else 4503599627370496 + r % 4503599627370496
def expo (r : Nat) : Nat := if r < 4503599627370496 then 0 else r / 4503599627370496 - 1

theorem read_word (s : Bool) {r : Nat} (hr : r < 9223372036854775808) : D.read (D.word s r) = if r < 9218868437227405312 then .number s (mant r) (-1074 + (expo r : Int)) else if r = 9218868437227405312 then .infinity s else .nan s (r - 9218868437227405312) := by
  have hneg : (D.word s r / 9223372036854775808 % 2 == 1) = s := by
    cases s
    · simp only [Format.word]; rw [if_neg (by simp)]; have : r / 9223372036854775808 = 0 := by omega
      rw [this]; rfl
    · simp only [Format.word, D_sign, if_true]; have : (9223372036854775808 + r) / 9223372036854775808 = 1 := by omega
      rw [this]; rfl
  have hrung : D.word s r % 9223372036854775808 = r := by
    cases s
    · simp only [Format.word]; rw [if_neg (by simp)]; omega
    · simp only [Format.word, D_sign, if_true]; omega
  unfold Format.read
  simp only [D_sign, D_binade, D_inf, D_least, hneg, hrung]
  by_cases h1 : r < 4503599627370496
  · rw [if_pos h1, if_pos (by omega)]
    unfold mant expo
    rw [if_pos h1, if_pos h1]; simp
  · rw [if_neg h1]
    by_cases h2 : r < 9218868437227405312
    · rw [if_pos h2, if_pos h2]
      unfold mant expo
      rw [if_neg h1, if_neg h1]
    · rw [if_neg h2, if_neg h2]

/-- What sort of word: a finite number, a zero, a NaN. -/
def isNum (x : Nat) : Bool := match D.read x with | .number .. => true | _ => false
def isZer (x : Nat) : Bool := match D.read x with | .number _ m _ => m == 0 | _ => false
def isNan (x : Nat) : Bool := match D.read x with | .nan .. => true | _ => false

theorem zer_num {x : Nat} (h : isZer x = true) : isNum x = true := by
  unfold isZer at h; unfold isNum
  cases e : D.read x with
  | number s m i => rfl
  | infinity s => rw [e] at h; cases h
  | nan s f => rw [e] at h; cases h

theorem num_notNan {x : Nat} (h : isNum x = true) : isNan x = false := by
  unfold isNum at h; unfold isNan
  cases e : D.read x with
  | number s m i => rfl
  | infinity s => rfl
  | nan s f => rw [e] at h; cases h

theorem num_read {x : Nat} (h : isNum x = true) : ∃ s m i, D.read x = .number s m i := by
  unfold isNum at h
  split at h
  · rename_i s m i e; exact ⟨s, m, i, e⟩
  · cases h

theorem zer_read {x : Nat} (h : isZer x = true) : ∃ s i, D.read x = .number s 0 i := by
  unfold isZer at h
  split at h
  · rename_i s m i e
    have : m = 0 := by simpa using h
    subst this
    exact ⟨s, i, e⟩
  · cases h

theorem notzer_read {x : Nat} {s : Bool} {m : Nat} {i : Int} (e : D.read x = .number s m i) (h : isZer x = false) : m ≠ 0 := by
  unfold isZer at h
  rw [e] at h
  simpa using h

theorem zer_write (s : Bool) (i : Int) : isZer (D.write (.number s 0 i)) = true := by
  have : D.write (.number s 0 i) = D.word s 0 := by simp [Format.write, Format.nearest]
  rw [this]
  unfold isZer
  rw [read_word s (by omega)]
  simp [mant]

theorem zer_zero : isZer 0 = true := by decide
theorem read_zero : D.read 0 = .number false 0 (-1074) := by decide

theorem signed_false (m k : Nat) : signed false m k = ((m <<< k : Nat) : Int) := rfl
theorem signed_true (m k : Nat) : signed true m k = -((m <<< k : Nat) : Int) := rfl
theorem shift_pos {m : Nat} (h : m ≠ 0) (k : Nat) : m <<< k ≠ 0 := by
  rw [Nat.shiftLeft_eq]
  exact Nat.mul_ne_zero h (by have := Nat.two_pow_pos k; omega)

/-! ### comparisons -/
theorem order_zero_eq {x : Nat} : (D.order x 0 = some .eq) ↔ isZer x = true := by
  unfold Format.order
  rw [read_zero]
  unfold isZer
  cases h : D.read x with
  | number s m i =>
    simp only [Datum.order, Option.some.injEq]
    constructor
    · intro hc
      have h1 := Int.compare_eq_eq.1 hc
      have hz : signed false 0 ((-1074) - min i (-1074)).toNat = 0 := by rw [signed_false]; simp
      rw [hz] at h1
      refine Classical.byContradiction fun hm => ?_
      have h2 := shift_pos (m := m) (by simpa using hm) (i - min i (-1074)).toNat
      generalize hq : (m <<< (i - min i (-1074)).toNat) = q at h2
      cases s
      · rw [signed_false, hq] at h1; omega
      · rw [signed_true, hq] at h1; omega
    · intro hm
      have : m = 0 := by simpa using hm
      subst this
      cases s <;> simp [signed]
  | infinity s => cases s <;> simp [Datum.order]
  | nan s f => simp [Datum.order]

theorem order_self {x : Nat} : (D.order x x = some .eq) ↔ isNan x = false := by
  unfold Format.order isNan
  cases h : D.read x with
  | number s m i => simp [Datum.order]
  | infinity s => simp [Datum.order]
  | nan s f => simp [Datum.order]

theorem order_zers {x y : Nat} (hx : isZer x = true) (hy : isZer y = true) : D.order x y = some .eq := by
  obtain ⟨s, i, e⟩ := zer_read hx
  obtain ⟨t, j, e2⟩ := zer_read hy
  unfold Format.order
  rw [e, e2]
  cases s <;> cases t <;> simp [Datum.order, signed]

/-! ### arithmetic with a zero -/
theorem sub_self {x : Nat} (h : isNum x = true) : D.sub x x = some 0 := by
  obtain ⟨s, m, i, e⟩ := num_read h
  unfold Format.sub
  rw [e]
  have : (signed s m 0 + signed (!s) m 0) = 0 := by cases s <;> simp [signed] <;> omega
  simp [Datum.opposite, Datum.sum, this, Format.write, Format.nearest, Format.word]

theorem sub_self_none {x : Nat} (h : isNum x = false) : D.sub x x = none := by
  unfold isNum at h
  unfold Format.sub
  cases e : D.read x with
  | number s m i => rw [e] at h; cases h
  | infinity s => simp [Datum.opposite, Datum.sum]
  | nan s f => simp [Datum.sum]

theorem mul_zer_left {x y : Nat} (hx : isZer x = true) (hy : isNum y = true) : ∃ z, D.mul x y = some z ∧ isZer z = true := by
  obtain ⟨s, i, e⟩ := zer_read hx
  obtain ⟨t, n, j, e2⟩ := num_read hy
  unfold Format.mul
  rw [e, e2]
  exact ⟨_, rfl, by simp only [Nat.zero_mul]; exact zer_write _ _⟩

theorem div_zer {x y : Nat} (hx : isZer x = true) (hy : isNum y = true) (hyz : isZer y = false) : ∃ z, D.div x y = some z ∧ isZer z = true := by
  obtain ⟨s, i, e⟩ := zer_read hx
  obtain ⟨t, n, j, e2⟩ := num_read hy
  have hn := notzer_read e2 hyz
  unfold Format.div
  rw [e, e2]
  refine ⟨_, by simp only [Datum.quotient, if_neg hn]; rfl, ?_⟩
  simp only [Nat.zero_shiftLeft, Nat.zero_div, Nat.zero_mod, Nat.mul_zero, Nat.zero_add]
  exact zer_write _ _

theorem mant_lt (r : Nat) : mant r < 9007199254740992 := by unfold mant; split <;> omega
theorem rung_of (r : Nat) : expo r * 4503599627370496 + mant r = r := by
  unfold expo mant
  split
  · omega
  · omega

theorem log2_shift {m : Nat} (hm : m ≠ 0) (k : Nat) : (m <<< k).log2 = m.log2 + k := by
  rw [Nat.shiftLeft_eq]
  have hp : 0 < 2 ^ k := Nat.two_pow_pos _
  have hmk : m * 2 ^ k ≠ 0 := Nat.mul_ne_zero hm (by omega)
  have h1 : 2 ^ m.log2 ≤ m := Nat.log2_self_le hm
  have h2 : m < 2 ^ (m.log2 + 1) := (Nat.log2_lt hm).1 (Nat.lt_succ_self _)
  apply Nat.le_antisymm
  · have : (m * 2 ^ k).log2 < m.log2 + k + 1 := by
      rw [Nat.log2_lt hmk]
      rw [show m.log2 + k + 1 = m.log2 + 1 + k by omega, Nat.pow_add]
      exact Nat.mul_lt_mul_of_pos_right h2 hp
    omega
  · rw [Nat.le_log2 hmk, Nat.pow_add]
    exact Nat.mul_le_mul_right _ h1

theorem cut_eq (s : Bool) (n drop g : Nat) (hg : 2 ^ min drop (n.log2 + 2) = g) : Toward.even.cut s n drop = n / g + (decide (g < 2 * (n % g)) || (g == 2 * (n % g) && n / g % 2 == 1)).toNat := by
  subst hg
  unfold Toward.cut
  simp only [Nat.one_shiftLeft]

/-- To write a number that the format has, however its places are spread, gives its word. -/
theorem nearest_exact (s : Bool) {r : Nat} (hr : r < 9218868437227405312) (h0 : mant r ≠ 0) (k : Nat) : D.nearest s (mant r <<< k) (-1074 + (expo r : Int) - (k : Int)) = D.word s r := by
  have hm : mant r <<< k ≠ 0 := by
    rw [Nat.shiftLeft_eq]
    exact Nat.mul_ne_zero h0 (by have := Nat.two_pow_pos k; omega)
  have hlast : max (-1074 + (expo r : Int) - (k : Int) + ((mant r <<< k).log2 : Int) - (52 : Int)) (-1074) = -1074 + (expo r : Int) := by
    rw [log2_shift h0]
    by_cases h : r < 4503599627370496
    · have he : expo r = 0 := by unfold expo; rw [if_pos h]
      have hl : (mant r).log2 < 52 := by
        rw [Nat.log2_lt h0]
        unfold mant; rw [if_pos h]; exact h
      rw [he]
      omega
    · have hl : (mant r).log2 = 52 := by
        apply Nat.le_antisymm
        · have : (mant r).log2 < 53 := by rw [Nat.log2_lt h0]; exact mant_lt r
          omega
        · rw [Nat.le_log2 h0]
          unfold mant; rw [if_neg h]; omega
      rw [hl]
      omega
  unfold Format.nearest
  rw [if_neg hm]
  simp only [D_frac, D_least, D_binade, D_inf]
  rw [show ((52 : Nat) : Int) = 52 from rfl, hlast]
  have e1 : (-1074 + (expo r : Int) - (k : Int) - (-1074 + (expo r : Int))).toNat = 0 := by omega
  have e2 : (-1074 + (expo r : Int) - (-1074 + (expo r : Int) - (k : Int))).toNat = k := by omega
  have e3 : (-1074 + (expo r : Int) - -1074).toNat = expo r := by omega
  rw [e1, e2, e3]
  have hcut : Toward.even.cut s (mant r <<< k <<< 0) k = mant r := by
    have hp : 0 < 2 ^ k := Nat.two_pow_pos _
    rw [Nat.shiftLeft_zero, cut_eq s _ k (2 ^ k) (by rw [log2_shift h0, Nat.min_eq_left (by omega)]), Nat.shiftLeft_eq, Nat.mul_div_cancel _ hp, Nat.mul_mod_left]
    have h3 : (2 ^ k == 2 * 0) = false := by rw [beq_eq_false_iff_ne]; omega
    have h4 : decide (2 ^ k < 2 * 0) = false := by simp
    rw [h3, h4]; rfl
  rw [hcut, rung_of, Nat.min_eq_left (by omega)]

/-- A zero taken from what is no zero and no NaN changes nothing. -/
theorem sub_zer {x y : Nat} (hx : x < 18446744073709551616) (hn : isNan x = false) (hz : isZer x = false) (hy : isZer y = true) : D.sub x y = some x := by
  obtain ⟨t, j, e2⟩ := zer_read hy
  obtain ⟨s, r, hr, rfl⟩ := word_split hx
  have hread := read_word s hr
  unfold Format.sub
  rw [e2]
  by_cases h1 : r < 9218868437227405312
  · rw [if_pos h1] at hread
    have h0 := notzer_read hread hz
    rw [hread]
    simp only [Datum.opposite, Datum.sum, Option.map_some]
    have hs0 : signed (!t) 0 (j - min (-1074 + (expo r : Int)) j).toNat = 0 := by cases t <;> simp [signed]
    rw [hs0, Int.add_zero]
    obtain ⟨k, hk⟩ : ∃ k : Nat, min (-1074 + (expo r : Int)) j = -1074 + (expo r : Int) - (k : Int) := ⟨(-1074 + (expo r : Int) - min (-1074 + (expo r : Int)) j).toNat, by omega⟩
    rw [hk]
    have ek : (-1074 + (expo r : Int) - (-1074 + (expo r : Int) - (k : Int))).toNat = k := by omega
    rw [ek]
    have hmk : mant r <<< k ≠ 0 := by
      rw [Nat.shiftLeft_eq]
      exact Nat.mul_ne_zero h0 (by have := Nat.two_pow_pos k; omega)
    have hsn : (signed s (mant r) k).natAbs = mant r <<< k := by
      cases s
      · rw [signed_false]; exact Int.natAbs_natCast _
      · rw [signed_true, Int.natAbs_neg]; exact Int.natAbs_natCast _
    have hsne : ¬ signed s (mant r) k = 0 := fun e => hmk (by rw [← hsn, e]; rfl)
    rw [if_neg hsne, hsn]
    have hsg : decide (signed s (mant r) k < 0) = s := by
      generalize hq : mant r <<< k = q at hmk
      cases s
      · rw [decide_eq_false_iff_not, signed_false, hq]; omega
      · rw [decide_eq_true_eq, signed_true, hq]; omega
    rw [hsg]
    exact congrArg some (nearest_exact s h1 h0 k)
  · rw [if_neg h1] at hread
    by_cases h2 : r = 9218868437227405312
    · rw [if_pos h2] at hread
      rw [hread]
      simp [Datum.opposite, Datum.sum, Format.write, D_inf, h2]
    · rw [if_neg h2] at hread
      unfold isNan at hn
      rw [hread] at hn
      cases hn

/-- A zero taken from a zero is one. -/
theorem zer_sub_zer {x y : Nat} (hx : isZer x = true) (hy : isZer y = true) : ∃ z, D.sub x y = some z ∧ isZer z = true := by
  obtain ⟨s, i, e⟩ := zer_read hx
  obtain ⟨t, j, e2⟩ := zer_read hy
  unfold Format.sub
  rw [e, e2]
  refine ⟨_, rfl, ?_⟩
  have h1 : signed s 0 (i - min i j).toNat = 0 := by cases s <;> simp [signed]
  have h2 : signed (!t) 0 (j - min i j).toNat = 0 := by cases t <;> simp [signed]
  simp only [h1, h2]
  exact zer_write _ _
end Go.Proofs.Qxb6603773a
