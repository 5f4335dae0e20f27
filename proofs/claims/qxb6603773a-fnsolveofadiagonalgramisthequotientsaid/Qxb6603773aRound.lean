/-
  A billionth of a number, rounded, lies strictly nearer to zero than the number: so 'a <= 1e-9 * d' tells the positive finite entries from all others.
-/
import Derived.Test.Qxb6603773aFloat
namespace Go.Proofs.Qxb6603773a
open Ieee

theorem expo_mono {r : Nat} : (r < 4503599627370496 → expo r = 0) ∧ (¬ r < 4503599627370496 → expo r = r / 4503599627370496 - 1) := by
  unfold expo
  exact ⟨fun h => if_pos h, fun h => if_neg h⟩

/-- The magnitudes grow with the rungs. -/
theorem val_mono {r' r : Nat} (h : r' < r) : mant r' * 2 ^ expo r' < mant r * 2 ^ expo r := by
  unfold mant expo
  by_cases h1 : r < 4503599627370496
  · rw [if_pos h1, if_pos h1, if_pos (by omega), if_pos (by omega)]
    simpa using h
  · rw [if_neg h1, if_neg h1]
    have hq : 1 ≤ r / 4503599627370496 := by omega
    have hp : 0 < 2 ^ (r / 4503599627370496 - 1) := Nat.two_pow_pos _
    by_cases h2 : r' < 4503599627370496
    · rw [if_pos h2, if_pos h2]
      have : r' * 2 ^ 0 < 4503599627370496 * 1 := by omega
      exact Nat.lt_of_lt_of_le this (Nat.mul_le_mul (by omega) hp)
    · rw [if_neg h2, if_neg h2]
      by_cases hqq : r' / 4503599627370496 = r / 4503599627370496
      · rw [hqq]
        exact Nat.mul_lt_mul_of_pos_right (by omega) hp
      · have hlt : r' / 4503599627370496 < r / 4503599627370496 := by omega
        have h3 : 4503599627370496 + r' % 4503599627370496 < 2 * 4503599627370496 := by omega
        have h4 : (4503599627370496 + r' % 4503599627370496) * 2 ^ (r' / 4503599627370496 - 1) < 2 * 4503599627370496 * 2 ^ (r' / 4503599627370496 - 1) := Nat.mul_lt_mul_of_pos_right h3 (Nat.two_pow_pos _)
        have h5 : 2 * 4503599627370496 * 2 ^ (r' / 4503599627370496 - 1) = 4503599627370496 * 2 ^ (r' / 4503599627370496) := by
          have : r' / 4503599627370496 = (r' / 4503599627370496 - 1) + 1 := by omega
          conv => rhs; rw [this, Nat.pow_succ]
          omega
        have h6 : 2 ^ (r' / 4503599627370496) ≤ 2 ^ (r / 4503599627370496 - 1) := Nat.pow_le_pow_right (by decide) (by omega)
        have h7 : 4503599627370496 * 2 ^ (r' / 4503599627370496) ≤ (4503599627370496 + r % 4503599627370496) * 2 ^ (r / 4503599627370496 - 1) := Nat.mul_le_mul (by omega) h6
        omega

theorem order_rungs (s : Bool) {r' r : Nat} (h : r' < r) (hr : r < 9218868437227405312) : D.order (D.word s r) (D.word s r') = some (if s then .lt else .gt) := by
  unfold Format.order
  rw [read_word s (by omega), read_word s (by omega), if_pos hr, if_pos (by omega)]
  simp only [Datum.order, Option.some.injEq]
  have hv := val_mono h
  generalize mant r' = m' at hv ⊢
  generalize mant r = m at hv ⊢
  generalize expo r' = e' at hv ⊢
  generalize expo r = e at hv ⊢
  obtain ⟨u, hu1, hu2⟩ : ∃ u : Nat, u = min e e' ∧ min (-1074 + (e : Int)) (-1074 + (e' : Int)) = -1074 + (u : Int) := ⟨min e e', rfl, by omega⟩
  rw [hu2]
  have e1 : (-1074 + (e : Int) - (-1074 + (u : Int))).toNat = e - u := by omega
  have e2 : (-1074 + (e' : Int) - (-1074 + (u : Int))).toNat = e' - u := by omega
  rw [e1, e2]
  have hlt : m' <<< (e' - u) < m <<< (e - u) := by
    rw [Nat.shiftLeft_eq, Nat.shiftLeft_eq]
    have p1 : 2 ^ e = 2 ^ (e - u) * 2 ^ u := by rw [← Nat.pow_add]; congr 1; omega
    have p2 : 2 ^ e' = 2 ^ (e' - u) * 2 ^ u := by rw [← Nat.pow_add]; congr 1; omega
    rw [p1, p2, ← Nat.mul_assoc, ← Nat.mul_assoc] at hv
    exact Nat.lt_of_mul_lt_mul_right hv
  cases s
  · rw [signed_false, signed_false]
    simp only [Bool.false_eq_true, if_false]
    exact Int.compare_eq_gt.2 (by omega)
  · rw [signed_true, signed_true]
    simp only [if_true]
    exact Int.compare_eq_lt.2 (by omega)

theorem read_collinear : D.read 4472406533629990549 = .number false 4835703278458517 (-82) := by decide

/-- A billionth of a number that the format has, rounded. -/
theorem small_round (s : Bool) {r : Nat} (hr : r < 9218868437227405312) (h0 : mant r ≠ 0) : ∃ r', r' < r ∧ D.nearest s (4835703278458517 * mant r) (-82 + (-1074 + (expo r : Int))) = D.word s r' := by
  have hml := mant_lt r
  have hro := rung_of r
  have hme : expo r ≠ 0 → 4503599627370496 ≤ mant r := by
    unfold expo mant
    split
    · intro h; exact absurd rfl h
    · intro _; omega
  generalize mant r = m at *
  generalize expo r = e at *
  have hmag : 4835703278458517 * m ≠ 0 := by omega
  have ha1 : 52 ≤ (4835703278458517 * m).log2 := by rw [Nat.le_log2 hmag]; omega
  have ha2 : (4835703278458517 * m).log2 ≤ 105 := by
    have : (4835703278458517 * m).log2 < 106 := by rw [Nat.log2_lt hmag]; omega
    omega
  have hlo : 2 ^ (4835703278458517 * m).log2 ≤ 4835703278458517 * m := Nat.log2_self_le hmag
  have hhi : 4835703278458517 * m < 2 ^ ((4835703278458517 * m).log2 + 1) := (Nat.log2_lt hmag).1 (Nat.lt_succ_self _)
  unfold Format.nearest
  rw [if_neg hmag]
  simp only [D_frac, D_least, D_binade, D_inf]
  obtain ⟨a, ha⟩ : ∃ a, a = (4835703278458517 * m).log2 := ⟨_, rfl⟩
  rw [← ha] at ha1 ha2 hlo hhi ⊢
  -- the carry of one
  have carry : ∀ g : Nat, 4835703278458517 * m / g + (decide (g < 2 * (4835703278458517 * m % g)) || (g == 2 * (4835703278458517 * m % g) && 4835703278458517 * m / g % 2 == 1)).toNat ≤ 4835703278458517 * m / g + 1 := fun g => by
    have := Bool.toNat_le (decide (g < 2 * (4835703278458517 * m % g)) || (g == 2 * (4835703278458517 * m % g) && 4835703278458517 * m / g % 2 == 1))
    omega
  have fin : ∀ R : Nat, R < r → ∃ r', r' < r ∧ D.word s (min R 9218868437227405312) = D.word s r' := fun R hR => ⟨R, hR, by rw [Nat.min_eq_left (by omega)]⟩
  by_cases hc : -1074 ≤ -82 + (-1074 + (e : Int)) + (a : Int) - ((52 : Nat) : Int)
  · -- the place is the number's own
    have hl : max (-82 + (-1074 + (e : Int)) + (a : Int) - ((52 : Nat) : Int)) (-1074) = -82 + (-1074 + (e : Int)) + (a : Int) - 52 := by omega
    rw [hl]
    have e1 : (-82 + (-1074 + (e : Int)) - (-82 + (-1074 + (e : Int)) + (a : Int) - 52)).toNat = 0 := by omega
    have e2 : (-82 + (-1074 + (e : Int)) + (a : Int) - 52 - (-82 + (-1074 + (e : Int)))).toNat = a - 52 := by omega
    have e3 : (-82 + (-1074 + (e : Int)) + (a : Int) - 52 - -1074).toNat = e + a - 134 := by omega
    rw [e1, e2, e3, Nat.shiftLeft_zero, cut_eq s _ (a - 52) (2 ^ (a - 52)) (by rw [← ha, Nat.min_eq_left (by omega)])]
    have hdiv : 4835703278458517 * m / 2 ^ (a - 52) < 9007199254740992 := by
      rw [Nat.div_lt_iff_lt_mul (Nat.two_pow_pos _)]
      have : 9007199254740992 * 2 ^ (a - 52) = 2 ^ (a + 1) := by
        rw [show (9007199254740992 : Nat) = 2 ^ 53 by decide, ← Nat.pow_add]
        congr 1
        omega
      rw [this]
      exact hhi
    have hcr := carry (2 ^ (a - 52))
    refine fin _ ?_
    have hK : 4835703278458517 * m / 2 ^ (a - 52) + (decide (2 ^ (a - 52) < 2 * (4835703278458517 * m % 2 ^ (a - 52))) || (2 ^ (a - 52) == 2 * (4835703278458517 * m % 2 ^ (a - 52)) && 4835703278458517 * m / 2 ^ (a - 52) % 2 == 1)).toNat ≤ 9007199254740992 := Nat.le_trans hcr hdiv
    omega
  · -- among the least numbers
    have hl : max (-82 + (-1074 + (e : Int)) + (a : Int) - ((52 : Nat) : Int)) (-1074) = -1074 := by omega
    rw [hl]
    have e1 : (-82 + (-1074 + (e : Int)) - -1074).toNat = 0 := by omega
    have e2 : (-1074 - (-82 + (-1074 + (e : Int)))).toNat = 82 - e := by omega
    have e3 : ((-1074 : Int) - -1074).toNat = 0 := by omega
    rw [e1, e2, e3, Nat.shiftLeft_zero]
    by_cases hd : 82 - e ≤ a + 2
    · rw [cut_eq s _ (82 - e) (2 ^ (82 - e)) (by rw [← ha, Nat.min_eq_left hd])]
      have hcr := carry (2 ^ (82 - e))
      refine fin _ ?_
      generalize (decide (2 ^ (82 - e) < 2 * (4835703278458517 * m % 2 ^ (82 - e))) || (2 ^ (82 - e) == 2 * (4835703278458517 * m % 2 ^ (82 - e)) && 4835703278458517 * m / 2 ^ (82 - e) % 2 == 1)).toNat = one at hcr
      by_cases he0 : e = 0
      · subst he0
        have p82 : (2 : Nat) ^ (82 - 0) = 4835703278458516698824704 := by decide
        rw [p82] at hcr ⊢
        by_cases hm1 : m = 1
        · subst hm1
          have : (4835703278458517 * 1).log2 = 52 := by decide
          omega
        · omega
      · have hm52 := hme he0
        by_cases he1 : e = 1
        · subst he1
          have p81 : (2 : Nat) ^ (82 - 1) = 2417851639229258349412352 := by decide
          rw [p81] at hcr ⊢
          omega
        · have hdiv : 4835703278458517 * m / 2 ^ (82 - e) < 9007199254740992 := by
            rw [Nat.div_lt_iff_lt_mul (Nat.two_pow_pos _)]
            have : 2 ^ (a + 1) ≤ 9007199254740992 * 2 ^ (82 - e) := by
              rw [show (9007199254740992 : Nat) = 2 ^ 53 by decide, ← Nat.pow_add]
              exact Nat.pow_le_pow_right (by decide) (by omega)
            omega
          omega
    · rw [cut_eq s _ (82 - e) (2 ^ (a + 2)) (by rw [← ha, Nat.min_eq_right (by omega)])]
      have hlt : 4835703278458517 * m < 2 ^ (a + 2) := by
        have : 2 ^ (a + 2) = 2 * 2 ^ (a + 1) := by rw [Nat.pow_succ]; omega
        omega
      have hp2 : 2 ^ (a + 2) = 2 * 2 ^ (a + 1) := by rw [Nat.pow_succ]; omega
      rw [Nat.div_eq_of_lt hlt, Nat.mod_eq_of_lt hlt]
      have h5 : decide (2 ^ (a + 2) < 2 * (4835703278458517 * m)) = false := by rw [decide_eq_false_iff_not]; omega
      have h6 : (2 ^ (a + 2) == 2 * (4835703278458517 * m)) = false := by rw [beq_eq_false_iff_ne]; omega
      rw [h5, h6]
      refine fin _ ?_
      simp
      omega

/-- Positive and finite. -/
def posFin (x : Nat) : Bool := isNum x && (D.order x 0 == some .gt)

theorem order_zero_num (s : Bool) {r : Nat} (hr : r < 9218868437227405312) (h0 : mant r ≠ 0) : D.order (D.word s r) 0 = some (if s then .lt else .gt) := by
  have h1 : 0 < r := by
    rcases Nat.eq_zero_or_pos r with h | h
    · subst h; exact absurd (by decide) h0
    · exact h
  unfold Format.order
  rw [read_word s (by omega), if_pos hr, read_zero]
  simp only [Datum.order, Option.some.injEq]
  have hz : ∀ k, signed false 0 k = 0 := fun k => by rw [signed_false]; simp
  rw [hz]
  have h2 := shift_pos h0 (-1074 + (expo r : Int) - min (-1074 + (expo r : Int)) (-1074)).toNat
  generalize hq : mant r <<< (-1074 + (expo r : Int) - min (-1074 + (expo r : Int)) (-1074)).toNat = q at h2
  cases s
  · rw [signed_false, hq]
    simp only [Bool.false_eq_true, if_false]
    exact Int.compare_eq_gt.2 (by omega)
  · rw [signed_true, hq]
    simp only [if_true]
    exact Int.compare_eq_lt.2 (by omega)

/-- The three sorts of entries that are no NaN. -/
theorem sorts {d : Nat} (hd : d < 18446744073709551616) (hn : isNan d = false) : isZer d = true ∨ (isNum d = false ∧ ∃ s, d = D.word s 9218868437227405312) ∨ (isZer d = false ∧ ∃ s r, r < 9218868437227405312 ∧ mant r ≠ 0 ∧ d = D.word s r) := by
  obtain ⟨s, r, hr, rfl⟩ := word_split hd
  have hread := read_word s hr
  by_cases h1 : r < 9218868437227405312
  · rw [if_pos h1] at hread
    by_cases hm : mant r = 0
    · left; unfold isZer; rw [hread]; simp [hm]
    · right; right
      exact ⟨by unfold isZer; rw [hread]; simpa using hm, s, r, h1, hm, rfl⟩
  · rw [if_neg h1] at hread
    by_cases h2 : r = 9218868437227405312
    · rw [if_pos h2] at hread
      right; left
      exact ⟨by unfold isNum; rw [hread], s, by rw [h2]⟩
    · rw [if_neg h2] at hread
      unfold isNan at hn
      rw [hread] at hn
      cases hn

/-- The test that leaves an entry out. 'a' is the entry as the elimination has left it: itself, or a zero for a zero. -/
theorem left_out {a d : Nat} (hd : d < 18446744073709551616) (hn : isNan d = false) (ha : a = d ∨ (isZer a = true ∧ isZer d = true)) :
    ∃ t, D.mul 4472406533629990549 d = some t ∧ (D.order a t == some .lt || D.order a t == some .eq) = !posFin d := by
  have hcol : isNum 4472406533629990549 = true := by unfold isNum; rw [read_collinear]
  rcases sorts hd hn with hz | ⟨hnum, s, hw⟩ | ⟨hz, s, r, hr, h0, hw⟩
  · have haz : isZer a = true := by
      rcases ha with h | h
      · rw [h]; exact hz
      · exact h.1
    obtain ⟨u, i, e⟩ := zer_read hz
    have hm : D.mul 4472406533629990549 d = some (D.write (.number (false ^^ u) 0 (-82 + i))) := by
      unfold Format.mul
      rw [read_collinear, e]
      simp [Datum.product]
    refine ⟨_, hm, ?_⟩
    rw [order_zers haz (zer_write _ _)]
    have : posFin d = false := by
      unfold posFin
      rw [order_zero_eq.2 hz]
      simp
    rw [this]; rfl
  · have haz : a = d := by
      rcases ha with h | h
      · exact h
      · rw [zer_num h.2] at hnum; cases hnum
    have hread : D.read d = .infinity s := by
      rw [hw, read_word s (by omega), if_neg (by omega), if_pos rfl]
    have hm : D.mul 4472406533629990549 d = some d := by
      unfold Format.mul
      rw [read_collinear, hread]
      simp only [Datum.product]
      rw [if_neg (by decide)]
      simp [Format.write, D_inf, hw]
    refine ⟨_, hm, ?_⟩
    rw [haz, order_self.2 hn]
    have : posFin d = false := by unfold posFin; rw [hnum]; rfl
    rw [this]; rfl
  · have haz : a = d := by
      rcases ha with h | h
      · exact h
      · rw [hz] at h; cases h.2
    have hread : D.read d = .number s (mant r) (-1074 + (expo r : Int)) := by rw [hw, read_word s (by omega), if_pos hr]
    obtain ⟨r', hr', hne⟩ := small_round s hr h0
    have hm : D.mul 4472406533629990549 d = some (D.word s r') := by
      unfold Format.mul
      rw [read_collinear, hread]
      simp only [Datum.product, Option.map_some, Format.write, Bool.false_bne]
      first | rw [hne] | (simp only [Bool.false_xor]; rw [hne])
    refine ⟨_, hm, ?_⟩
    rw [haz, hw, order_rungs s hr' hr]
    have hnum : isNum (D.word s r) = true := by unfold isNum; rw [← hw, hread]
    have : posFin (D.word s r) = !s := by
      unfold posFin
      rw [hnum, order_zero_num s hr h0]
      cases s <;> rfl
    rw [this]
    cases s <;> rfl
end Go.Proofs.Qxb6603773a
