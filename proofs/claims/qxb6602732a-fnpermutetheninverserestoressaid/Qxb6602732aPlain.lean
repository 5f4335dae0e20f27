/-
  Permuting in place by cycles, as plain mathematics; and the bit set that tells which places are filled.
-/
import Derived.WalkKit
namespace Go.Proofs.Qxb6602732a

/-! ### the bit set -/
theorem pow_wrap (k : Nat) (hk : k < 64) : IntKind.u64.wrap ((2 : Int) ^ k) = ((2 ^ k : Nat) : Int) := by
  have h : 2 ^ k < 2 ^ 64 := Nat.pow_lt_pow_right (by decide) hk
  have e : ((2 : Int) ^ k) = ((2 ^ k : Nat) : Int) := by simp
  rw [e, IntKind.wrap_u64]
  generalize 2 ^ k = p at h
  omega

theorem pow_lt (k : Nat) (hk : k < 64) : 2 ^ k < 18446744073709551616 := by
  have h : 2 ^ k < 2 ^ 64 := Nat.pow_lt_pow_right (by decide) hk
  simpa using h

theorem and_pow (m k : Nat) : (m &&& 2 ^ k = 0) ↔ m.testBit k = false := by
  constructor
  · intro h
    have := congrArg (fun x => x.testBit k) h
    simpa [Nat.testBit_and, Nat.testBit_two_pow] using this
  · intro h
    apply Nat.eq_of_testBit_eq
    intro i
    rw [Nat.testBit_and, Nat.testBit_two_pow, Nat.zero_testBit]
    by_cases e : k = i
    · subst e; simp [h]
    · simp [e]

theorem bit_tested (m k : Nat) (hm : m < 18446744073709551616) (hk : k < 64) : (bits .and .u64 (m : Int) (IntKind.u64.wrap ((2 : Int) ^ k)) != 0) = m.testBit k := by
  rw [pow_wrap k hk, bits_and_u64_nat _ _ hm (pow_lt k hk)]
  cases h : m.testBit k with
  | false =>
    have := (and_pow m k).2 h
    rw [this]; rfl
  | true =>
    have : m &&& 2 ^ k ≠ 0 := fun e => by rw [(and_pow m k).1 e] at h; cases h
    simp [this]

theorem bit_laid (m k : Nat) (hm : m < 18446744073709551616) (hk : k < 64) : bits .or .u64 (m : Int) (IntKind.u64.wrap ((2 : Int) ^ k)) = ((m ||| 2 ^ k : Nat) : Int) := by
  rw [pow_wrap k hk, bits_or_u64_nat _ _ hm (pow_lt k hk)]

theorem laid_lt (m k : Nat) (hm : m < 18446744073709551616) (hk : k < 64) : m ||| 2 ^ k < 18446744073709551616 := by
  have hp := pow_lt k hk
  have hx : m ||| 2 ^ k < 2 ^ 64 := Nat.or_lt_two_pow (by omega) (by omega)
  simpa using hx

theorem laid_bit (m k t : Nat) : (m ||| 2 ^ k).testBit t = (m.testBit t || decide (t = k)) := by
  rw [Nat.testBit_or, Nat.testBit_two_pow]
  congr 1
  exact decide_eq_decide.2 ⟨fun h => h.symm, fun h => h.symm⟩

/-! ### the cycles -/
/-- How many places are not filled. -/
def unpl (n : Nat) (pl : Nat → Bool) : Nat := ((List.range n).filter (fun t => !pl t)).length

theorem unpl_lt {n : Nat} {pl pl' : Nat → Bool} {j : Nat} (hj : j < n) (h0 : pl j = false) (h1 : pl' j = true) (hs : ∀ t, pl t = true → pl' t = true) : unpl n pl' < unpl n pl := by
  unfold unpl
  induction n with
  | zero => omega
  | succ n ih =>
    have hle : ∀ m : Nat, ((List.range m).filter (fun t => !pl' t)).length ≤ ((List.range m).filter (fun t => !pl t)).length := by
      intro m
      induction m with
      | zero => simp
      | succ m ihm =>
        rw [List.range_succ, List.filter_append, List.filter_append, List.length_append, List.length_append]
        cases hp : pl m with
        | true => simp [hp, hs m hp]; exact ihm
        | false =>
          have : ([m].filter (fun t => !pl' t)).length ≤ 1 := by
            have := List.length_filter_le (fun t => !pl' t) [m]
            simpa using this
          simp [hp] at this ⊢
          omega
    rw [List.range_succ, List.filter_append, List.filter_append, List.length_append, List.length_append]
    by_cases e : j = n
    · subst e
      have := hle j
      simp [h0, h1]
      omega
    · have := ih (by omega)
      cases hp : pl n with
      | true => simp [hp, hs n hp]; exact this
      | false =>
        have h2 : ([n].filter (fun t => !pl' t)).length ≤ 1 := by
          have := List.length_filter_le (fun t => !pl' t) [n]
          simpa using this
        simp [hp] at h2 ⊢
        omega

/-- Between two cycles. -/
structure Outer {α : Type} (n : Nat) (ord : Nat → Nat) (S0 : Nat → α) (pl : Nat → Bool) (S : Nat → α) : Prop where
  back : ∀ t, t < n → pl (ord t) = true → pl t = true
  val : ∀ t, t < n → S t = if pl t then S0 (ord t) else S0 t

/-- In a cycle that began at place k; place j is to be filled. -/
structure Inner {α : Type} (n : Nat) (ord : Nat → Nat) (S0 : Nat → α) (pb : Nat → Bool) (k j : Nat) (pl : Nat → Bool) (S : Nat → α) : Prop where
  jn : j < n
  jp : pl j = false
  back : ∀ t, t < n → pl (ord t) = true → pl t = true ∨ ord t = k
  val : ∀ t, t < n → S t = if pl t then S0 (ord t) else S0 t
  via : j = k ∨ (pl k = true ∧ ∃ s, s < n ∧ pl s = true ∧ ord s = j)
  sub : ∀ t, pb t = true → pl t = true

section
variable {α : Type} {n : Nat} {ord : Nat → Nat} {S0 S : Nat → α} {pl pl' pb : Nat → Bool} {k j : Nat}

theorem outer_start (n : Nat) (ord : Nat → Nat) (S0 : Nat → α) : Outer n ord S0 (fun _ => false) S0 := ⟨fun _ _ h => (by cases h), fun _ _ => rfl⟩

theorem inner_start (h : Outer n ord S0 pl S) (hk : k < n) (hp : pl k = false) : Inner n ord S0 pl k k pl S :=
  ⟨hk, hp, fun t ht hb => Or.inl (h.back t ht hb), h.val, Or.inl rfl, fun _ h => h⟩

theorem inner_old (h : Inner n ord S0 pb k j pl S) (hinj : ∀ s t, s < n → t < n → ord s = ord t → s = t) (hne : ord j ≠ k) : pl (ord j) = false ∧ ord j ≠ j := by
  refine ⟨?_, fun e => ?_⟩
  · cases hp : pl (ord j) with
    | false => rfl
    | true =>
      rcases h.back j h.jn hp with h1 | h1
      · rw [h.jp] at h1; cases h1
      · exact absurd h1 hne
  · rcases h.via with h1 | ⟨_, s, hs, hps, hso⟩
    · exact hne (e.trans h1)
    · have := hinj s j hs h.jn (hso.trans e.symm)
      rw [this, h.jp] at hps
      cases hps

theorem inner_step (h : Inner n ord S0 pb k j pl S) (hr : ∀ t, t < n → ord t < n) (hinj : ∀ s t, s < n → t < n → ord s = ord t → s = t) (hne : ord j ≠ k) (hl : ∀ t, pl' t = (pl t || decide (t = j))) :
    Inner n ord S0 pb k (ord j) pl' (fun t => if t = j then S (ord j) else S t) := by
  obtain ⟨hf, hoj⟩ := inner_old h hinj hne
  have hj := h.jn
  refine ⟨hr j hj, by rw [hl, hf]; simpa using hoj, fun t ht hb => ?_, fun t ht => ?_, Or.inr ⟨?_, j, hj, by rw [hl]; simp, rfl⟩, fun t ht => by rw [hl, h.sub t ht]; rfl⟩
  · rw [hl] at hb
    rw [hl]
    simp only [Bool.or_eq_true, decide_eq_true_eq] at hb ⊢
    rcases hb with hb | hb
    · rcases h.back t ht hb with h1 | h1
      · exact Or.inl (Or.inl h1)
      · exact Or.inr h1
    · rcases h.via with h1 | ⟨_, s, hs, hps, hso⟩
      · exact Or.inr (hb.trans h1)
      · have := hinj s t hs ht (hso.trans hb.symm)
        exact Or.inl (Or.inl (this ▸ hps))
  · by_cases e : t = j
    · subst e
      rw [if_pos rfl, hl]
      have := h.val (ord t) (hr t ht)
      rw [hf] at this
      simpa using this
    · rw [if_neg e, hl]
      have := h.val t ht
      simpa [e] using this
  · rw [hl]
    rcases h.via with h1 | ⟨h1, _⟩
    · simp [h1]
    · simp [h1]

theorem inner_end (h : Inner n ord S0 pb k j pl S) (hinj : ∀ s t, s < n → t < n → ord s = ord t → s = t) (he : ord j = k) (hl : ∀ t, pl' t = (pl t || decide (t = j))) :
    Outer n ord S0 pl' (fun t => if t = j then S0 k else S t) ∧ pl' k = true ∧ ∀ t, pb t = true → pl' t = true := by
  have hj := h.jn
  refine ⟨⟨fun t ht hb => ?_, fun t ht => ?_⟩, ?_, fun t ht => by rw [hl, h.sub t ht]; rfl⟩
  · rw [hl] at hb
    rw [hl]
    simp only [Bool.or_eq_true, decide_eq_true_eq] at hb ⊢
    rcases hb with hb | hb
    · rcases h.back t ht hb with h1 | h1
      · exact Or.inl h1
      · exact Or.inr (hinj t j ht hj (h1.trans he.symm))
    · rcases h.via with h1 | ⟨_, s, hs, hps, hso⟩
      · exact Or.inr (hinj t j ht hj (hb.trans (h1.trans he.symm)))
      · have := hinj s t hs ht (hso.trans hb.symm)
        exact Or.inl (this ▸ hps)
  · by_cases e : t = j
    · subst e
      rw [if_pos rfl, hl, he]
      simp
    · rw [if_neg e, hl]
      have := h.val t ht
      simpa [e] using this
  · rw [hl]
    rcases h.via with h1 | ⟨h1, _⟩
    · simp [h1]
    · simp [h1]

theorem outer_end (h : Outer n ord S0 pl S) (hall : ∀ t, t < n → pl t = true ∨ ord t = t) (t : Nat) (ht : t < n) : S t = S0 (ord t) := by
  have := h.val t ht
  cases hp : pl t with
  | true => rw [hp] at this; simpa using this
  | false =>
    rw [hp] at this
    rcases hall t ht with h1 | h1
    · rw [hp] at h1; cases h1
    · rw [h1]; simpa using this
end

/-! ### a permutation is onto -/
theorem pigeonN : ∀ (n : Nat) (f : List Nat), f.Nodup → (∀ x ∈ f, x < n) → f.length ≤ n
  | 0, f, _, hr => by
    cases f with
    | nil => simp
    | cons x xs => have := hr x (List.mem_cons_self ..); omega
  | n + 1, f, hn, hr => by
    have hf : (f.filter (fun x => decide (x ≠ n))).length ≤ n := by
      refine pigeonN n _ (List.Pairwise.filter _ hn) (fun x hx => ?_)
      have h1 := List.mem_filter.1 hx
      have h2 := hr x h1.1
      have h3 : x ≠ n := by simpa using h1.2
      omega
    have hone : ∀ (g : List Nat), g.Nodup → g.length ≤ (g.filter (fun x => decide (x ≠ n))).length + 1 := by
      intro g
      induction g with
      | nil => simp
      | cons y ys ih =>
        intro hg
        have hg' := List.nodup_cons.1 hg
        by_cases e : y = n
        · subst e
          have : ys.filter (fun x => decide (x ≠ y)) = ys := by
            rw [List.filter_eq_self]
            intro a ha
            simp
            exact fun e => hg'.1 (e ▸ ha)
          rw [List.filter_cons_of_neg (by simp), this]
          simp
        · have := ih hg'.2
          simp [e] at this ⊢
          omega
    have := hone f hn
    omega

theorem onto {n : Nat} {ord : Nat → Nat} (hr : ∀ t, t < n → ord t < n) (hinj : ∀ s t, s < n → t < n → ord s = ord t → s = t) (y : Nat) (hy : y < n) : ∃ t, t < n ∧ ord t = y := by
  refine Classical.byContradiction fun hno => ?_
  have hnd : (y :: (List.range n).map ord).Nodup := by
    rw [List.nodup_cons]
    refine ⟨fun hm => ?_, ?_⟩
    · obtain ⟨t, ht, he⟩ := List.mem_map.1 hm
      exact hno ⟨t, List.mem_range.1 ht, he⟩
    · unfold List.Nodup
      rw [List.pairwise_iff_getElem]
      intro i j hi hj hij
      simp at hi hj ⊢
      intro e
      have := hinj i j hi hj e
      omega
  have := pigeonN n _ hnd (fun x hx => by
    rcases List.mem_cons.1 hx with e | e
    · rw [e]; exact hy
    · obtain ⟨t, ht, he⟩ := List.mem_map.1 e
      rw [← he]; exact hr t (List.mem_range.1 ht))
  simp only [List.length_cons, List.length_map, List.length_range] at this
  omega
end Go.Proofs.Qxb6602732a
