/-
  The certificate that FnWithinIsBreadthFirstBallInOrder checks, against what the search leaves: plain.
-/
import Derived.Test.Qxb6601668aBfs
import Derived.Test.Qxb6601668aSymWalk
namespace Go.Proofs.Qxb6601668a

/-- The place of a node among the first i + 1 of the list; -1 where it is none of them. -/
def rk (P : List Int) (i : Nat) (x : Int) : Int := if P.idxOf x ≤ i then (P.idxOf x : Int) else -1
/-- Its layer; 0 where it is none of them. -/
def ly (P : List Int) (lay : Nat → Nat) (i : Nat) (x : Int) : Int := if P.idxOf x ≤ i then (lay (P.idxOf x) : Int) else 0

theorem idx_get {P : List Int} (hn : P.Nodup) {i : Nat} (hi : i < P.length) : P.idxOf (P.getD i 0) = i := by
  simp only [List.getD_eq_getElem?_getD, List.getElem?_eq_getElem hi, Option.getD_some]
  exact hn.idxOf_getElem i hi

theorem get_idx {P : List Int} {x : Int} (h : P.idxOf x < P.length) : P.getD (P.idxOf x) 0 = x := by
  simp only [List.getD_eq_getElem?_getD, List.getElem?_eq_getElem h, Option.getD_some]
  exact List.getElem_idxOf h

theorem rk_start {v x : Int} {F : List Int} : rk (v :: F) 0 x = if x = v then 0 else -1 := by
  unfold rk
  by_cases e : x = v
  · subst e; simp
  · have : (v :: F).idxOf x ≠ 0 := by
      rw [List.idxOf_cons]
      have : (v == x) = false := by simpa using fun h => e h.symm
      simp [this]
    rw [if_neg (by omega), if_neg e]

theorem ly_start {v x : Int} {F : List Int} {lay : Nat → Nat} (h0 : lay 0 = 0) : ly (v :: F) lay 0 x = 0 := by
  unfold ly
  split
  · rename_i h
    have : (v :: F).idxOf x = 0 := by omega
    rw [this, h0]; rfl
  · rfl

theorem rk_next {P : List Int} (hn : P.Nodup) {i : Nat} (hi : i + 1 < P.length) (x : Int) : rk P (i + 1) x = if x = P.getD (i + 1) 0 then ((i : Int) + 1) else rk P i x := by
  by_cases e : x = P.getD (i + 1) 0
  · subst e
    unfold rk
    rw [idx_get hn hi]
    simp
  · have hne : P.idxOf x ≠ i + 1 := fun h => e (by rw [← h, get_idx (by omega)])
    unfold rk
    rw [if_neg e]
    by_cases h1 : P.idxOf x ≤ i
    · rw [if_pos h1, if_pos (by omega)]
    · rw [if_neg h1, if_neg (by omega)]

theorem ly_next {P : List Int} {lay : Nat → Nat} (hn : P.Nodup) {i : Nat} (hi : i + 1 < P.length) (x : Int) : ly P lay (i + 1) x = if x = P.getD (i + 1) 0 then (lay (i + 1) : Int) else ly P lay i x := by
  by_cases e : x = P.getD (i + 1) 0
  · subst e
    unfold ly
    rw [idx_get hn hi]
    simp
  · have hne : P.idxOf x ≠ i + 1 := fun h => e (by rw [← h, get_idx (by omega)])
    unfold ly
    rw [if_neg e]
    by_cases h1 : P.idxOf x ≤ i
    · rw [if_pos h1, if_pos (by omega)]
    · rw [if_neg h1, if_neg (by omega)]

/-- The earliest-listed neighbour so far. -/
def BestOk (R : Int → Int) (row : Nat → Int) (j : Nat) (best : Int) : Prop :=
  (best = -1 ∧ ∀ l, l < j → R (row l) < 0) ∨ (0 ≤ best ∧ 0 ≤ R best ∧ (∃ l, l < j ∧ row l = best) ∧ ∀ l, l < j → 0 ≤ R (row l) → R best ≤ R (row l))

theorem best_start (R : Int → Int) (row : Nat → Int) : BestOk R row 0 (-1) := Or.inl ⟨rfl, fun l h => by omega⟩

theorem best_skip {R : Int → Int} {row : Nat → Int} {j : Nat} {best : Int} (h : BestOk R row j best) (hx : R (row j) < 0) : BestOk R row (j + 1) best := by
  rcases h with ⟨h1, h2⟩ | ⟨h1, h2, ⟨l, h3, h4⟩, h5⟩
  · refine Or.inl ⟨h1, fun l hl => ?_⟩
    by_cases e : l = j
    · rw [e]; exact hx
    · exact h2 l (by omega)
  · refine Or.inr ⟨h1, h2, ⟨l, by omega, h4⟩, fun l hl hp => ?_⟩
    by_cases e : l = j
    · rw [e] at hp; omega
    · exact h5 l (by omega) hp

theorem best_keep {R : Int → Int} {row : Nat → Int} {j : Nat} {best : Int} (h : BestOk R row j best) (hb : 0 ≤ best) (hx : R best ≤ R (row j)) : BestOk R row (j + 1) best := by
  rcases h with ⟨h1, _⟩ | ⟨h1, h2, ⟨l, h3, h4⟩, h5⟩
  · omega
  · refine Or.inr ⟨h1, h2, ⟨l, by omega, h4⟩, fun l hl hp => ?_⟩
    by_cases e : l = j
    · rw [e]; exact hx
    · exact h5 l (by omega) hp

theorem best_take {R : Int → Int} {row : Nat → Int} {j : Nat} {best : Int} (h : BestOk R row j best) (hr : 0 ≤ row j) (hx : 0 ≤ R (row j)) (hlt : best < 0 ∨ R (row j) < R best) : BestOk R row (j + 1) (row j) := by
  refine Or.inr ⟨hr, hx, ⟨j, by omega, rfl⟩, fun l hl hp => ?_⟩
  by_cases e : l = j
  · rw [e]; exact Int.le_refl _
  · rcases h with ⟨h1, h2⟩ | ⟨h1, h2, _, h5⟩
    · have := h2 l (by omega); omega
    · have := h5 l (by omega) hp
      omega

/-- All that the law's loop asks of the search's list. -/
structure Ball (n : Nat) (L : Nat → Nat) (Z : Nat → Nat → Int) (v : Int) (F : List Int) (H : Nat) (par lay : Nat → Nat) : Prop where
  nodup : (v :: F).Nodup
  rng : ∀ x ∈ (v :: F), 0 ≤ x ∧ x < n
  lay0 : lay 0 = 0
  hi : ∀ i, i < F.length + 1 → lay i ≤ H
  lt : ∀ i, 0 < i → i < F.length + 1 → par i < i
  layS : ∀ i, 0 < i → i < F.length + 1 → lay i = lay (par i) + 1
  mono : ∀ i, 0 < i → i + 1 < F.length + 1 → par i ≤ par (i + 1)
  inc : ∀ i, 0 < i → i + 1 < F.length + 1 → par i = par (i + 1) → (v :: F).getD i 0 < (v :: F).getD (i + 1) 0
  edge : ∀ i, 0 < i → i < F.length + 1 → (v :: F).getD i 0 ∈ adjOf L Z ((v :: F).getD (par i) 0)
  first : ∀ i, 0 < i → i < F.length + 1 → ∀ r, r < par i → (v :: F).getD i 0 ∉ adjOf L Z ((v :: F).getD r 0)
  closed : ∀ i, i < F.length + 1 → lay i < H → ∀ x ∈ adjOf L Z ((v :: F).getD i 0), x ∈ (v :: F)

theorem srt_le {n : Nat} {L : Nat → Nat} {Z : Nat → Nat → Int} (h : Doc n L Z) {u : Nat} (hu : u < n) : ∀ (d i : Nat), i + d < L u → Z u i ≤ Z u (i + d)
  | 0, _, _ => Int.le_refl _
  | d + 1, i, hd => by
    have h1 := srt_le h hu d i (by omega)
    have h2 := h.srt u hu (i + (d + 1)) (by omega) hd
    have e : i + (d + 1) - 1 = i + d := by omega
    rw [e] at h2
    omega

theorem adjOf_srt {n : Nat} {L : Nat → Nat} {Z : Nat → Nat → Int} (h : Doc n L Z) (u : Int) (hu : 0 ≤ u ∧ u < n) : (adjOf L Z u).Pairwise (· ≤ ·) := by
  unfold adjOf
  rw [List.pairwise_iff_getElem]
  intro i j hi hj hij
  have hj' : j < L u.toNat := by simpa using hj
  have := srt_le h (u := u.toNat) (by omega) (j - i) i (by omega)
  rw [show i + (j - i) = j by omega] at this
  simpa using this

theorem ball_of {n : Nat} {L : Nat → Nat} {Z : Nat → Nat → Int} (h : Doc n L Z) {v : Int} (hv : 0 ≤ v ∧ v < n) (H : Nat) : ∃ par lay, Ball n L Z v (bfs (adjOf L Z) v H).1 H par lay := by
  obtain ⟨q, par, lay, hC, hq, _, hlo, hhi, h0⟩ := bfs_cert (adjOf_rng h.rng) (adjOf_srt h) hv H
  have hf := (bfs_fine (adjOf_rng h.rng) hv H).1
  refine ⟨par, lay, List.nodup_cons.2 ⟨hf.notv, hf.nodup⟩, ?_, h0, fun i hi => ?_, fun i a b => (hC.lt i a (by simpa using b)).1, fun i a b => hC.layS i a (by simpa using b), fun i a b => hC.mono i a (by simpa using b), fun i a b => hC.inc i a (by simpa using b), fun i a b => hC.edge i a (by simpa using b), fun i a b => hC.first i a (by simpa using b), fun i hi hl => ?_⟩
  · intro x hx
    rcases List.mem_cons.1 hx with e | e
    · rw [e]; exact hv
    · exact hf.rng x e
  · by_cases e : i < q
    · have := hlo i e; omega
    · have := hhi i (by omega) hi; omega
  · by_cases e : i < q
    · exact hC.closed i e
    · have := hhi i (by omega) hi; omega

section
variable {n : Nat} {L : Nat → Nat} {Z : Nat → Nat → Int} {v : Int} {F : List Int} {H : Nat} {par lay : Nat → Nat}

theorem Ball.layMono (h : Ball n L Z v F H par lay) : ∀ (i : Nat), i + 1 < F.length + 1 → lay i ≤ lay (i + 1) := by
  intro i
  induction i using Nat.strongRecOn with
  | _ i ih =>
    intro hi
    by_cases e : i = 0
    · subst e; rw [h.lay0]; omega
    · have m := h.mono i (by omega) hi
      rw [h.layS i (by omega) (by omega), h.layS (i + 1) (by omega) hi]
      have l1 := h.lt i (by omega) (by omega)
      have l2 := h.lt (i + 1) (by omega) hi
      -- from par i to par (i + 1) step by step
      have go : ∀ d, par i + d ≤ par (i + 1) → lay (par i) ≤ lay (par i + d) := by
        intro d
        induction d with
        | zero => intro _; exact Nat.le_refl _
        | succ d ihd =>
          intro hd
          have a := ihd (by omega)
          by_cases e2 : par i + d < i
          · have b := ih (par i + d) e2 (by omega)
            have e3 : par i + (d + 1) = par i + d + 1 := by omega
            rw [e3]; omega
          · omega
      have := go (par (i + 1) - par i) (by omega)
      rw [show par i + (par (i + 1) - par i) = par (i + 1) by omega] at this
      omega

/-- What the inner loop finds is the parent. -/
theorem Ball.best (hD : Doc n L Z) (h : Ball n L Z v F H par lay) {i : Nat} (hi : i < F.length) {u : Nat} (hu : F.getD i 0 = (u : Int)) {best : Int} (hb : BestOk (rk (v :: F) i) (Z u) (L u) best) :
    0 ≤ best ∧ best < n ∧ rk (v :: F) i best = (par (i + 1) : Int) ∧ ly (v :: F) lay i best = (lay (par (i + 1)) : Int) := by
  have hPu : (v :: F).getD (i + 1) 0 = (u : Int) := by rw [← hu]; simp
  have hlt := h.lt (i + 1) (by omega) (by omega)
  have hlen : (v :: F).length = F.length + 1 := by simp
  have hpm : (v :: F).getD (par (i + 1)) 0 ∈ (v :: F) := getD_mem (by omega)
  have hprng := h.rng _ hpm
  have hum : (u : Int) ∈ (v :: F) := by rw [← hPu]; exact getD_mem (by omega)
  have hurng := h.rng _ hum
  -- the parent is a neighbour of the node
  have hedge := h.edge (i + 1) (by omega) (by omega)
  rw [hPu] at hedge
  have hback := adjOf_sym hD _ hprng _ hedge
  obtain ⟨l, hl, hle⟩ := List.mem_map.1 hback
  have hl' : l < L u := by simpa using List.mem_range.1 hl
  have hzl : Z u l = (v :: F).getD (par (i + 1)) 0 := by simpa using hle
  have hidx := idx_get h.nodup (i := par (i + 1)) (by omega)
  have hrkp : rk (v :: F) i ((v :: F).getD (par (i + 1)) 0) = (par (i + 1) : Int) := by
    unfold rk
    rw [hidx, if_pos (by omega)]
  rcases hb with ⟨_, h2⟩ | ⟨h1, h2, ⟨l2, hl2, he2⟩, h5⟩
  · have := h2 l hl'
    rw [hzl, hrkp] at this
    omega
  · have h6 := h5 l hl' (by rw [hzl, hrkp]; omega)
    rw [hzl, hrkp] at h6
    -- the place of best
    have hbi : (v :: F).idxOf best ≤ i := by
      unfold rk at h2
      split at h2
      · assumption
      · omega
    have hrb : rk (v :: F) i best = ((v :: F).idxOf best : Int) := by unfold rk; rw [if_pos hbi]
    have hbg : (v :: F).getD ((v :: F).idxOf best) 0 = best := get_idx (by omega)
    -- the node is a neighbour of best
    have hub : (u : Int) ∈ adjOf L Z best := by
      have hbm : best ∈ adjOf L Z (u : Int) := by
        unfold adjOf
        exact List.mem_map.2 ⟨l2, by simpa using hl2, by simpa using he2⟩
      exact adjOf_sym hD _ hurng _ hbm
    have hge : par (i + 1) ≤ (v :: F).idxOf best := by
      rcases Nat.lt_or_ge ((v :: F).idxOf best) (par (i + 1)) with hc | hc
      · have := h.first (i + 1) (by omega) (by omega) _ hc
        rw [hPu, hbg] at this
        exact absurd hub this
      · exact hc
    have heq : (v :: F).idxOf best = par (i + 1) := by omega
    have hbm : best ∈ (v :: F) := by rw [← hbg]; exact getD_mem (by omega)
    refine ⟨h1, (h.rng _ hbm).2, by rw [hrb, heq], ?_⟩
    unfold ly
    rw [if_pos hbi, heq]

/-- The keys strictly increase. -/
theorem Ball.keys (h : Ball n L Z v F H par lay) {i : Nat} (hi : i < F.length) : lay (par (i + 1)) + 1 ≤ H ∧ lay i ≤ lay (par (i + 1)) + 1 ∧ (lay (par (i + 1)) + 1 = lay i → 0 < i ∧ par i ≤ par (i + 1) ∧ (par (i + 1) = par i → (v :: F).getD i 0 < F.getD i 0)) := by
  have e := h.layS (i + 1) (by omega) (by omega)
  refine ⟨by rw [← e]; exact h.hi _ (by omega), by rw [← e]; exact h.layMono i (by omega), fun he => ?_⟩
  have h0 : 0 < i := by
    rcases Nat.eq_zero_or_pos i with h0 | h0
    · rw [h0, h.lay0] at he; omega
    · exact h0
  refine ⟨h0, h.mono i h0 (by omega), fun hp => ?_⟩
  have := h.inc i h0 (by omega) hp.symm
  simpa using this

/-- A node that has not come yet bears no place. -/
theorem Ball.fresh (h : Ball n L Z v F H par lay) {i : Nat} (hi : i < F.length) : rk (v :: F) i (F.getD i 0) = -1 := by
  have hidx := idx_get h.nodup (i := i + 1) (by simp; omega)
  have : (v :: F).getD (i + 1) 0 = F.getD i 0 := by simp
  rw [this] at hidx
  unfold rk
  rw [hidx, if_neg (by omega)]

/-- At the end every node of the list bears its place. -/
theorem Ball.ranked (x : Int) (hx : x ∈ (v :: F)) : 0 ≤ rk (v :: F) F.length x := by
  have := List.idxOf_lt_length_iff.2 hx
  simp only [List.length_cons] at this
  unfold rk
  rw [if_pos (by omega)]
  omega

theorem Ball.layAt (h : Ball n L Z v F H par lay) {i : Nat} (hi : i < F.length) : ly (v :: F) lay F.length (F.getD i 0) = (lay (i + 1) : Int) := by
  have hidx := idx_get h.nodup (i := i + 1) (by simp; omega)
  have : (v :: F).getD (i + 1) 0 = F.getD i 0 := by simp
  rw [this] at hidx
  unfold ly
  rw [hidx, if_pos (by omega)]

end
end Go.Proofs.Qxb6601668a
