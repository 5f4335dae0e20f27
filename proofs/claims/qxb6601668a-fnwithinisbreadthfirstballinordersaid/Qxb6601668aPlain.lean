/-
  The breadth-first search as plain mathematics: no Go in sight.
-/
import Derived.KernelRfl
namespace Go.Proofs.Qxb6601668a

/-- What one list of neighbours adds to what has been found. -/
def visit (v : Int) : List Int → List Int → List Int
  | f, [] => f
  | f, x :: xs => if x = v ∨ x ∈ f then visit v f xs else visit v (f ++ [x]) xs

/-- What a frontier adds. -/
def sweep (adj : Int → List Int) (v : Int) : List Int → List Int → List Int
  | f, [] => f
  | f, u :: us => sweep adj v (visit v f (adj u)) us

/-- What has been found, and the frontier, after so many rounds. -/
def bfs (adj : Int → List Int) (v : Int) : Nat → List Int × List Int
  | 0 => ([], [v])
  | k + 1 => (sweep adj v (bfs adj v k).1 (bfs adj v k).2, (sweep adj v (bfs adj v k).1 (bfs adj v k).2).drop (bfs adj v k).1.length)

theorem visit_append (v : Int) (ys : List Int) : ∀ (xs f : List Int), visit v f (xs ++ ys) = visit v (visit v f xs) ys
  | [], _ => rfl
  | x :: xs, f => by
    simp only [List.cons_append, visit]
    split
    · exact visit_append v ys xs f
    · exact visit_append v ys xs (f ++ [x])

theorem visit_snoc_old {v x : Int} {xs f : List Int} (h : x = v ∨ x ∈ visit v f xs) : visit v f (xs ++ [x]) = visit v f xs := by
  rw [visit_append, visit, if_pos h, visit]
theorem visit_snoc_new {v x : Int} {xs f : List Int} (h : ¬ (x = v ∨ x ∈ visit v f xs)) : visit v f (xs ++ [x]) = visit v f xs ++ [x] := by
  rw [visit_append, visit, if_neg h, visit]

theorem sweep_append (adj : Int → List Int) (v : Int) (ys : List Int) : ∀ (xs f : List Int), sweep adj v f (xs ++ ys) = sweep adj v (sweep adj v f xs) ys
  | [], _ => rfl
  | x :: xs, f => by
    simp only [List.cons_append, sweep]
    exact sweep_append adj v ys xs _

theorem sweep_snoc (adj : Int → List Int) (v u : Int) (xs f : List Int) : sweep adj v f (xs ++ [u]) = visit v (sweep adj v f xs) (adj u) := by
  rw [sweep_append]; rfl

/-- What is found: no node twice, never v, each in range. -/
structure Fine (n : Nat) (v : Int) (f : List Int) : Prop where
  nodup : f.Nodup
  notv : v ∉ f
  rng : ∀ x ∈ f, 0 ≤ x ∧ x < n

theorem fine_nil (n : Nat) (v : Int) : Fine n v [] := ⟨List.nodup_nil, by simp, by simp⟩

theorem fine_snoc {n : Nat} {v x : Int} {f : List Int} (h : Fine n v f) (hx : ¬ (x = v ∨ x ∈ f)) (hr : 0 ≤ x ∧ x < n) : Fine n v (f ++ [x]) := by
  refine ⟨?_, ?_, ?_⟩
  · rw [List.nodup_append]
    refine ⟨h.nodup, by simp, fun a ha b hb => ?_⟩
    simp at hb
    subst hb
    exact fun e => hx (Or.inr (e ▸ ha))
  · have := h.notv
    simp only [List.mem_append, List.mem_singleton, not_or]
    exact ⟨this, fun e => hx (Or.inl e.symm)⟩
  · intro y hy
    simp only [List.mem_append, List.mem_singleton] at hy
    rcases hy with hy | rfl
    · exact h.rng y hy
    · exact hr

theorem fine_visit {n : Nat} {v : Int} : ∀ (xs f : List Int), Fine n v f → (∀ x ∈ xs, 0 ≤ x ∧ x < n) → Fine n v (visit v f xs)
  | [], _, h, _ => h
  | x :: xs, f, h, hr => by
    unfold visit
    split
    · exact fine_visit xs f h (fun y hy => hr y (List.mem_cons_of_mem _ hy))
    · rename_i hx
      exact fine_visit xs _ (fine_snoc h hx (hr x (List.mem_cons_self ..))) (fun y hy => hr y (List.mem_cons_of_mem _ hy))

theorem fine_sweep {n : Nat} {v : Int} {adj : Int → List Int} : ∀ (us f : List Int), Fine n v f → (∀ u ∈ us, ∀ x ∈ adj u, 0 ≤ x ∧ x < n) → Fine n v (sweep adj v f us)
  | [], _, h, _ => h
  | u :: us, _, h, hr => fine_sweep us _ (fine_visit _ _ h (hr u (List.mem_cons_self ..))) (fun y hy => hr y (List.mem_cons_of_mem _ hy))

/-- Numbers in range, none twice: no more than the range holds. -/
theorem pigeon : ∀ (n : Nat) (f : List Int), f.Nodup → (∀ x ∈ f, 0 ≤ x ∧ x < n) → f.length ≤ n
  | 0, f, _, hr => by
    cases f with
    | nil => simp
    | cons x xs => have := hr x (List.mem_cons_self ..); omega
  | n + 1, f, hn, hr => by
    have hf : (f.filter (fun x => decide (x ≠ (n : Int)))).length ≤ n := by
      refine pigeon n _ (List.Pairwise.filter _ hn) (fun x hx => ?_)
      have h1 := List.mem_filter.1 hx
      have h2 := hr x h1.1
      have h3 : x ≠ (n : Int) := by simpa using h1.2
      omega
    have hone : ∀ (g : List Int), g.Nodup → g.length ≤ (g.filter (fun x => decide (x ≠ (n : Int)))).length + 1 := by
      intro g
      induction g with
      | nil => simp
      | cons y ys ih =>
        intro hg
        have hg' := List.nodup_cons.1 hg
        by_cases e : y = (n : Int)
        · subst e
          have : ys.filter (fun x => decide (x ≠ (n : Int))) = ys := by
            rw [List.filter_eq_self]
            intro a ha
            simp
            exact fun e => hg'.1 (e ▸ ha)
          rw [List.filter_cons_of_neg (by simp), this]
          simp
        · have := ih hg'.2
          simp [e] at this ⊢
          omega
    have := hone f hn
    omega

theorem Fine.le {n : Nat} {v : Int} {f : List Int} (h : Fine n v f) : f.length ≤ n := pigeon n f h.nodup h.rng

theorem bfs_fine {n : Nat} {v : Int} {adj : Int → List Int} (hr : ∀ u : Int, 0 ≤ u ∧ u < n → ∀ x ∈ adj u, 0 ≤ x ∧ x < n) (hv : 0 ≤ v ∧ v < n) : ∀ k, Fine n v (bfs adj v k).1 ∧ ∀ u ∈ (bfs adj v k).2, 0 ≤ u ∧ u < n
  | 0 => ⟨fine_nil n v, fun u hu => by simp [bfs] at hu; subst hu; exact hv⟩
  | k + 1 => by
    have ih := bfs_fine hr hv k
    have h := fine_sweep (bfs adj v k).2 _ ih.1 (fun u hu x hx => hr u (ih.2 u hu) x hx)
    exact ⟨h, fun u hu => h.rng u (List.mem_of_mem_drop hu)⟩

theorem bfs_frl {n : Nat} {v : Int} {adj : Int → List Int} (h : ∀ k, Fine n v (bfs adj v k).1) : ∀ k, (bfs adj v k).2.length ≤ n + 1
  | 0 => by simp [bfs]
  | k + 1 => by
    have := (h (k + 1)).le
    simp only [bfs, List.length_drop] at this ⊢
    omega

/-- One visit only adds at the end. -/
theorem visit_grows (v : Int) : ∀ (xs f : List Int), ∃ t, visit v f xs = f ++ t
  | [], f => ⟨[], by simp [visit]⟩
  | x :: xs, f => by
    unfold visit
    split
    · exact visit_grows v xs f
    · obtain ⟨t, ht⟩ := visit_grows v xs (f ++ [x])
      exact ⟨x :: t, by rw [ht]; simp⟩

theorem sweep_grows (adj : Int → List Int) (v : Int) : ∀ (us f : List Int), ∃ t, sweep adj v f us = f ++ t
  | [], f => ⟨[], by simp [sweep]⟩
  | u :: us, f => by
    obtain ⟨t1, h1⟩ := visit_grows v (adj u) f
    obtain ⟨t2, h2⟩ := sweep_grows adj v us (visit v f (adj u))
    exact ⟨t1 ++ t2, by rw [sweep, h2, h1, List.append_assoc]⟩

theorem bfs_grows (adj : Int → List Int) (v : Int) (k : Nat) : ∃ t, (bfs adj v (k + 1)).1 = (bfs adj v k).1 ++ t := sweep_grows adj v _ _
end Go.Proofs.Qxb6601668a
