/-
  Which nodes the search finds: those that a walk of at most so many steps reaches. In an undirected graph that is symmetric.
-/
import Derived.Test.Qxb6601668aPlain
namespace Go.Proofs.Qxb6601668a

/-- A walk of just k steps leads from v to x. -/
def path (A : Int → List Int) (v : Int) : Nat → Int → Prop
  | 0, x => x = v
  | k + 1, x => ∃ y, path A v k y ∧ x ∈ A y

theorem mem_visit (v x : Int) : ∀ xs f : List Int, x ∈ visit v f xs ↔ x ∈ f ∨ (x ≠ v ∧ x ∈ xs)
  | [], f => by simp [visit]
  | y :: ys, f => by
    unfold visit
    by_cases h : y = v ∨ y ∈ f
    · rw [if_pos h, mem_visit v x ys f]
      constructor
      · rintro (h1 | ⟨h1, h2⟩)
        · exact Or.inl h1
        · exact Or.inr ⟨h1, List.mem_cons_of_mem _ h2⟩
      · rintro (h1 | ⟨h1, h2⟩)
        · exact Or.inl h1
        · rcases List.mem_cons.1 h2 with e | e
          · subst e
            rcases h with h | h
            · exact absurd h h1
            · exact Or.inl h
          · exact Or.inr ⟨h1, e⟩
    · rw [if_neg h, mem_visit v x ys (f ++ [y])]
      have hy : y ≠ v := fun e => h (Or.inl e)
      simp only [List.mem_append, List.mem_cons, List.not_mem_nil, or_false]
      constructor
      · rintro ((h1 | h1) | ⟨h1, h2⟩)
        · exact Or.inl h1
        · exact Or.inr ⟨by rw [h1]; exact hy, Or.inl h1⟩
        · exact Or.inr ⟨h1, Or.inr h2⟩
      · rintro (h1 | ⟨h1, h2 | h2⟩)
        · exact Or.inl (Or.inl h1)
        · exact Or.inl (Or.inr h2)
        · exact Or.inr ⟨h1, h2⟩

theorem mem_sweep (A : Int → List Int) (v x : Int) : ∀ us f : List Int, x ∈ sweep A v f us ↔ x ∈ f ∨ (x ≠ v ∧ ∃ u ∈ us, x ∈ A u)
  | [], f => by simp [sweep]
  | u :: us, f => by
    unfold sweep
    rw [mem_sweep A v x us, mem_visit]
    constructor
    · rintro ((h | ⟨h1, h2⟩) | ⟨h1, y, h2, h3⟩)
      · exact Or.inl h
      · exact Or.inr ⟨h1, u, List.mem_cons_self .., h2⟩
      · exact Or.inr ⟨h1, y, List.mem_cons_of_mem _ h2, h3⟩
    · rintro (h | ⟨h1, y, h2, h3⟩)
      · exact Or.inl (Or.inl h)
      · rcases List.mem_cons.1 h2 with e | e
        · subst e; exact Or.inl (Or.inr ⟨h1, h3⟩)
        · exact Or.inr ⟨h1, y, e, h3⟩

theorem bfs_reach (A : Int → List Int) (v : Int) : ∀ k, (∀ x, (x = v ∨ x ∈ (bfs A v k).1) ↔ ∃ j, j ≤ k ∧ path A v j x) ∧ (∀ y, (y = v ∨ y ∈ (bfs A v k).1) → y ∉ (bfs A v k).2 → ∀ x ∈ A y, x = v ∨ x ∈ (bfs A v k).1) ∧ ∀ y ∈ (bfs A v k).2, y = v ∨ y ∈ (bfs A v k).1
  | 0 => by
    refine ⟨fun x => ⟨fun h => ?_, fun h => ?_⟩, fun y hy hn => ?_, fun y hy => ?_⟩
    · simp [bfs] at h; exact ⟨0, Nat.le_refl _, h⟩
    · obtain ⟨j, hj, hp⟩ := h
      have : j = 0 := by omega
      subst this
      exact Or.inl hp
    · simp [bfs] at hy hn; exact absurd hy hn
    · simp [bfs] at hy; exact Or.inl hy
  | k + 1 => by
    obtain ⟨ih1, ih2, ih3⟩ := bfs_reach A v k
    have hm : ∀ x, x ∈ (bfs A v (k + 1)).1 ↔ x ∈ (bfs A v k).1 ∨ (x ≠ v ∧ ∃ u ∈ (bfs A v k).2, x ∈ A u) := fun x => mem_sweep A v x _ _
    obtain ⟨t, ht⟩ := bfs_grows A v k
    have hfr : (bfs A v (k + 1)).2 = t := by
      have : (bfs A v (k + 1)).2 = (bfs A v (k + 1)).1.drop (bfs A v k).1.length := rfl
      rw [this, ht]
      simp
    refine ⟨fun x => ⟨fun h => ?_, fun h => ?_⟩, fun y hy hn x hx => ?_, fun y hy => ?_⟩
    · rcases h with h | h
      · exact ⟨0, Nat.zero_le _, h⟩
      · rcases (hm x).1 h with h | ⟨_, u, hu, hxu⟩
        · obtain ⟨j, hj, hp⟩ := (ih1 x).1 (Or.inr h)
          exact ⟨j, by omega, hp⟩
        · obtain ⟨j, hj, hp⟩ := (ih1 u).1 (ih3 u hu)
          exact ⟨j + 1, by omega, u, hp, hxu⟩
    · obtain ⟨j, hj, hp⟩ := h
      match j, hp with
      | 0, hp => exact Or.inl hp
      | j + 1, ⟨y, hy, hxy⟩ =>
        have hyS := (ih1 y).2 ⟨j, by omega, hy⟩
        by_cases e : x = v
        · exact Or.inl e
        · by_cases hf : y ∈ (bfs A v k).2
          · exact Or.inr ((hm x).2 (Or.inr ⟨e, y, hf, hxy⟩))
          · rcases ih2 y hyS hf x hxy with h | h
            · exact Or.inl h
            · exact Or.inr ((hm x).2 (Or.inl h))
    · rw [hfr] at hn
      have hyS : y = v ∨ y ∈ (bfs A v k).1 := by
        rcases hy with h | h
        · exact Or.inl h
        · rw [ht] at h
          rcases List.mem_append.1 h with h | h
          · exact Or.inr h
          · exact absurd h hn
      by_cases e : x = v
      · exact Or.inl e
      · by_cases hf : y ∈ (bfs A v k).2
        · exact Or.inr ((hm x).2 (Or.inr ⟨e, y, hf, hx⟩))
        · rcases ih2 y hyS hf x hx with h | h
          · exact Or.inl h
          · exact Or.inr ((hm x).2 (Or.inl h))
    · rw [hfr] at hy
      right
      rw [ht]
      exact List.mem_append_right _ hy

/-- A walk can begin with its first step. -/
theorem path_front {A : Int → List Int} {v : Int} : ∀ (k : Nat) (y x : Int), y ∈ A v → path A y k x → path A v (k + 1) x
  | 0, y, x, hy, hp => ⟨v, rfl, by cases hp; exact hy⟩
  | k + 1, y, x, hy, ⟨z, hz, hx⟩ => ⟨z, path_front k y z hy hz, hx⟩

/-- In range, with every link given both ways, a walk can be gone back. -/
theorem path_back {A : Int → List Int} {n : Nat} (hr : ∀ u : Int, 0 ≤ u ∧ u < n → ∀ x ∈ A u, 0 ≤ x ∧ x < n) (hs : ∀ u : Int, 0 ≤ u ∧ u < n → ∀ x ∈ A u, u ∈ A x) {v : Int} (hv : 0 ≤ v ∧ v < n) : ∀ (k : Nat) (x : Int), path A v k x → (0 ≤ x ∧ x < n) ∧ path A x k v
  | 0, x, hp => by cases hp; exact ⟨hv, rfl⟩
  | k + 1, x, ⟨y, hy, hx⟩ => by
    have ih := path_back hr hs hv k y hy
    exact ⟨hr y ih.1 x hx, path_front k y v (hs y ih.1 x hx) ih.2⟩

theorem bfs_symm {A : Int → List Int} {n : Nat} (hr : ∀ u : Int, 0 ≤ u ∧ u < n → ∀ x ∈ A u, 0 ≤ x ∧ x < n) (hs : ∀ u : Int, 0 ≤ u ∧ u < n → ∀ x ∈ A u, u ∈ A x) {v w : Int} (hv : 0 ≤ v ∧ v < n) (hw : 0 ≤ w ∧ w < n) (k : Nat) :
    w ∈ (bfs A v k).1 ↔ v ∈ (bfs A w k).1 := by
  have one : ∀ {a b : Int}, (0 ≤ a ∧ a < n) → (0 ≤ b ∧ b < n) → b ∈ (bfs A a k).1 → a ∈ (bfs A b k).1 := by
    intro a b ha hb hm
    obtain ⟨j, hj, hp⟩ := ((bfs_reach A a k).1 b).1 (Or.inr hm)
    have h2 := (path_back hr hs ha j b hp).2
    rcases ((bfs_reach A b k).1 a).2 ⟨j, hj, h2⟩ with h | h
    · exact absurd (h ▸ hm) (bfs_fine hr ha k).1.notv
    · exact h
  exact ⟨one hv hw, one hw hv⟩
end Go.Proofs.Qxb6601668a
