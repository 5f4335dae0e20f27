/-
  What the breadth-first search leaves, told node by node: each listed node's parent and layer.
-/
import Derived.Test.Qxb6601668aPlain
namespace Go.Proofs.Qxb6601668a

def visitP : List Int → List Int → List Int
  | P, [] => P
  | P, x :: xs => if x ∈ P then visitP P xs else visitP (P ++ [x]) xs

def sweepP (A : Int → List Int) : List Int → List Int → List Int
  | P, [] => P
  | P, u :: us => sweepP A (visitP P (A u)) us

theorem visitP_eq (v : Int) : ∀ xs f : List Int, v :: visit v f xs = visitP (v :: f) xs
  | [], _ => rfl
  | x :: xs, f => by
    unfold visit visitP
    by_cases h : x = v ∨ x ∈ f
    · rw [if_pos h, if_pos (by simpa using h)]
      exact visitP_eq v xs f
    · rw [if_neg h, if_neg (by simpa using h)]
      exact visitP_eq v xs (f ++ [x])

theorem sweepP_eq (A : Int → List Int) (v : Int) : ∀ us f : List Int, v :: sweep A v f us = sweepP A (v :: f) us
  | [], _ => rfl
  | u :: us, f => by
    unfold sweep sweepP
    rw [← visitP_eq]
    exact sweepP_eq A v us _

/-- While the neighbours of the node at place q are visited: those in 'done' have been seen. -/
structure Mid (A : Int → List Int) (P : List Int) (q : Nat) (par lay : Nat → Nat) (done : List Int) : Prop where
  lt : ∀ i, 0 < i → i < P.length → par i < i ∧ par i ≤ q
  edge : ∀ i, 0 < i → i < P.length → P.getD i 0 ∈ A (P.getD (par i) 0)
  first : ∀ i, 0 < i → i < P.length → ∀ r, r < par i → P.getD i 0 ∉ A (P.getD r 0)
  mono : ∀ i, 0 < i → i + 1 < P.length → par i ≤ par (i + 1)
  inc : ∀ i, 0 < i → i + 1 < P.length → par i = par (i + 1) → P.getD i 0 < P.getD (i + 1) 0
  closed : ∀ r, r < q → ∀ x ∈ A (P.getD r 0), x ∈ P
  layS : ∀ i, 0 < i → i < P.length → lay i = lay (par i) + 1
  here : q < P.length
  seen : ∀ x ∈ done, x ∈ P
  mine : ∀ i, 0 < i → i < P.length → par i = q → P.getD i 0 ∈ done

/-- Between two nodes: those ahead of place q have been visited. -/
structure Cert (A : Int → List Int) (P : List Int) (q : Nat) (par lay : Nat → Nat) : Prop where
  lt : ∀ i, 0 < i → i < P.length → par i < i ∧ par i < q
  edge : ∀ i, 0 < i → i < P.length → P.getD i 0 ∈ A (P.getD (par i) 0)
  first : ∀ i, 0 < i → i < P.length → ∀ r, r < par i → P.getD i 0 ∉ A (P.getD r 0)
  mono : ∀ i, 0 < i → i + 1 < P.length → par i ≤ par (i + 1)
  inc : ∀ i, 0 < i → i + 1 < P.length → par i = par (i + 1) → P.getD i 0 < P.getD (i + 1) 0
  closed : ∀ r, r < q → ∀ x ∈ A (P.getD r 0), x ∈ P
  layS : ∀ i, 0 < i → i < P.length → lay i = lay (par i) + 1

theorem getD_app_left {P : List Int} {t : List Int} {i : Nat} (h : i < P.length) : (P ++ t).getD i 0 = P.getD i 0 := by
  simp [List.getElem?_append_left h]
theorem getD_app_here {P : List Int} {x : Int} : (P ++ [x]).getD P.length 0 = x := by simp

theorem mid_new {A : Int → List Int} {P : List Int} {q : Nat} {par lay : Nat → Nat} {done : List Int} {x : Int} (h : Mid A P q par lay done) (hx : x ∉ P) (hxA : x ∈ A (P.getD q 0)) (hle : ∀ y ∈ done, y ≤ x) :
    Mid A (P ++ [x]) q (fun i => if i = P.length then q else par i) (fun i => if i = P.length then lay q + 1 else lay i) (done ++ [x]) := by
  have hq := h.here
  have hlen : (P ++ [x]).length = P.length + 1 := by simp
  have old : ∀ i, i < P.length → (if i = P.length then q else par i) = par i := fun i hi => if_neg (by omega)
  refine ⟨?_, ?_, ?_, ?_, ?_, ?_, ?_, by omega, ?_, ?_⟩
  · intro i h0 hi
    by_cases e : i = P.length
    · simp [e]; omega
    · simp only [if_neg e]; exact h.lt i h0 (by omega)
  · intro i h0 hi
    by_cases e : i = P.length
    · subst e
      simp only [if_true]
      rw [getD_app_here, getD_app_left hq]
      exact hxA
    · have hi' : i < P.length := by omega
      simp only [if_neg e]
      rw [getD_app_left hi', getD_app_left (by have := (h.lt i h0 hi').1; omega)]
      exact h.edge i h0 hi'
  · intro i h0 hi r hr
    by_cases e : i = P.length
    · subst e
      simp only [if_true] at hr
      rw [getD_app_here, getD_app_left (by omega)]
      exact fun hm => hx (h.closed r hr x hm)
    · have hi' : i < P.length := by omega
      simp only [if_neg e] at hr
      rw [getD_app_left hi', getD_app_left (by have := (h.lt i h0 hi').1; omega)]
      exact h.first i h0 hi' r hr
  · intro i h0 hi
    rw [hlen] at hi
    have hi' : i < P.length := by omega
    rw [old i hi']
    by_cases e : i + 1 = P.length
    · simp only [if_pos e]; exact (h.lt i h0 hi').2
    · simp only [if_neg e]; exact h.mono i h0 (by omega)
  · intro i h0 hi he
    rw [hlen] at hi
    have hi' : i < P.length := by omega
    rw [old i hi'] at he
    rw [getD_app_left hi']
    by_cases e : i + 1 = P.length
    · simp only [if_pos e] at he
      rw [e, getD_app_here]
      have h1 := h.mine i h0 hi' he
      have h2 := hle _ h1
      have h3 : P.getD i 0 ≠ x := fun e2 => hx (by rw [← e2]; simp [List.getElem?_eq_getElem hi'])
      omega
    · simp only [if_neg e] at he
      rw [getD_app_left (by omega)]
      exact h.inc i h0 (by omega) he
  · intro r hr y hy
    rw [getD_app_left (by omega)] at hy
    exact List.mem_append_left _ (h.closed r hr y hy)
  · intro i h0 hi
    by_cases e : i = P.length
    · subst e
      have : ¬ q = P.length := by omega
      simp [this]
    · have hi' : i < P.length := by omega
      have : ¬ par i = P.length := by have := (h.lt i h0 hi').1; omega
      simp only [if_neg e, if_neg this]
      exact h.layS i h0 hi'
  · intro y hy
    simp only [List.mem_append, List.mem_singleton] at hy ⊢
    rcases hy with hy | hy
    · exact Or.inl (h.seen y hy)
    · exact Or.inr hy
  · intro i h0 hi he
    by_cases e : i = P.length
    · subst e
      rw [getD_app_here]
      simp
    · have hi' : i < P.length := by omega
      simp only [if_neg e] at he
      rw [getD_app_left hi']
      exact List.mem_append_left _ (h.mine i h0 hi' he)

theorem mid_old {A : Int → List Int} {P : List Int} {q : Nat} {par lay : Nat → Nat} {done : List Int} {x : Int} (h : Mid A P q par lay done) (hx : x ∈ P) : Mid A P q par lay (done ++ [x]) :=
  ⟨h.lt, h.edge, h.first, h.mono, h.inc, h.closed, h.layS, h.here, fun y hy => by
    simp only [List.mem_append, List.mem_singleton] at hy
    rcases hy with hy | hy
    · exact h.seen y hy
    · rw [hy]; exact hx, fun i h0 hi he => List.mem_append_left _ (h.mine i h0 hi he)⟩

theorem mid_visit {A : Int → List Int} {q : Nat} {u : Int} : ∀ (xs done P : List Int) (par lay : Nat → Nat), Mid A P q par lay done → P.getD q 0 = u → A u = done ++ xs → (done ++ xs).Pairwise (· ≤ ·) →
    ∃ par' lay', Mid A (visitP P xs) q par' lay' (done ++ xs) ∧ (∃ t, visitP P xs = P ++ t) ∧ (∀ i, i < P.length → par' i = par i ∧ lay' i = lay i) ∧ ∀ i, P.length ≤ i → i < (visitP P xs).length → par' i = q
  | [], done, P, par, lay, h, _, _, _ => ⟨par, lay, by simpa [visitP] using h, ⟨[], by simp [visitP]⟩, fun _ _ => ⟨rfl, rfl⟩, fun i h1 h2 => by simp only [visitP] at h2; omega⟩
  | x :: xs, done, P, par, lay, h, hu, hA, hs => by
    have e1 : done ++ x :: xs = (done ++ [x]) ++ xs := by simp
    unfold visitP
    by_cases hx : x ∈ P
    · rw [if_pos hx, e1]
      exact mid_visit xs (done ++ [x]) P par lay (mid_old h hx) hu (by rw [hA, e1]) (by rw [← e1]; exact hs)
    · rw [if_neg hx, e1]
      have hle : ∀ y ∈ done, y ≤ x := fun y hy => (List.pairwise_append.1 hs).2.2 y hy x (List.mem_cons_self ..)
      have hxA : x ∈ A (P.getD q 0) := by rw [hu, hA]; simp
      obtain ⟨par', lay', h1, ⟨t, ht⟩, h2, h3⟩ := mid_visit (u := u) xs (done ++ [x]) (P ++ [x]) _ _ (mid_new h hx hxA hle) ((getD_app_left h.here).trans hu) (by rw [hA, e1]) (by rw [← e1]; exact hs)
      refine ⟨par', lay', h1, ⟨x :: t, by rw [ht]; simp⟩, fun i hi => ?_, fun i hi1 hi2 => ?_⟩
      · have := h2 i (by simp; omega)
        rw [if_neg (by omega), if_neg (by omega)] at this
        exact this
      · by_cases e : i = P.length
        · have := (h2 i (by simp; omega)).1
          rw [if_pos e] at this
          exact this
        · exact h3 i (by simp; omega) hi2

theorem cert_mid {A : Int → List Int} {P : List Int} {q : Nat} {par lay : Nat → Nat} (h : Cert A P q par lay) (hq : q < P.length) : Mid A P q par lay [] :=
  ⟨fun i h0 hi => ⟨(h.lt i h0 hi).1, Nat.le_of_lt (h.lt i h0 hi).2⟩, h.edge, h.first, h.mono, h.inc, h.closed, h.layS, hq, by simp, fun i h0 hi he => by have := (h.lt i h0 hi).2; omega⟩

theorem mid_cert {A : Int → List Int} {P : List Int} {q : Nat} {par lay : Nat → Nat} (h : Mid A P q par lay (A (P.getD q 0))) : Cert A P (q + 1) par lay :=
  ⟨fun i h0 hi => ⟨(h.lt i h0 hi).1, by have := (h.lt i h0 hi).2; omega⟩, h.edge, h.first, h.mono, h.inc, fun r hr x hx => by
    by_cases e : r = q
    · subst e; exact h.seen x hx
    · exact h.closed r (by omega) x hx, h.layS⟩

theorem cert_sweep {A : Int → List Int} : ∀ (us P : List Int) (q : Nat) (par lay : Nat → Nat), Cert A P q par lay → q + us.length ≤ P.length → (∀ i, i < us.length → P.getD (q + i) 0 = us.getD i 0) → (∀ u ∈ us, (A u).Pairwise (· ≤ ·)) →
    ∃ par' lay', Cert A (sweepP A P us) (q + us.length) par' lay' ∧ (∃ t, sweepP A P us = P ++ t) ∧ (∀ i, i < P.length → par' i = par i ∧ lay' i = lay i) ∧ ∀ i, P.length ≤ i → i < (sweepP A P us).length → q ≤ par' i
  | [], P, q, par, lay, h, _, _, _ => ⟨par, lay, by simpa [sweepP] using h, ⟨[], by simp [sweepP]⟩, fun _ _ => ⟨rfl, rfl⟩, fun i h1 h2 => by simp only [sweepP] at h2; omega⟩
  | u :: us, P, q, par, lay, h, hl, hg, hs => by
    simp only [List.length_cons] at hl
    have hu : P.getD q 0 = u := by have := hg 0 (by simp); simpa using this
    obtain ⟨par1, lay1, m1, ⟨t1, ht1⟩, a1, n1⟩ := mid_visit (A u) [] P par lay (cert_mid h (by omega)) hu (by simp) (by simpa using hs u (List.mem_cons_self ..))
    have hu1 : (visitP P (A u)).getD q 0 = u := by rw [ht1, getD_app_left (by omega)]; exact hu
    have c1 := mid_cert (A := A) (P := visitP P (A u)) (q := q) (par := par1) (lay := lay1) (by rw [hu1]; simpa using m1)
    have hle : P.length ≤ (visitP P (A u)).length := by rw [ht1]; simp
    obtain ⟨par2, lay2, c2, ⟨t2, ht2⟩, a2, n2⟩ := cert_sweep us (visitP P (A u)) (q + 1) par1 lay1 c1 (by omega) (fun i hi => by
      have := hg (i + 1) (by simp; omega)
      rw [ht1, getD_app_left (by omega)]
      rw [show q + 1 + i = q + (i + 1) by omega, this]
      simp) (fun y hy => hs y (List.mem_cons_of_mem _ hy))
    unfold sweepP
    refine ⟨par2, lay2, ?_, ⟨t1 ++ t2, by rw [ht2, ht1]; simp⟩, fun i hi => ?_, fun i hi1 hi2 => ?_⟩
    · rw [List.length_cons, show q + (us.length + 1) = q + 1 + us.length by omega]
      exact c2
    · have x1 := a1 i hi
      have x2 := a2 i (by omega)
      exact ⟨x2.1.trans x1.1, x2.2.trans x1.2⟩
    · by_cases e : i < (visitP P (A u)).length
      · have := n1 i hi1 e
        have x2 := (a2 i e).1
        omega
      · have := n2 i (by omega) hi2
        omega

/-- After k rounds. -/
theorem bfs_cert {n : Nat} {v : Int} {A : Int → List Int} (hr : ∀ u : Int, 0 ≤ u ∧ u < n → ∀ x ∈ A u, 0 ≤ x ∧ x < n) (hs : ∀ u : Int, 0 ≤ u ∧ u < n → (A u).Pairwise (· ≤ ·)) (hv : 0 ≤ v ∧ v < n) : ∀ k, ∃ q par lay,
    Cert A (v :: (bfs A v k).1) q par lay ∧ q ≤ (bfs A v k).1.length + 1 ∧ (bfs A v k).2 = (v :: (bfs A v k).1).drop q ∧ (∀ i, i < q → lay i < k) ∧ (∀ i, q ≤ i → i < (bfs A v k).1.length + 1 → lay i = k) ∧ lay 0 = 0
  | 0 => by
    refine ⟨0, fun _ => 0, fun _ => 0, ⟨?_, ?_, ?_, ?_, ?_, ?_, ?_⟩, by simp, by simp [bfs], fun i hi => by omega, fun _ _ _ => rfl, rfl⟩
    all_goals (intro i; intros; simp [bfs] at *; try omega)
  | k + 1 => by
    obtain ⟨q, par, lay, hC, hq, hfr, hlo, hhi, h0⟩ := bfs_cert hr hs hv k
    have hfine := bfs_fine hr hv k
    have hlen : (bfs A v k).2.length = (bfs A v k).1.length + 1 - q := by rw [hfr]; simp
    have hP : v :: (bfs A v (k + 1)).1 = sweepP A (v :: (bfs A v k).1) (bfs A v k).2 := sweepP_eq A v _ _
    obtain ⟨par', lay', hC', ⟨t, ht⟩, hag, hnew⟩ := cert_sweep (bfs A v k).2 (v :: (bfs A v k).1) q par lay hC (by simp only [List.length_cons]; omega) (fun i hi => by
      rw [hfr]
      simp) (fun u hu => hs u (hfine.2 u hu))
    rw [← hP] at hC' hnew ht
    have e : q + (bfs A v k).2.length = (bfs A v k).1.length + 1 := by omega
    rw [e] at hC'
    have hlt : (bfs A v k).1.length ≤ (bfs A v (k + 1)).1.length := by
      have := congrArg List.length ht
      simp at this
      omega
    simp only [List.length_cons] at hag hnew
    refine ⟨(bfs A v k).1.length + 1, par', lay', hC', by omega, by simp [bfs], fun i hi => ?_, fun i hi1 hi2 => ?_, ?_⟩
    · rw [(hag i hi).2]
      by_cases e2 : i < q
      · have := hlo i e2; omega
      · have := hhi i (by omega) hi; omega
    · have h1 := hC'.layS i (by omega) (by simp; omega)
      have h2 := hnew i hi1 hi2
      have h3 := hC'.lt i (by omega) (by simp; omega)
      rw [h1, (hag (par' i) h3.2).2, hhi (par' i) h2 h3.2]
    · rw [(hag 0 (by omega)).2]
      exact h0
end Go.Proofs.Qxb6601668a
