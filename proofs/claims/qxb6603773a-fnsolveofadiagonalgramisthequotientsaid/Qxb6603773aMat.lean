/-
  The elimination's memory and its plain side.
-/
import Derived.Test.Qxb6603773aLaws
import Derived.WalkSmall
namespace Go.Proofs.Qxb6603773a
open Go.RowKit

/-- As it was, or a zero for a zero. -/
def Sim (x' x : Nat) : Prop := x' = x ∨ (isZer x' = true ∧ isZer x = true)

theorem sim_refl (x : Nat) : Sim x x := Or.inl rfl
theorem sim_zer {x' x : Nat} (h : Sim x' x) (hz : isZer x = true) : isZer x' = true := by
  rcases h with h | h
  · rw [h]; exact hz
  · exact h.1
theorem sim_num {x' x : Nat} (h : Sim x' x) (hn : isNum x = true) : isNum x' = true := by
  rcases h with h | h
  · rw [h]; exact hn
  · exact zer_num h.1
theorem sim_eq {x' x : Nat} (h : Sim x' x) (hz : isZer x = false) : x' = x := by
  rcases h with h | h
  · exact h
  · rw [hz] at h; cases h.2
theorem sim_sub {x' x z : Nat} (h : Sim x' x) (hx : x < 18446744073709551616) (hn : isNan x = false) (hz : isZer z = true) : ∃ y, floatBits .sub .f64 x' z = some y ∧ Sim y x := by
  cases hzx : isZer x with
  | true =>
    obtain ⟨y, h1, h2⟩ := zer_sub_zer (sim_zer h hzx) hz
    exact ⟨y, h1, Or.inr ⟨h2, hzx⟩⟩
  | false =>
    rw [sim_eq h hzx]
    exact ⟨x, sub_zer hx hn hzx hz, Or.inl rfl⟩

theorem posFin_num {x : Nat} (h : posFin x = true) : isNum x = true := by
  unfold posFin at h
  rw [Bool.and_eq_true] at h
  exact h.1
theorem posFin_zer {x : Nat} (h : posFin x = true) : isZer x = false := by
  cases hz : isZer x with
  | false => rfl
  | true =>
    unfold posFin at h
    rw [order_zero_eq.2 hz] at h
    simp at h

/-- What the law's own tests have let through. -/
structure Diag (G b q : Nat → Nat) : Prop where
  gw : ∀ i, i < 25 → G i < 18446744073709551616
  bw : ∀ i, i < 5 → b i < 18446744073709551616
  dia : ∀ i, i < 5 → isNan (G (i * 5 + i)) = false
  off : ∀ i j, i < 5 → j < 5 → i ≠ j → isZer (G (i * 5 + j)) = true
  bn : ∀ i, i < 5 → isNum (b i) = true
  quo : ∀ i, i < 5 → posFin (G (i * 5 + i)) = true → floatBits .quo .f64 (b i) (G (i * 5 + i)) = some (q i) ∧ isNum (q i) = true

theorem Diag.notNan {G b q : Nat → Nat} (h : Diag G b q) {i j : Nat} (hi : i < 5) (hj : j < 5) : isNan (G (i * 5 + j)) = false := by
  by_cases e : i = j
  · subst e; exact h.dia i hi
  · exact num_notNan (zer_num (h.off i j hi hj e))

/-- The copies, all alike to what came. -/
def Alik (G b A B : Nat → Nat) : Prop := (∀ i, i < 25 → Sim (A i) (G i)) ∧ ∀ i, i < 5 → Sim (B i) (b i)

theorem Alik.setA {G b A B : Nat → Nat} (h : Alik G b A B) {k y : Nat} (hy : Sim y (G k)) : Alik G b (fun i => if i = k then y else A i) B :=
  ⟨fun i hi => by
    by_cases e : i = k
    · subst e; simpa using hy
    · simpa [e] using h.1 i hi, h.2⟩
theorem Alik.setB {G b A B : Nat → Nat} (h : Alik G b A B) {k y : Nat} (hy : Sim y (b k)) : Alik G b A (fun i => if i = k then y else B i) :=
  ⟨h.1, fun i hi => by
    by_cases e : i = k
    · subst e; simpa using hy
    · simpa [e] using h.2 i hi⟩

/-- The call's own four blocks. -/
structure Mat (w wr : World) (A B : Nat → Nat) (K : Nat → Bool) : Prop where
  below : Below w.heap.size w wr
  rb : wr.rowIs w.heap.size 23 5 (fun i => .float .f64 (B i))
  rr : wr.rowIs (w.heap.size + 1) 23 5 (fun _ => .float .f64 0)
  ra : wr.rowIs (w.heap.size + 1 + 1) 24 25 (fun i => .float .f64 (A i))
  rk : wr.rowIs (w.heap.size + 1 + 1 + 1) 41 5 (fun i => .bool (K i))

theorem Mat.drewN {w wr : World} {A B : Nat → Nat} {K : Nat → Bool} (h : Mat w wr A B K) (n : Nat) : Mat w (wr.drewN n) A B K :=
  ⟨below_drewN h.below n, h.rb.of_block rfl, h.rr.of_block rfl, h.ra.of_block rfl, h.rk.of_block rfl⟩
theorem Mat.drew {w wr : World} {A B : Nat → Nat} {K : Nat → Bool} (h : Mat w wr A B K) : Mat w wr.drew A B K :=
  ⟨h.below.drew, h.rb.drew, h.rr.drew, h.ra.drew, h.rk.drew⟩

theorem Mat.setA {w wr : World} {A B : Nat → Nat} {K : Nat → Bool} (h : Mat w wr A B K) (k y : Nat) : Mat w (wr.setCell ⟨w.heap.size + 1 + 1, k, none⟩ (.float .f64 y)) (fun i => if i = k then y else A i) B K :=
  ⟨h.below.setCell (by show w.heap.size ≤ w.heap.size + 1 + 1; omega) _, h.rb.setOther (by show w.heap.size ≠ w.heap.size + 1 + 1; omega) _, h.rr.setOther (by show w.heap.size + 1 ≠ w.heap.size + 1 + 1; omega) _,
    (h.ra.set k _).congr (fun i _ => by by_cases e : i = k <;> simp [e]), h.rk.setOther (by show w.heap.size + 1 + 1 + 1 ≠ w.heap.size + 1 + 1; omega) _⟩
theorem Mat.setB {w wr : World} {A B : Nat → Nat} {K : Nat → Bool} (h : Mat w wr A B K) (k y : Nat) : Mat w (wr.setCell ⟨w.heap.size, k, none⟩ (.float .f64 y)) A (fun i => if i = k then y else B i) K :=
  ⟨h.below.setCell (Nat.le_refl _) _, (h.rb.set k _).congr (fun i _ => by by_cases e : i = k <;> simp [e]), h.rr.setOther (by show w.heap.size + 1 ≠ w.heap.size; omega) _,
    h.ra.setOther (by show w.heap.size + 1 + 1 ≠ w.heap.size; omega) _, h.rk.setOther (by show w.heap.size + 1 + 1 + 1 ≠ w.heap.size; omega) _⟩
theorem Mat.setK {w wr : World} {A B : Nat → Nat} {K : Nat → Bool} (h : Mat w wr A B K) (k : Nat) (y : Bool) : Mat w (wr.setCell ⟨w.heap.size + 1 + 1 + 1, k, none⟩ (.bool y)) A B (fun i => if i = k then y else K i) :=
  ⟨h.below.setCell (by show w.heap.size ≤ w.heap.size + 1 + 1 + 1; omega) _, h.rb.setOther (by show w.heap.size ≠ w.heap.size + 1 + 1 + 1; omega) _, h.rr.setOther (by show w.heap.size + 1 ≠ w.heap.size + 1 + 1 + 1; omega) _,
    h.ra.setOther (by show w.heap.size + 1 + 1 ≠ w.heap.size + 1 + 1 + 1; omega) _, (h.rk.set k _).congr (fun i _ => by by_cases e : i = k <;> simp [e])⟩
theorem Mat.congrK {w wr : World} {A B : Nat → Nat} {K K' : Nat → Bool} (h : Mat w wr A B K) (e : ∀ i, i < 5 → K i = K' i) : Mat w wr A B K' :=
  ⟨h.below, h.rb, h.rr, h.ra, h.rk.congr (fun i hi => by rw [e i hi])⟩

theorem Mat.alloc {w wr : World} {A B : Nat → Nat} {K : Nat → Bool} (h : Mat w wr A B K) (o : Obj) : Mat w (wr.alloc o) A B K :=
  ⟨h.below.alloc h.below.size o, h.rb.alloc o, h.rr.alloc o, h.ra.alloc o, h.rk.alloc o⟩
theorem Mat.setX {w wr : World} {A B : Nat → Nat} {K : Nat → Bool} (h : Mat w wr A B K) {x : Nat} (hx : w.heap.size + 1 + 1 + 1 < x) (k : Nat) (v : Value) : Mat w (wr.setCell ⟨x, k, none⟩ v) A B K :=
  ⟨h.below.setCell (by show w.heap.size ≤ x; omega) _, h.rb.setOther (by show w.heap.size ≠ x; omega) _, h.rr.setOther (by show w.heap.size + 1 ≠ x; omega) _, h.ra.setOther (by show w.heap.size + 1 + 1 ≠ x; omega) _, h.rk.setOther (by show w.heap.size + 1 + 1 + 1 ≠ x; omega) _⟩

/-- What is reckoned from place k on; noughts below it. -/
def XOk (G q : Nat → Nat) (k : Nat) (X : Nat → Nat) : Prop := (∀ i, k ≤ i → i < 5 → (posFin (G (i * 5 + i)) = true → Sim (X i) (q i)) ∧ (posFin (G (i * 5 + i)) = false → X i = 0)) ∧ ∀ i, i < k → X i = 0

theorem xok_num {G b q : Nat → Nat} (hD : Diag G b q) {k : Nat} {X : Nat → Nat} (h : XOk G q k X) {i : Nat} (hi : i < 5) : isNum (X i) = true := by
  by_cases e : k ≤ i
  · have := h.1 i e hi
    cases hp : posFin (G (i * 5 + i)) with
    | true => exact sim_num (this.1 hp) (hD.quo i hi hp).2
    | false => rw [this.2 hp]; exact zer_num zer_zero
  · rw [h.2 i (by omega)]; exact zer_num zer_zero

theorem xok_skip {G q : Nat → Nat} {k : Nat} {X : Nat → Nat} (h : XOk G q (k + 1) X) (hp : posFin (G (k * 5 + k)) = false) : XOk G q k X :=
  ⟨fun i h1 h2 => by
    by_cases e : i = k
    · subst e
      exact ⟨(fun hh => by rw [hp] at hh; cases hh), fun _ => h.2 i (by omega)⟩
    · exact h.1 i (by omega) h2, fun i hi => h.2 i (by omega)⟩

theorem xok_lay {G q : Nat → Nat} {k y : Nat} {X : Nat → Nat} (h : XOk G q (k + 1) X) (hp : posFin (G (k * 5 + k)) = true) (hy : Sim y (q k)) : XOk G q k (fun i => if i = k then y else X i) :=
  ⟨fun i h1 h2 => by
    by_cases e : i = k
    · subst e
      simp only [if_true]
      exact ⟨fun _ => hy, (fun hh => by rw [hp] at hh; cases hh)⟩
    · simp only [if_neg e]
      exact h.1 i (by omega) h2, fun i hi => by
    simp only [if_neg (show ¬ i = k by omega)]
    exact h.2 i (by omega)⟩

theorem quo_sim {G b q : Nat → Nat} (hD : Diag G b q) {i s a : Nat} (hi : i < 5) (hp : posFin (G (i * 5 + i)) = true) (hs : Sim s (b i)) (ha : Sim a (G (i * 5 + i))) : ∃ y, floatBits .quo .f64 s a = some y ∧ Sim y (q i) := by
  have ha' := sim_eq ha (posFin_zer hp)
  rw [ha']
  have hq := hD.quo i hi hp
  rcases hs with e | ⟨h1, h2⟩
  · exact ⟨q i, by rw [e]; exact hq.1, sim_refl _⟩
  · obtain ⟨y, hy, hz⟩ := div_zer h1 (posFin_num hp) (posFin_zer hp)
    obtain ⟨y2, hy2, hz2⟩ := div_zer h2 (posFin_num hp) (posFin_zer hp)
    have : some y2 = some (q i) := hy2.symm.trans hq.1
    injection this with this
    exact ⟨y, hy, Or.inr ⟨hz, this ▸ hz2⟩⟩

theorem lit5 (w : World) (v : Value) (t : TypeId) : (w.alloc (.cells #[v, v, v, v, v] t)).rowIs w.heap.size t 5 (fun _ => v) :=
  World.rowIs_alloc w #[v, v, v, v, v] t (fun _ => v) (fun i hi => by
    simp at hi
    have hm : i = 0 ∨ i = 1 ∨ i = 2 ∨ i = 3 ∨ i = 4 := by omega
    rcases hm with r | r | r | r | r <;> subst r <;> rfl)

theorem mat_start (w : World) (G b : Nat → Nat) : Mat w ((((w.alloc (.cells (fa 5 b) 23)).alloc (.cells #[.float .f64 0, .float .f64 0, .float .f64 0, .float .f64 0, .float .f64 0] 23)).alloc (.cells (fa 25 G) 24)).alloc (.cells #[.bool false, .bool false, .bool false, .bool false, .bool false] 41)) G b (fun _ => false) := by
  have h1 := fa_row w 5 b 23
  have h2 := lit5 (w.alloc (.cells (fa 5 b) 23)) (.float .f64 0) 23
  have h3 := fa_row ((w.alloc (.cells (fa 5 b) 23)).alloc (.cells #[.float .f64 0, .float .f64 0, .float .f64 0, .float .f64 0, .float .f64 0] 23)) 25 G 24
  have h4 := lit5 (((w.alloc (.cells (fa 5 b) 23)).alloc (.cells #[.float .f64 0, .float .f64 0, .float .f64 0, .float .f64 0, .float .f64 0] 23)).alloc (.cells (fa 25 G) 24)) (.bool false) 41
  simp only [World.size_alloc] at h2 h3 h4
  refine ⟨((((Below.refl _ _).alloc (Nat.le_refl _) _).alloc (by simp) _).alloc (by simp; omega) _).alloc (by simp; omega) _, ((h1.alloc _).alloc _).alloc _, (h2.alloc _).alloc _, h3.alloc _, h4⟩

/-- Tests, in the walk's words. -/
theorem left_out' {a d : Nat} (hd : d < 18446744073709551616) (hn : isNan d = false) (ha : Sim a d) :
    ∃ t, floatBits .mul .f64 4472406533629990549 d = some t ∧ (FloatKind.f64.format.order a t == some .lt || FloatKind.f64.format.order a t == some .eq) = !posFin d := left_out hd hn ha
end Go.Proofs.Qxb6603773a
