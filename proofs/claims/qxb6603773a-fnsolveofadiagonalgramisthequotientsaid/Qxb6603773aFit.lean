/-
  ZZNewFit, ZZFitSolve: the walks.
-/
import Derived.Test.Qxb6603773aSolve
namespace Go.Proofs.Qxb6603773a
open Go.RowKit

theorem built38 (G M : Nat → Nat) : Try.prog.built 38 [(0, .agg (fa 25 G)), (1, .agg (fa 5 M))] = some (fa 25 G ++ fa 5 M) := by kernel_rfl

theorem wpList_build2 {P : Program} {ops : Array Oper} {rest : List Oper} {o : Oper} {a : Act} {w : World} {Q : Exit → Act → World → Prop} (hg : o.guard = none) (t : TypeId) (x y : Operand) (ho : o.op = .build t #[(0, x), (1, y)])
    (vx vy : Value) (hx : a.eval x = vx) (hy : a.eval y = vy) (cs : Array Value) (hb : P.built t [(0, vx), (1, vy)] = some cs)
    (h : wpList P ops Q rest (a.put o.dst (.agg cs)) w) : wpList P ops Q (o :: rest) a w := by
  have e : (#[(0, x), (1, y)].map fun (p : Nat × Operand) => (p.1, a.eval p.2)).toList = [(0, vx), (1, vy)] := by simp [hx, hy]
  have e2 : P.built t (#[(0, x), (1, y)].map fun (p : Nat × Operand) => (p.1, a.eval p.2)).toList = some cs := by rw [e]; exact hb
  refine wpList_build hg t #[(0, x), (1, y)] ho (by rw [e2]; rfl) ?_
  rw [e2]
  exact h

/-- What ZZNewFit leaves: a new struct whose first twenty-five cells are the matrix. -/
def NewFit (w : World) (G : Nat → Nat) (e : Ending) (w' : World) : Prop :=
  ∃ fb F, e = .returned (.pointer (some ⟨fb, 0, none⟩)) ∧ w'.rowIs fb 38 30 F ∧ (∀ i, i < 25 → F i = .float .f64 (G i)) ∧ Below w.heap.size w w'

theorem fit_row (w : World) (G M : Nat → Nat) : (w.alloc (.cells (fa 25 G ++ fa 5 M) 38)).rowIs w.heap.size 38 30 (fun i => (fa 25 G ++ fa 5 M).getD i undef) := by
  have hs : (fa 25 G ++ fa 5 M).size = 30 := by simp [fa_size]
  have h := World.rowIs_alloc w (fa 25 G ++ fa 5 M) 38 (fun i => (fa 25 G ++ fa 5 M).getD i undef) (fun i hi => by rw [Array.getD_eq_getD_getElem?, Array.getElem?_eq_getElem hi]; rfl)
  rwa [hs] at h

theorem fit_get (G M : Nat → Nat) (i : Nat) (hi : i < 25) : (fa 25 G ++ fa 5 M).getD i undef = .float .f64 (G i) := by
  have h := fa_get G hi
  have h2 : (fa 25 G ++ fa 5 M)[i]? = some (.float .f64 (G i)) := by rw [Array.getElem?_append_left (by rw [fa_size]; exact hi)]; exact h
  rw [Array.getD_eq_getD_getElem?, h2]; rfl

set_option maxHeartbeats 400000 in
set_option maxRecDepth 100000 in
theorem newFit_any (w : World) (G M : Nat → Nat) : Calls Try.prog 7 #[.agg (fa 25 G), .agg (fa 5 M)] w (NewFit w G) := by
  have h1 : ∀ o2, ∀ j v, (fa 25 G)[j]? = some v → ((w.alloc (.cells (fa 25 G) 24)).alloc o2).cell? ⟨w.heap.size, 0 + j, none⟩ = some v := fun o2 => cells_of_row ((fa_row w 25 G 24).alloc o2) (by omega) (fun i _ => by rw [Nat.zero_add])
  have h2 : ∀ o1, ∀ j v, (fa 5 M)[j]? = some v → ((w.alloc o1).alloc (.cells (fa 5 M) 23)).cell? ⟨w.heap.size + 1, 0 + j, none⟩ = some v := fun o1 => by
    have := fa_row (w.alloc o1) 5 M 23
    simp only [World.size_alloc] at this
    exact cells_of_row this (by omega) (fun i _ => by rw [Nat.zero_add])
  have H1 : Hid (∀ o2, ∀ j v, (fa 25 G)[j]? = some v → ((w.alloc (.cells (fa 25 G) 24)).alloc o2).cell? ⟨w.heap.size, 0 + j, none⟩ = some v) := h1
  have H2 : Hid (∀ o1, ∀ j v, (fa 5 M)[j]? = some v → ((w.alloc o1).alloc (.cells (fa 5 M) 23)).cell? ⟨w.heap.size + 1, 0 + j, none⟩ = some v) := h2
  clear h1 h2
  go_enter Try.func7, Try.ntmps7
  go_wp2_with (first
    | (refine wpList_load_cells rfl 24 (.tmp 2) rfl w.heap.size 0 rfl (fa 25 G) _ (H1.out _) Try.underlying24 rfl (size24 G) ?_)
    | (refine wpList_load_cells rfl 23 (.tmp 3) rfl (w.heap.size + 1) 0 rfl (fa 5 M) _ (H2.out _) Try.underlying23 rfl (size23 M) ?_)
    | (refine wpList_build2 rfl 38 (.tmp 5) (.tmp 6) rfl (.agg (fa 25 G)) (.agg (fa 5 M)) rfl rfl (fa 25 G ++ fa 5 M) (built38 G M) ?_))
  go_ret
  have hrow := fit_row ((w.alloc (.cells (fa 25 G) 24)).alloc (.cells (fa 5 M) 23)) G M
  simp only [World.size_alloc] at hrow
  exact ⟨w.heap.size + 1 + 1, _, rfl, hrow, fit_get G M, (((Below.refl _ _).alloc (Nat.le_refl _) _).alloc (by simp) _).alloc (by simp; omega) _⟩

set_option maxHeartbeats 400000 in
set_option maxRecDepth 100000 in
theorem fitSolve_any {w : World} {fb : Nat} {G b q : Nat → Nat} {F : Nat → Value} (hfit : w.rowIs fb 38 30 F) (hF : ∀ i, i < 25 → F i = .float .f64 (G i)) (hD : Diag G b q) :
    Calls Try.prog 10 #[.pointer (some ⟨fb, 0, none⟩), .agg (fa 5 b)] w (Solved w G q) := by
  have h1 : ∀ o2, ∀ j v, (fa 5 b)[j]? = some v → ((w.alloc (.cells (fa 5 b) 23)).alloc o2).cell? ⟨w.heap.size, 0 + j, none⟩ = some v := fun o2 => cells_of_row ((fa_row w 5 b 23).alloc o2) (by omega) (fun i _ => by rw [Nat.zero_add])
  have H1 : Hid (∀ o2, ∀ j v, (fa 5 b)[j]? = some v → ((w.alloc (.cells (fa 5 b) 23)).alloc o2).cell? ⟨w.heap.size, 0 + j, none⟩ = some v) := h1
  have HC : Hid (∀ o1 o2, Calls Try.prog 15 #[.pointer (some ⟨fb, 0, none⟩), .agg (fa 5 b)] ((w.alloc o1).alloc o2) (Solved ((w.alloc o1).alloc o2) G q)) := fun o1 o2 => solve_any ((hfit.alloc o1).alloc o2) hF hD
  have h0 := lit5 (w.alloc (.cells (fa 5 b) 23)) (.float .f64 0) 23
  simp only [World.size_alloc] at h0
  have H0 : Hid (((w.alloc (.cells (fa 5 b) 23)).alloc (.cells #[.float .f64 0, .float .f64 0, .float .f64 0, .float .f64 0, .float .f64 0] 23)).rowIs (w.heap.size + 1) 23 5 (fun _ => .float .f64 0)) := h0
  clear h1 h0 hD hF hfit
  go_enter Try.func10, Try.ntmps10
  go_wp2_with (refine wpList_load_cells rfl 23 (.tmp 3) rfl w.heap.size 0 rfl (fa 5 b) _ (H1.out _) Try.underlying23 rfl (size23 b) ?_)
  refine (HC.out _ _).mono ?_
  rintro e w1 ⟨X, rfl, hO, hb⟩
  have hr := (H0.out.of_block (hb.block (w.heap.size + 1) (by simp)))
  have hrr := row_fa hr
  have hb0 : Below w.heap.size w w1 := (((Below.refl _ _).alloc (Nat.le_refl _) _).alloc (by simp) _).trans (hb.mono (by simp; omega))
  have HBl : Hid (Below w.heap.size w (w1.setRow (w.heap.size + 1) (fa 5 X))) := hb0.trans ⟨rfl, rfl, rfl, by simp, fun k hk => setRow_other w1 (w.heap.size + 1) k _ (by omega)⟩
  have HHp : Hid ((w1.setRow (w.heap.size + 1) (fa 5 X)).heap[w.heap.size + 1]? = some (.cells (fa 5 X) 23 (0, 0))) := setRow_heap w1 (w.heap.size + 1) _ _ 23 _ hrr
  have HRr : Hid (w1.heap[w.heap.size + 1]? = some (.cells (fa 5 fun _ => 0) 23 (0, 0))) := hrr
  clear hr hrr hb hb0 H0 H1 HC
  go_wp2_with (refine wpList_store_row rfl 23 (.tmp 4) (.tmp 7) rfl (w.heap.size + 1) (fa 5 X) rfl rfl 23 (fa 5 fun _ => 0) HRr.out (size23 X) (by rw [fa_size, fa_size]) (fa_one 5 X) ?_)
  refine bodyPost_ret (v := .agg (fa 5 X)) ?_ rfl ⟨X, rfl, hO, HBl.out⟩
  exact results_cell_row Try.results10 _ _ (w.heap.size + 1) 23 (fa 5 X) (0, 0) _ rfl HHp.out Try.underlying23 rfl (size23 X)
end Go.Proofs.Qxb6603773a
