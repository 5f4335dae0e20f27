/-
  zzCloneAdj: a fresh deep copy.
-/
import Derived.Test.Qxb6601668aMem
import Derived.WalkLawsBesides
namespace Go.Proofs.Qxb6601668a
open Go.RowKit

/-- As IntsAt, in blocks from lo on, below hi. -/
def IntsIn (lo hi : Nat) (w : World) (v : Value) (n : Nat) (Z : Nat → Int) : Prop :=
  ∃ ao cap, v = .slice ao n cap ∧ n ≤ 9223372036854775807 ∧ (0 < n → ∃ b off, ao = some ⟨b, off, none⟩ ∧ lo ≤ b ∧ b < hi ∧ ∀ i, i < n → w.cell? ⟨b, off + i, none⟩ = some (.int .i64 (Z i)))

theorem IntsIn.at_ {lo hi : Nat} {w : World} {v : Value} {n : Nat} {Z : Nat → Int} (h : IntsIn lo hi w v n Z) : IntsAt hi w v n Z := by
  obtain ⟨ao, cap, hv, hm, hc⟩ := h
  refine ⟨ao, cap, hv, hm, fun hn => ?_⟩
  obtain ⟨b, off, ha, _, hlt, hcell⟩ := hc hn
  exact ⟨b, off, ha, hlt, hcell⟩

theorem IntsIn.kept {lo hi hi' : Nat} {w w' : World} {v : Value} {n : Nat} {Z : Nat → Int} (h : IntsIn lo hi w v n Z) (hb : ∀ b, lo ≤ b → b < hi → w'.heap[b]? = w.heap[b]?) (hh : hi ≤ hi') : IntsIn lo hi' w' v n Z := by
  obtain ⟨ao, cap, hv, hm, hc⟩ := h
  refine ⟨ao, cap, hv, hm, fun hn => ?_⟩
  obtain ⟨b, off, ha, hlo, hlt, hcell⟩ := hc hn
  exact ⟨b, off, ha, hlo, Nat.lt_of_lt_of_le hlt hh, fun i hi => (World.cell?_of_block (w := w) (a := ⟨b, off + i, none⟩) (hb b hlo hlt)).trans (hcell i hi)⟩

theorem Try.info3 : (Try.prog.info? 3).map (fun i => (i.zero, i.size, i.bytes)) = some (some (.int .i64 0), 1, 8) := by kernel_rfl
theorem Try.info31 : (Try.prog.info? 31).map (fun i => (i.zero, i.size, i.bytes)) = some (some (.slice none 0 0), 1, 24) := by kernel_rfl

/-- At the outer loop's head, k rows copied. -/
structure Copied (w wr : World) (n k : Nat) (L : Nat → Nat) (Z : Nat → Nat → Int) (V : Nat → Value) : Prop where
  below : Below w.heap.size w wr
  top : wr.rowIs w.heap.size 31 n V
  done : ∀ r, r < k → IntsIn (w.heap.size + 1) wr.heap.size wr (V r) (L r) (Z r)
  rest : ∀ r, k ≤ r → V r = .slice none 0 0

theorem copied_start (w : World) (n : Nat) (L : Nat → Nat) (Z : Nat → Nat → Int) : Copied w (w.alloc (.cells (madeCells #[.slice none 0 0] n) 31)) n 0 L Z (fun _ => .slice none 0 0) :=
  ⟨(Below.refl _ _).alloc (Nat.le_refl _) _, World.rowIs_made w _ n 31, fun _ hr => absurd hr (Nat.not_lt_zero _), fun _ _ => rfl⟩

theorem copied_nil {w wr : World} {n k : Nat} {L : Nat → Nat} {Z : Nat → Nat → Int} {V : Nat → Value} (h : Copied w wr n k L Z V) (h0 : L k = 0) : Copied w wr n (k + 1) L Z V :=
  ⟨h.below, h.top, fun r hr => by
    by_cases e : r = k
    · subst e
      rw [h.rest r (Nat.le_refl _), h0]
      exact ⟨_, _, rfl, by omega, fun hh => absurd hh (Nat.lt_irrefl _)⟩
    · exact h.done r (by omega), fun r hr => h.rest r (by omega)⟩

theorem copied_row {w wr wi : World} {n k : Nat} {L : Nat → Nat} {Z : Nat → Nat → Int} {V : Nat → Value} (h : Copied w wr n k L Z V) (hm : L k ≤ 9223372036854775807)
    (hb : Below wr.heap.size wr wi) (hrow : wi.rowIs wr.heap.size 3 (L k) (fun i => .int .i64 (Z k i))) :
    Copied w (wi.setCell ⟨w.heap.size, k, none⟩ (.slice (some ⟨wr.heap.size, 0, none⟩) (L k) (L k))) n (k + 1) L Z (fun j => if j = k then .slice (some ⟨wr.heap.size, 0, none⟩) (L k) (L k) else V j) := by
  have hlt := h.top.lt
  have hsz := hb.size
  have hsz0 := h.below.size
  have hbl : ∀ b, b ≠ w.heap.size → (wi.setCell ⟨w.heap.size, k, none⟩ (.slice (some ⟨wr.heap.size, 0, none⟩) (L k) (L k))).heap[b]? = wi.heap[b]? := fun b hb' => Below.heap_setCell _ _ _ _ hb'
  have hse : (wi.setCell ⟨w.heap.size, k, none⟩ (.slice (some ⟨wr.heap.size, 0, none⟩) (L k) (L k))).heap.size = wi.heap.size := by simp [World.setCell]
  refine ⟨(h.below.trans (hb.mono hsz0)).setCell (Nat.le_refl _) _, (h.top.of_block (hb.block _ hlt)).set k _, fun r hr => ?_, fun r hr => ?_⟩
  · by_cases e : r = k
    · subst e
      simp only [if_true]
      refine ⟨_, _, rfl, hm, fun _ => ⟨wr.heap.size, 0, rfl, by omega, by rw [hse]; exact hrow.lt, fun i hi => ?_⟩⟩
      have := (hrow.of_block (hbl wr.heap.size (by omega))).cell hi
      simpa using this
    · simp only [if_neg e]
      refine (h.done r (by omega)).kept (fun b h1 h2 => ?_) (by rw [hse]; omega)
      rw [hbl b (by omega), hb.block b h2]
  · have : ¬ r = k := by omega
    simp only [if_neg this]
    exact h.rest r (by omega)

theorem copied_end {w wr : World} {n : Nat} {L : Nat → Nat} {Z : Nat → Nat → Int} {V : Nat → Value} (hn : n ≤ 9223372036854775807) (h : Copied w wr n n L Z V) : RowsAt wr.heap.size wr (.slice (some ⟨w.heap.size, 0, none⟩) n n) n L Z :=
  ⟨_, _, rfl, hn, fun _ => ⟨w.heap.size, 0, rfl, h.top.lt, fun r hr => ⟨V r, by simpa using h.top.cell hr, (h.done r hr).at_⟩⟩⟩

set_option maxHeartbeats 2000000 in
set_option maxRecDepth 100000 in
theorem cloneAdj_any {B : Nat} {w : World} {v : Value} {n : Nat} {L : Nat → Nat} {Z : Nat → Nat → Int} (hn : n ≤ 65536) (hL : ∀ u, u < n → L u ≤ 131072) (h : RowsAt B w v n L Z) (hB : B ≤ w.heap.size) :
    Calls Try.prog 10 #[v] w fun e w' => ∃ v', e = .returned v' ∧ RowsAt w'.heap.size w' v' n L Z ∧ Below w.heap.size w w' := by
  obtain ⟨ao, cap, rfl, _, hc⟩ := h
  have heq := fun w => Lib.run_eql_slice_nil (P := Try.prog) w 23 31 ao n cap 0 0 Try.underlying23
  cases ao with
  | none =>
    go_enter Try.func10, Try.ntmps10
    go_wp2
    go_ret
    have : n = 0 := by
      by_cases h0 : 0 < n
      · obtain ⟨b, off, ha, _⟩ := hc h0; cases ha
      · omega
    subst this
    exact ⟨_, rfl, ⟨_, _, rfl, by omega, fun h => absurd h (Nat.lt_irrefl _)⟩, Below.refl _ _⟩
  | some a =>
    have hmk := run_make_row' (P := Try.prog) 23 31 (.slice none 0 0) 24 Try.underlying23 Try.info31 rfl .i64 .i64 n (by omega) (by omega)
    go_enter Try.func10, Try.ntmps10
    go_wp2
    go_loopg [4] n (fun g i wr => ∃ k : Nat, k ≤ n ∧ g = n - k ∧ i = .int .i64 k ∧ ∃ V, Copied w wr n k L Z V)
    case atStart => exact ⟨0, Nat.zero_le _, rfl, rfl, _, copied_start w n L Z⟩
    case round =>
      obtain ⟨k, hk, rfl, rfl, V, hC⟩ := hrel
      obtain ⟨wo, rfl⟩ : ∃ wo : World, wo = wr := ⟨_, rfl⟩
      clear hmk heq
      by_cases hlt : k < n
      · obtain ⟨b, off, ha, hb, hcell⟩ := hc (by omega)
        obtain ⟨rv, hrv, ai, ci, rfl, hLm, hrow⟩ := hcell k hlt
        have hix := run_ix (P := Try.prog) (cap := cap) Try.underlying23 Try.size31 ha hlt
        have hcr : wo.cell? ⟨b, off + k, none⟩ = some (.slice ai (L k) ci) := (hC.below.cell (p := ⟨b, off + k, none⟩) (by show b < _; omega)).trans hrv
        have hLk := hL k hlt
        have heq2 := fun w => Lib.run_eql_slice_nil (P := Try.prog) w 31 3 ai (L k) ci 0 0 Try.underlying31
        clear ha hcell hc hrv
        cases ai with
        | none =>
          have h0 : L k = 0 := by
            by_cases h0 : 0 < L k
            · obtain ⟨b, off, ha, _⟩ := hrow h0; cases ha
            · omega
          have H0 : Hid (L k = 0) := h0
          clear h0 hrow
          go_wp2
          go_roundg (n - (k + 1))
          case measure => omega
          case rel => exact ⟨k + 1, by omega, rfl, by go_num, V, copied_nil hC H0.out⟩
        | some ai =>
          have hmk2 := run_make_row' (P := Try.prog) 31 3 (.int .i64 0) 8 Try.underlying31 Try.info3 rfl .i64 .i64 (L k) (by omega) (by omega)
          go_wp2
          go_loopg [7] (L k) (fun g i wi => ∃ j : Nat, j ≤ L k ∧ g = L k - j ∧ i = .int .i64 j ∧ Below wo.heap.size wo wi ∧ wi.rowIs wo.heap.size 3 (L k) (fun i => .int .i64 (if i < j then Z k i else 0)))
          case atStart => exact ⟨0, Nat.zero_le _, rfl, rfl, (Below.refl _ _).alloc (Nat.le_refl _) _, (World.rowIs_made wo _ (L k) 3).congr (fun i _ => by simp)⟩
          case round =>
            obtain ⟨j, hj, rfl, rfl, hbi, hri⟩ := hrel
            clear hmk2 heq2 hix hcr
            by_cases hlj : j < L k
            · obtain ⟨b2, off2, ha2, hb2, hcell2⟩ := hrow (by omega)
              have hix2 := run_ix (P := Try.prog) (cap := ci) Try.underlying31 Try.size3 ha2 hlj
              have c2 : wr.cell? ⟨b2, off2 + j, none⟩ = some (.int .i64 (Z k j)) := ((hbi.cell (p := ⟨b2, off2 + j, none⟩) (by have := hC.below.size; show b2 < _; omega)).trans (hC.below.cell (p := ⟨b2, off2 + j, none⟩) (by show b2 < _; omega))).trans (hcell2 j hlj)
              have d2 : wr.cell? ⟨wo.heap.size, j, none⟩ = some (.int .i64 0) := by simpa using hri.cell hlj
              have f2 : wr.frozen? ⟨wo.heap.size, j, none⟩ = false := hri.frozen _
              clear ha2 hcell2 hrow
              go_wp2
              go_roundg (L k - (j + 1))
              case measure => omega
              case rel =>
                refine ⟨j + 1, by omega, rfl, by go_num, hbi.setCell (Nat.le_refl _) _, (hri.set _ _).congr (fun i _ => ?_)⟩
                by_cases e : i = j
                · subst e; simp
                · by_cases e2 : i < j
                  · simp [e, e2, show i < j + 1 by omega]
                  · simp [e, e2, show ¬ i < j + 1 by omega]
            · have hri2 := hri.congr (g := fun i => .int .i64 (Z k i)) (fun i hi => by simp [show i < j by omega])
              have hR := copied_row hC (by omega) hbi hri2
              have htl := hC.top.lt
              have d3 : wr.cell? ⟨w.heap.size, k, none⟩ = some (V k) := (hbi.cell (p := ⟨w.heap.size, k, none⟩) htl).trans (hC.top.cell hlt)
              have f3 : wr.frozen? ⟨w.heap.size, k, none⟩ = false := (hbi.frozen (p := ⟨w.heap.size, k, none⟩) htl).trans (hC.top.frozen _)
              go_wp2
              go_roundg (n - (k + 1))
              case measure => omega
              case rel => exact ⟨k + 1, by omega, rfl, by go_num, _, hR⟩
      · go_wp2
        go_ret
        have : k = n := by omega
        subst this
        exact ⟨_, rfl, copied_end (by omega) hC, hC.below⟩
end Go.Proofs.Qxb6601668a
