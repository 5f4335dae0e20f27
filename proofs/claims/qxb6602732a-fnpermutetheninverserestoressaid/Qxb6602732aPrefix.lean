/-
  isPermutationPrefix.
-/
import Derived.Test.Qxb6602732aMem
namespace Go.Proofs.Qxb6602732a
open Go.RowKit

/-- The first n numbers are those below n, none twice. -/
def Perm (n : Nat) (O : Nat → Int) : Prop := ∀ k, k < n → (0 ≤ O k ∧ O k < n) ∧ ∀ s, s < k → O s ≠ O k

theorem seen_start (w : World) : (w.alloc (.cells #[.bool false, .bool false, .bool false, .bool false, .bool false, .bool false, .bool false, .bool false, .bool false, .bool false, .bool false, .bool false, .bool false, .bool false, .bool false, .bool false,
    .bool false, .bool false, .bool false, .bool false, .bool false, .bool false, .bool false, .bool false, .bool false, .bool false, .bool false, .bool false, .bool false, .bool false, .bool false, .bool false,
    .bool false, .bool false, .bool false, .bool false, .bool false, .bool false, .bool false, .bool false, .bool false, .bool false, .bool false, .bool false, .bool false, .bool false, .bool false, .bool false,
    .bool false, .bool false, .bool false, .bool false, .bool false, .bool false, .bool false, .bool false, .bool false, .bool false, .bool false, .bool false, .bool false, .bool false, .bool false, .bool false] 46)).rowIs w.heap.size 46 64 (fun _ => .bool false) := by
  have h := World.rowIs_alloc w (Array.replicate 64 (.bool false)) 46 (fun _ => .bool false) (fun i hi => by simp at hi; simp [hi])
  have h64 : (Array.replicate 64 (Value.bool false)).size = 64 := by simp
  rw [h64] at h
  exact h

set_option maxHeartbeats 1000000 in
set_option maxRecDepth 100000 in
theorem isPerm_any {B : Nat} {w : World} {v : Value} {m n : Nat} {O : Nat → Int} (hO : ∀ i, i < m → 0 ≤ O i ∧ O i ≤ 255) (h : SliceAt B w v m (fun i => .int .u8 (O i))) (hB : B ≤ w.heap.size) (hn64 : n ≤ 64) :
    Calls Try.prog 21 #[v, .int .i64 (n : Int)] w (Told (n ≤ m ∧ Perm n O) w) := by
  obtain ⟨ao, cap, rfl, hm, hc⟩ := h
  have hd : decide ((64 : Int) < (n : Int)) = false := by simp; omega
  by_cases hnm : n ≤ m
  · go_enter Try.func21, Try.ntmps21
    go_wp2
    go_loopg [6] n (fun g i wr => ∃ (k : Nat) (Y : Nat → Bool), k ≤ n ∧ g = n - k ∧ i = .int .i64 k ∧ wr.rowIs w.heap.size 46 64 (fun t => .bool (Y t)) ∧ Below w.heap.size w wr ∧ Hid ((∀ t, t < k → (0 ≤ O t ∧ O t < n) ∧ ∀ s, s < t → O s ≠ O t) ∧ ∀ s, s < k → Y (O s).toNat = true))
    case atStart => exact ⟨0, fun _ => false, Nat.zero_le _, rfl, rfl, seen_start w, (Below.refl _ _).alloc (Nat.le_refl _) _, fun k hk => absurd hk (Nat.not_lt_zero _), fun k hk => absurd hk (Nat.not_lt_zero _)⟩
    case round =>
      obtain ⟨k, Y, hk, rfl, rfl, hrow, hbel, HP⟩ := hrel
      by_cases hlt : k < n
      · obtain ⟨b, off, ha, hb, hcell⟩ := hc (by omega)
        have hbd := hO k (by omega)
        obtain ⟨o, ho⟩ : ∃ o : Nat, O k = (o : Int) := ⟨(O k).toNat, by omega⟩
        rw [ho] at hbd
        have hix := run_ix (P := Try.prog) (n := m) (cap := cap) Try.underlying22 Try.size5 ha (show k < m by omega)
        have c0 : wr.cell? ⟨b, off + k, none⟩ = some (.int .u8 (o : Int)) := by rw [← ho]; exact (hbel.cell (p := ⟨b, off + k, none⟩) (by show b < _; omega)).trans (hcell k (by omega))
        have HO : Hid (O k = (o : Int)) := ho
        clear ha hcell hc ho hO
        by_cases h1 : n ≤ o
        · go_wp2
          go_ret
          exact Told.no hbel
        · have hon : o < n := by omega
          have c1 : wr.cell? ⟨w.heap.size, o, none⟩ = some (.bool (Y o)) := hrow.cell (by omega)
          have f1 : wr.frozen? ⟨w.heap.size, o, none⟩ = false := hrow.frozen _
          cases hY : Y o with
          | true =>
            rw [hY] at c1
            clear hY
            go_wp2
            go_ret
            exact Told.no hbel
          | false =>
            rw [hY] at c1
            have HY : Hid (Y o = false) := hY
            clear hY
            go_wp2
            go_roundg (n - (k + 1))
            case measure => omega
            case rel =>
              refine ⟨k + 1, fun t => if t = o then true else Y t, by omega, rfl, by go_num, (hrow.set _ _).congr (fun i _ => ?_), hbel.setCell (Nat.le_refl _) _, ?_⟩
              · by_cases e : i = o
                · simp [e]
                · simp [e]
              · obtain ⟨q1, q3⟩ := HP.out
                refine ⟨fun t ht => ?_, fun t ht => ?_⟩
                · by_cases e : t = k
                  · subst e
                    rw [HO.out]
                    refine ⟨⟨by omega, by omega⟩, fun s hs he => ?_⟩
                    have := q3 s hs
                    rw [he] at this
                    simp at this
                    rw [HY.out] at this
                    cases this
                  · exact q1 t (by omega)
                · by_cases e : t = k
                  · subst e; rw [HO.out]; simp
                  · have := q3 t (by omega)
                    simp [this]
      · go_wp2
        go_ret
        obtain ⟨q1, q3⟩ := HP.out
        exact Told.yes ⟨hnm, fun t ht => q1 t (by omega)⟩ hbel
  · go_enter Try.func21, Try.ntmps21
    go_wp2
    go_ret
    exact Told.no (Below.refl _ _)
end Go.Proofs.Qxb6602732a
