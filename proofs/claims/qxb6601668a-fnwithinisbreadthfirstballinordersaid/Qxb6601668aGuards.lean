/-
  The guards: zzInRange, zzBytesFit, the three zzBytes_.
-/
import Derived.Test.Qxb6601668aMem
namespace Go.Proofs.Qxb6601668a
open Go.RowKit

set_option maxHeartbeats 1000000 in
set_option maxRecDepth 100000 in
theorem inRange_any {B : Nat} {w : World} {v : Value} {n : Nat} {L : Nat → Nat} {Z : Nat → Nat → Int} (h : RowsAt B w v n L Z) :
    Calls Try.prog 15 #[v] w (Told (∀ u, u < n → ∀ i, i < L u → 0 ≤ Z u i ∧ Z u i < n) w) := by
  obtain ⟨ao, cap, rfl, hm, hc⟩ := h
  go_enter Try.func15, Try.ntmps15
  go_wp2
  go_loopg [4] n (fun g i wr => wr = w ∧ ∃ k : Nat, k ≤ n ∧ g = n - k ∧ i = .int .i64 k ∧ ∀ u, u < k → ∀ i, i < L u → 0 ≤ Z u i ∧ Z u i < n)
  case atStart => exact ⟨rfl, 0, Nat.zero_le _, rfl, rfl, fun u hu => absurd hu (Nat.not_lt_zero _)⟩
  case round =>
    obtain ⟨rfl, k, hk, rfl, rfl, hok⟩ := hrel
    have A : Aside (∀ u, u < k → ∀ i, i < L u → 0 ≤ Z u i ∧ Z u i < n) := hok
    clear hok
    by_cases hlt : k < n
    · obtain ⟨b, off, ha, hb, hcell⟩ := hc (by omega)
      obtain ⟨rv, hrv, ai, ci, rfl, hLm, hrow⟩ := hcell k hlt
      have hix := run_ix (P := Try.prog) (cap := cap) Try.underlying23 Try.size31 ha hlt
      have HA : Aside (ao = some ⟨b, off, none⟩) := ha
      clear ha hcell hc
      go_wp2
      go_loopg [6] (L k) (fun g i wi => wi = wr ∧ ∃ j : Nat, j ≤ L k ∧ g = L k - j ∧ i = .int .i64 j ∧ ∀ i, i < j → 0 ≤ Z k i ∧ Z k i < n)
      case atStart => exact ⟨rfl, 0, Nat.zero_le _, rfl, rfl, fun u hu => absurd hu (Nat.not_lt_zero _)⟩
      case round =>
        obtain ⟨rfl, j, hj, rfl, rfl, hok⟩ := hrel
        have A2 : Aside (∀ i, i < j → 0 ≤ Z k i ∧ Z k i < n) := hok
        clear hok hix hrv
        by_cases hlj : j < L k
        · obtain ⟨b2, off2, ha2, hb2, hcell2⟩ := hrow (by omega)
          have hc2 := hcell2 j hlj
          have hix2 := run_ix (P := Try.prog) (cap := ci) Try.underlying31 Try.size3 ha2 hlj
          clear ha2 hcell2 hrow
          by_cases hin : 0 ≤ Z k j ∧ Z k j < n
          · obtain ⟨hin1, hin2⟩ := hin
            go_wp2
            go_roundg (L k - (j + 1))
            case measure => omega
            case rel => exact ⟨rfl, j + 1, by omega, rfl, by go_num, fun i hi => by
              by_cases e : i = j
              · subst e; exact ⟨hin1, hin2⟩
              · exact A2.out i (by omega)⟩
          · by_cases hneg : Z k j < 0
            all_goals
              go_wp2
              go_ret
              exact Told.no
        · go_wp2
          go_roundg (n - (k + 1))
          case measure => omega
          case rel => exact ⟨rfl, k + 1, by omega, rfl, by go_num, fun u hu i hi => by
              by_cases e : u = k
              · subst e; exact A2.out i (by omega)
              · exact A.out u (by omega) i hi⟩
    · go_wp2
      go_ret
      exact Told.yes (fun u hu => A.out u (by omega))

set_option maxHeartbeats 1000000 in
set_option maxRecDepth 100000 in
theorem fit_any {B : Nat} {w : World} {io : Option Addr} {m icap : Nat} {v : Value} {n : Nat} {L : Nat → Nat} {Z : Nat → Nat → Int} (hm : m ≤ 9223372036854775807) (h : RowsAt B w v n L Z) :
    Calls Try.prog 7 #[.slice io m icap, v] w (Told (m ≤ 65536 ∧ n ≤ 65536 ∧ ∀ u, u < n → L u ≤ 131072) w) := by
  obtain ⟨ao, cap, rfl, hn, hc⟩ := h
  by_cases h1 : m ≤ 65536
  · by_cases h2 : n ≤ 65536
    · by_cases h3 : 16 * m + 8 * n ≤ 1048576
      · go_enter Try.func7, Try.ntmps7
        go_wp2
        go_loopg [5, 6] n (fun g t i wr => wr = w ∧ ∃ k s : Nat, k ≤ n ∧ g = n - k ∧ i = .int .i64 k ∧ t = .int .i64 s ∧ s ≤ 1048576 ∧ ∀ u, u < k → L u ≤ 131072)
        case atStart => exact ⟨rfl, 0, 16 * m + 8 * n, Nat.zero_le _, rfl, rfl, by go_num, h3, fun u hu => absurd hu (Nat.not_lt_zero _)⟩
        case round =>
          obtain ⟨rfl, k, s, hk, rfl, rfl, rfl, hs, hok⟩ := hrel
          have A : Aside (∀ u, u < k → L u ≤ 131072) := hok
          clear hok
          by_cases hlt : k < n
          · obtain ⟨b, off, ha, hb, hcell⟩ := hc (by omega)
            obtain ⟨rv, hrv, ai, ci, rfl, hLm, hrow⟩ := hcell k hlt
            have hix := run_ix (P := Try.prog) (cap := cap) Try.underlying23 Try.size31 ha hlt
            clear ha hcell hc hrow
            by_cases h4 : L k ≤ 131072
            · by_cases h5 : s + 8 * L k ≤ 1048576
              · go_wp2
                go_roundg (n - (k + 1))
                case measure => omega
                case rel => exact ⟨rfl, k + 1, s + 8 * L k, by omega, rfl, by go_num, by go_num, h5, fun u hu => by
                  by_cases e : u = k
                  · subst e; exact h4
                  · exact A.out u (by omega)⟩
              · go_wp2
                go_ret
                exact Told.no
            · go_wp2
              go_ret
              exact Told.no
          · go_wp2
            go_ret
            exact Told.yes ⟨h1, h2, fun u hu => A.out u (by omega)⟩
      · go_enter Try.func7, Try.ntmps7
        go_wp2
        go_ret
        exact Told.no
    · go_enter Try.func7, Try.ntmps7
      go_wp2
      go_ret
      exact Told.no
  · go_enter Try.func7, Try.ntmps7
    go_wp2
    go_ret
    exact Told.no
end Go.Proofs.Qxb6601668a
