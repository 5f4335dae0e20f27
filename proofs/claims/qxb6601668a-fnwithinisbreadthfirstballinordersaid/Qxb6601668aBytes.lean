/-
  The three bounds on total length, laid by program: each answers some bool and leaves the world.
-/
import Derived.Test.Qxb6601668aMem
namespace Go.Proofs.Qxb6601668a
open Go.RowKit

set_option maxHeartbeats 1000000 in
set_option maxRecDepth 100000 in
theorem bytes14_any {B : Nat} {w : World} {io : Option Addr} {m icap : Nat} {v : Value} {n : Nat} {L : Nat → Nat} {Z : Nat → Nat → Int} (hm : m ≤ 9223372036854775807) (h : RowsAt B w v n L Z) (x y z : Int) :
    Calls Try.prog 14 #[.slice io m icap, v, .int .i64 x, .int .i64 y, .int .i64 z] w (Told True w) := by
  obtain ⟨ao, cap, rfl, hn, hc⟩ := h
  by_cases h1 : m ≤ 1048576
  · by_cases h2 : n ≤ 1048576
    · by_cases h3 : m + n ≤ 1048576
      · go_enter Try.func14, Try.ntmps14
        go_wp2
        go_loopg [11, 12] n (fun g t i wr => wr = w ∧ ∃ k s : Nat, k ≤ n ∧ g = n - k ∧ i = .int .i64 k ∧ t = .int .i64 s ∧ s ≤ 1048576)
        case atStart => exact ⟨rfl, 0, m + n, Nat.zero_le _, rfl, rfl, by go_num, h3⟩
        case round =>
          obtain ⟨rfl, k, s, hk, rfl, rfl, rfl, hs⟩ := hrel
          by_cases hlt : k < n
          · obtain ⟨b, off, ha, hb, hcell⟩ := hc (by omega)
            obtain ⟨rv, hrv, ai, ci, rfl, hLm, hrow⟩ := hcell k hlt
            have hix := run_ix (P := Try.prog) (cap := cap) Try.underlying23 Try.size31 ha hlt
            clear ha hcell hc hrow
            by_cases h4 : L k ≤ 1048576
            · by_cases h5 : s + L k ≤ 1048576
              · go_wp2
                go_roundg (n - (k + 1))
                case measure => omega
                case rel => exact ⟨rfl, k + 1, s + L k, by omega, rfl, by go_num, by go_num, h5⟩
              · go_wp2
                go_ret
                exact Told.no
            · go_wp2
              go_ret
              exact Told.no
          · go_wp2
            go_ret
            exact Told.yes trivial
      · go_enter Try.func14, Try.ntmps14
        go_wp2
        go_ret
        exact Told.no
    · go_enter Try.func14, Try.ntmps14
      go_wp2
      go_ret
      exact Told.no
  · go_enter Try.func14, Try.ntmps14
    go_wp2
    go_ret
    exact Told.no

set_option maxHeartbeats 1000000 in
set_option maxRecDepth 100000 in
theorem bytes6_any {B : Nat} {w : World} {io : Option Addr} {m icap : Nat} {v : Value} {n : Nat} {L : Nat → Nat} {Z : Nat → Nat → Int} (hm : m ≤ 9223372036854775807) (h : RowsAt B w v n L Z) (x y z : Int) :
    Calls Try.prog 6 #[.slice io m icap, v, .int .i64 x, .int .i64 y, .int .i64 z] w (Told True w) := by
  obtain ⟨ao, cap, rfl, hn, hc⟩ := h
  by_cases h1 : m ≤ 1048576
  · by_cases h2 : n ≤ 1048576
    · by_cases h3 : m + n ≤ 1048576
      · go_enter Try.func6, Try.ntmps6
        go_wp2
        go_loopg [11, 12] n (fun g t i wr => wr = w ∧ ∃ k s : Nat, k ≤ n ∧ g = n - k ∧ i = .int .i64 k ∧ t = .int .i64 s ∧ s ≤ 1048576)
        case atStart => exact ⟨rfl, 0, m + n, Nat.zero_le _, rfl, rfl, by go_num, h3⟩
        case round =>
          obtain ⟨rfl, k, s, hk, rfl, rfl, rfl, hs⟩ := hrel
          by_cases hlt : k < n
          · obtain ⟨b, off, ha, hb, hcell⟩ := hc (by omega)
            obtain ⟨rv, hrv, ai, ci, rfl, hLm, hrow⟩ := hcell k hlt
            have hix := run_ix (P := Try.prog) (cap := cap) Try.underlying23 Try.size31 ha hlt
            clear ha hcell hc hrow
            by_cases h4 : L k ≤ 1048576
            · by_cases h5 : s + L k ≤ 1048576
              · go_wp2
                go_roundg (n - (k + 1))
                case measure => omega
                case rel => exact ⟨rfl, k + 1, s + L k, by omega, rfl, by go_num, by go_num, h5⟩
              · go_wp2
                go_ret
                exact Told.no
            · go_wp2
              go_ret
              exact Told.no
          · go_wp2
            go_ret
            exact Told.yes trivial
      · go_enter Try.func6, Try.ntmps6
        go_wp2
        go_ret
        exact Told.no
    · go_enter Try.func6, Try.ntmps6
      go_wp2
      go_ret
      exact Told.no
  · go_enter Try.func6, Try.ntmps6
    go_wp2
    go_ret
    exact Told.no

set_option maxHeartbeats 1000000 in
set_option maxRecDepth 100000 in
theorem bytes16_any {B : Nat} {w : World} {io : Option Addr} {m icap : Nat} {v : Value} {n : Nat} {L : Nat → Nat} {Z : Nat → Nat → Int} (hm : m ≤ 9223372036854775807) (h : RowsAt B w v n L Z) (x y z t : Int) :
    Calls Try.prog 16 #[.slice io m icap, v, .int .i64 x, .int .i64 y, .int .i64 z, .int .i64 t] w (Told True w) := by
  obtain ⟨ao, cap, rfl, hn, hc⟩ := h
  by_cases h1 : m ≤ 1048576
  · by_cases h2 : n ≤ 1048576
    · by_cases h3 : m + n ≤ 1048576
      · go_enter Try.func16, Try.ntmps16
        go_wp2
        go_loopg [13, 14] n (fun g t i wr => wr = w ∧ ∃ k s : Nat, k ≤ n ∧ g = n - k ∧ i = .int .i64 k ∧ t = .int .i64 s ∧ s ≤ 1048576)
        case atStart => exact ⟨rfl, 0, m + n, Nat.zero_le _, rfl, rfl, by go_num, h3⟩
        case round =>
          obtain ⟨rfl, k, s, hk, rfl, rfl, rfl, hs⟩ := hrel
          by_cases hlt : k < n
          · obtain ⟨b, off, ha, hb, hcell⟩ := hc (by omega)
            obtain ⟨rv, hrv, ai, ci, rfl, hLm, hrow⟩ := hcell k hlt
            have hix := run_ix (P := Try.prog) (cap := cap) Try.underlying23 Try.size31 ha hlt
            clear ha hcell hc hrow
            by_cases h4 : L k ≤ 1048576
            · by_cases h5 : s + L k ≤ 1048576
              · go_wp2
                go_roundg (n - (k + 1))
                case measure => omega
                case rel => exact ⟨rfl, k + 1, s + L k, by omega, rfl, by go_num, by go_num, h5⟩
              · go_wp2
                go_ret
                exact Told.no
            · go_wp2
              go_ret
              exact Told.no
          · go_wp2
            go_ret
            exact Told.yes trivial
      · go_enter Try.func16, Try.ntmps16
        go_wp2
        go_ret
        exact Told.no
    · go_enter Try.func16, Try.ntmps16
      go_wp2
      go_ret
      exact Told.no
  · go_enter Try.func16, Try.ntmps16
    go_wp2
    go_ret
    exact Told.no
end Go.Proofs.Qxb6601668a
