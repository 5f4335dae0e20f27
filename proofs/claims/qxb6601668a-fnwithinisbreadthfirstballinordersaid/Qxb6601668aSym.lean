/-
  zzHas, zzListHas, zzSortedSymmetric.
-/
import Derived.Test.Qxb6601668aGuards
namespace Go.Proofs.Qxb6601668a
open Go.RowKit

theorem run_ixI {P : Program} {t e : TypeId} (ht : P.underlying t = some (.slice e)) (hs : (P.info? e).map (·.size) = some 1) {ao : Option Addr} {n cap b off k : Nat} (ha : ao = some ⟨b, off, none⟩) (hk : k < n) (i : Int) (hi : i = (k : Int)) (w : World) :
    (Instr.indexAt t (.slice ao n cap) (.int .i64 i)).run P w = .ok (.pointer (some ⟨b, off + k, none⟩)) w := by
  rw [hi]
  exact run_ix ht hs ha hk w

set_option maxHeartbeats 1000000 in
set_option maxRecDepth 100000 in
theorem has_any {B : Nat} {w : World} {v : Value} {n : Nat} {Z : Nat → Int} (h : IntsAt B w v n Z) (x : Int) :
    Calls Try.prog 18 #[v, .int .i64 x] w (Told (∃ i, i < n ∧ Z i = x) w) := by
  obtain ⟨ao, cap, rfl, hm, hc⟩ := h
  go_enter Try.func18, Try.ntmps18
  go_wp2
  go_loopg [5, 6] n (fun g lo hi wr => wr = w ∧ ∃ l h : Nat, l ≤ h ∧ h ≤ n ∧ g = h - l ∧ lo = .int .i64 l ∧ hi = .int .i64 h)
  case atStart => exact ⟨rfl, 0, n, Nat.zero_le _, Nat.le_refl _, rfl, rfl, rfl⟩
  case round =>
    obtain ⟨rfl, l, h, hl, hh, rfl, rfl, rfl⟩ := hrel
    by_cases hlt : l < h
    · obtain ⟨b, off, ha, hb, hcell⟩ := hc (by omega)
      obtain ⟨q, hq⟩ : ∃ q : Nat, q = l + (h - l) / 2 := ⟨_, rfl⟩
      have hix := run_ixI (P := Try.prog) (n := n) (cap := cap) (k := q) Try.underlying31 Try.size3 ha (by omega) ((l : Int) + ((h : Int) - l) / 2) (by omega)
      have c1 := hcell q (by omega)
      have HQ : Hid (q = l + (h - l) / 2) := hq
      clear hq ha hcell hc
      by_cases hz : Z q < x
      · go_wp2
        have := HQ.out
        go_roundg (h - (q + 1))
        case measure => omega
        case rel => exact ⟨rfl, q + 1, h, by omega, hh, rfl, by go_num, rfl⟩
      · go_wp2
        have := HQ.out
        go_roundg (q - l)
        case measure => omega
        case rel => exact ⟨rfl, l, q, by omega, by omega, rfl, rfl, by go_num⟩
    · by_cases hln : l < n
      · obtain ⟨b, off, ha, hb, hcell⟩ := hc (by omega)
        have hix := run_ix (P := Try.prog) (cap := cap) Try.underlying31 Try.size3 ha hln
        have c1 := hcell l hln
        clear ha hcell hc
        go_wp2
        go_ret
        exact Told.is (fun e => ⟨l, hln, by simpa using e⟩)
      · have hd : decide ((l : Int) < (n : Int)) = false := by simp; omega
        go_wp2
        go_ret
        exact Told.no

/-- The call answered whether the proposition holds; the world is as it was. -/
def Asked (p : Prop) (w : World) (e : Ending) (w' : World) : Prop := ∃ r : Bool, e = .returned (.bool r) ∧ (r = true ↔ p) ∧ w' = w
theorem Asked.yes {p : Prop} {w : World} (h : p) : Asked p w (.returned (.bool true)) w := ⟨true, rfl, ⟨fun _ => h, fun _ => rfl⟩, rfl⟩
theorem Asked.no {p : Prop} {w : World} (h : ¬ p) : Asked p w (.returned (.bool false)) w := ⟨false, rfl, ⟨(fun e => by cases e), fun e => absurd e h⟩, rfl⟩

set_option maxHeartbeats 1000000 in
set_option maxRecDepth 100000 in
theorem listHas_any {B : Nat} {w : World} {v : Value} {n : Nat} {Z : Nat → Int} (h : IntsAt B w v n Z) (x : Int) :
    Calls Try.prog 17 #[v, .int .i64 x] w (Asked (∃ i, i < n ∧ Z i = x) w) := by
  obtain ⟨ao, cap, rfl, hm, hc⟩ := h
  go_enter Try.func17, Try.ntmps17
  go_wp2
  go_loopg [5] n (fun g i wr => wr = w ∧ ∃ k : Nat, k ≤ n ∧ g = n - k ∧ i = .int .i64 k ∧ Hid (∀ i, i < k → Z i ≠ x))
  case atStart => exact ⟨rfl, 0, Nat.zero_le _, rfl, rfl, fun u hu => absurd hu (Nat.not_lt_zero _)⟩
  case round =>
    obtain ⟨rfl, k, hk, rfl, rfl, hno⟩ := hrel
    by_cases hlt : k < n
    · obtain ⟨b, off, ha, hb, hcell⟩ := hc (by omega)
      have hix := run_ix (P := Try.prog) (cap := cap) Try.underlying31 Try.size3 ha hlt
      have c1 := hcell k hlt
      clear ha hcell hc
      by_cases hz : Z k = x
      · have hb : (Z k == x) = true := by simpa using hz
        have HZ : Hid (Z k = x) := hz
        clear hz
        go_wp2
        go_ret
        exact Asked.yes ⟨k, hlt, HZ.out⟩
      · have hb : (Z k == x) = false := by simpa using hz
        have HZ : Hid (¬ Z k = x) := hz
        clear hz
        go_wp2
        go_roundg (n - (k + 1))
        case measure => omega
        case rel => exact ⟨rfl, k + 1, by omega, rfl, by go_num, fun i hi => by
          by_cases e : i = k
          · subst e; exact HZ.out
          · exact hno.out i (by omega)⟩
    · go_wp2
      go_ret
      exact Asked.no (fun ⟨i, hi, e⟩ => hno.out i (by omega) e)

/-- The call answered a bool; where it is true the proposition holds; nothing old has turned. -/
def ToldB (p : Prop) (w : World) (e : Ending) (w' : World) : Prop := ∃ r : Bool, e = .returned (.bool r) ∧ (r = true → p) ∧ Below w.heap.size w w'
theorem ToldB.no {p : Prop} {w w' : World} (h : Below w.heap.size w w') : ToldB p w (.returned (.bool false)) w' := ⟨false, rfl, (fun h => by cases h), h⟩
theorem ToldB.yes {p : Prop} {w w' : World} (hp : p) (h : Below w.heap.size w w') : ToldB p w (.returned (.bool true)) w' := ⟨true, rfl, fun _ => hp, h⟩

/-- The package's documented graph: every neighbour in range, each list in order, every link given both ways. -/
structure Doc (n : Nat) (L : Nat → Nat) (Z : Nat → Nat → Int) : Prop where
  rng : ∀ u, u < n → ∀ i, i < L u → 0 ≤ Z u i ∧ Z u i < n
  srt : ∀ u, u < n → ∀ i, 0 < i → i < L u → Z u (i - 1) ≤ Z u i
  sym : ∀ u, u < n → ∀ i, i < L u → ∃ j, j < L (Z u i).toNat ∧ Z (Z u i).toNat j = u

set_option maxHeartbeats 2000000 in
set_option maxRecDepth 100000 in
theorem sorted_any {B : Nat} {w : World} {v : Value} {n : Nat} {L : Nat → Nat} {Z : Nat → Nat → Int} (h : RowsAt B w v n L Z) (hB : B ≤ w.heap.size) :
    Calls Try.prog 8 #[v] w (ToldB (Doc n L Z) w) := by
  have H0 : Hid (RowsAt B w v n L Z) := h
  obtain ⟨ao, cap, rfl, hm, hc⟩ := h
  go_enter Try.func8, Try.ntmps8
  go_wp2_with fail
  refine (inRange_any H0.out).mono ?_
  rintro e w' ⟨r, rfl, hin, hw⟩
  rw [hw]
  clear hw
  cases r with
  | false =>
    go_wp2
    go_ret
    exact ToldB.no (Below.refl _ _)
  | true =>
    have hrng := hin rfl
    clear hin
    go_wp2
    go_loopg [4] n (fun g i wr => ∃ k : Nat, k ≤ n ∧ g = n - k ∧ i = .int .i64 k ∧ Below w.heap.size w wr ∧ Hid (∀ u, u < k → ∀ i, 0 < i → i < L u → Z u (i - 1) ≤ Z u i))
    case atStart => exact ⟨0, Nat.zero_le _, rfl, rfl, Below.refl _ _, fun u hu => absurd hu (Nat.not_lt_zero _)⟩
    case round =>
      obtain ⟨k, hk, rfl, rfl, hbel, hS⟩ := hrel
      by_cases hlt : k < n
      · obtain ⟨b, off, ha, hb, hcell⟩ := hc (by omega)
        obtain ⟨rv, hrv, ai, ci, rfl, hLm, hrow⟩ := hcell k hlt
        have hix := run_ix (P := Try.prog) (cap := cap) Try.underlying23 Try.size31 ha hlt
        have c1 : wr.cell? ⟨b, off + k, none⟩ = some (.slice ai (L k) ci) := (hbel.cell (p := ⟨b, off + k, none⟩) (by show b < _; omega)).trans hrv
        clear ha hcell hrv
        go_wp2
        clear hix c1
        go_loopg [6] (L k - 1 + 1) (fun g i wr => ∃ j : Nat, 0 < j ∧ g = L k - j + 1 ∧ i = .int .i64 j ∧ Below w.heap.size w wr ∧ Hid (∀ i, 0 < i → i < j → i < L k → Z k (i - 1) ≤ Z k i))
        case atStart => exact ⟨1, by omega, rfl, rfl, hbel, fun i h1 h2 => by omega⟩
        case round =>
          clear hbel
          obtain ⟨j, hj, rfl, rfl, hbel, hT⟩ := hrel
          by_cases hlj : j < L k
          · obtain ⟨b2, off2, ha2, hb2, hcell2⟩ := hrow (by omega)
            have hix1 := run_ix (P := Try.prog) (cap := ci) Try.underlying31 Try.size3 ha2 hlj
            have hix2 := run_ixI (P := Try.prog) (n := L k) (cap := ci) (k := j - 1) Try.underlying31 Try.size3 ha2 (by omega) ((j : Int) - 1) (by omega)
            have d1 : wr.cell? ⟨b2, off2 + j, none⟩ = some (.int .i64 (Z k j)) := (hbel.cell (p := ⟨b2, off2 + j, none⟩) (by show b2 < _; omega)).trans (hcell2 j hlj)
            have d2 : wr.cell? ⟨b2, off2 + (j - 1), none⟩ = some (.int .i64 (Z k (j - 1))) := (hbel.cell (p := ⟨b2, off2 + (j - 1), none⟩) (by show b2 < _; omega)).trans (hcell2 (j - 1) (by omega))
            clear ha2 hcell2 hrow
            by_cases hz : Z k j < Z k (j - 1)
            · go_wp2
              go_region
              all_goals
                go_wp2
                go_ret
                exact ToldB.no hbel.drew
            · have HZ : Hid (¬ Z k j < Z k (j - 1)) := hz
              go_wp2
              go_region
              all_goals
                go_wp2
                go_roundg (L k - (j + 1) + 1)
                case measure => omega
                case rel => exact ⟨j + 1, by omega, rfl, by go_num, hbel.drew, fun i h1 h2 h3 => by
                  by_cases e : i = j
                  · subst e; have := HZ.out; omega
                  · exact hT.out i h1 (by omega) h3⟩
          · go_wp2
            go_roundg (n - (k + 1))
            case measure => omega
            case rel => exact ⟨k + 1, by omega, rfl, by go_num, hbel, fun u hu i h1 h2 => by
              by_cases e : u = k
              · subst e; exact hT.out i h1 (by omega) h2
              · exact hS.out u (by omega) i h1 h2⟩
      · have HS : Hid (∀ u, u < n → ∀ i, 0 < i → i < L u → Z u (i - 1) ≤ Z u i) := fun u hu => hS.out u (by omega)
        clear hS
        go_wp2
        go_loopg [7] n (fun g i wr => ∃ k : Nat, k ≤ n ∧ g = n - k ∧ i = .int .i64 k ∧ Below w.heap.size w wr ∧ Hid (∀ u, u < k → ∀ i, i < L u → ∃ j, j < L (Z u i).toNat ∧ Z (Z u i).toNat j = u))
        case atStart => exact ⟨0, Nat.zero_le _, rfl, rfl, hbel, fun u hu => absurd hu (Nat.not_lt_zero _)⟩
        case round =>
          clear hbel
          obtain ⟨k2, hk2, rfl, rfl, hbel, hS⟩ := hrel
          by_cases hlt2 : k2 < n
          · obtain ⟨b, off, ha, hb, hcell⟩ := hc (by omega)
            obtain ⟨rv, hrv, ai, ci, rfl, hLm, hrow⟩ := hcell k2 hlt2
            have hix := run_ix (P := Try.prog) (cap := cap) Try.underlying23 Try.size31 ha hlt2
            have c1 : wr.cell? ⟨b, off + k2, none⟩ = some (.slice ai (L k2) ci) := (hbel.cell (p := ⟨b, off + k2, none⟩) (by show b < _; omega)).trans hrv
            clear hrv
            go_wp2
            clear hix c1
            go_loopg [9] (L k2) (fun g i wr => ∃ j : Nat, j ≤ L k2 ∧ g = L k2 - j ∧ i = .int .i64 j ∧ Below w.heap.size w wr ∧ Hid (∀ i, i < j → ∃ j, j < L (Z k2 i).toNat ∧ Z (Z k2 i).toNat j = k2))
            case atStart => exact ⟨0, Nat.zero_le _, rfl, rfl, hbel, fun u hu => absurd hu (Nat.not_lt_zero _)⟩
            case round =>
              clear hbel
              obtain ⟨j, hj, rfl, rfl, hbel, hT⟩ := hrel
              by_cases hlj : j < L k2
              · obtain ⟨b2, off2, ha2, hb2, hcell2⟩ := hrow (by omega)
                have hzr := hrng k2 hlt2 j hlj
                obtain ⟨x, hx⟩ : ∃ x : Nat, Z k2 j = (x : Int) := ⟨(Z k2 j).toNat, by omega⟩
                have hxn : x < n := by omega
                obtain ⟨rv3, hrv3, hrow3⟩ := hcell x hxn
                have hix1 := run_ix (P := Try.prog) (cap := ci) Try.underlying31 Try.size3 ha2 hlj
                have hix2 := run_ix (P := Try.prog) (cap := cap) Try.underlying23 Try.size31 ha hxn
                have d1 : wr.cell? ⟨b2, off2 + j, none⟩ = some (.int .i64 (x : Int)) := by rw [← hx]; exact (hbel.cell (p := ⟨b2, off2 + j, none⟩) (by show b2 < _; omega)).trans (hcell2 j hlj)
                have hrow3' := hrow3.kept (hbel.mono hB)
                obtain ⟨a3, c3, rfl, _⟩ := hrow3
                have d2 : wr.cell? ⟨b, off + x, none⟩ = some (.slice a3 (L x) c3) := (hbel.cell (p := ⟨b, off + x, none⟩) (by show b < _; omega)).trans hrv3
                have HX : Hid (Z k2 j = (x : Int)) := hx
                have HA : Hid (ao = some ⟨b, off, none⟩) := ha
                clear hx hzr ha ha2 hcell2 hcell hrow hc hrv3
                have hcall := has_any hrow3' (k2 : Int)
                clear hrow3'
                go_wp2_with fail
                refine hcall.mono ?_
                rintro e w9 ⟨r, rfl, hfound, hw9⟩
                rw [hw9]
                clear hw9 hcall
                cases r with
                | false =>
                  go_wp2
                  go_ret
                  exact ToldB.no hbel
                | true =>
                  have HFd : Hid (∃ i, i < L x ∧ Z x i = (k2 : Int)) := hfound rfl
                  clear hfound
                  go_wp2
                  go_roundg (L k2 - (j + 1))
                  case measure => omega
                  case rel => exact ⟨j + 1, by omega, rfl, by go_num, hbel, fun i hi => by
                    by_cases e : i = j
                    · subst e
                      rw [HX.out]
                      exact HFd.out
                    · exact hT.out i (by omega)⟩
              · go_wp2
                go_roundg (n - (k2 + 1))
                case measure => omega
                case rel => exact ⟨k2 + 1, by omega, rfl, by go_num, hbel, fun u hu i hi => by
                  by_cases e : u = k2
                  · subst e; exact hT.out i (by omega)
                  · exact hS.out u (by omega) i hi⟩
          · go_wp2
            go_ret
            exact ToldB.yes ⟨hrng, HS.out, fun u hu => hS.out u (by omega)⟩ hbel
end Go.Proofs.Qxb6601668a
