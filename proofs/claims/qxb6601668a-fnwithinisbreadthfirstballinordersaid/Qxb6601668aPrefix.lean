/-
  FnWithinGrowsByPrefix: the walk.
-/
import Derived.Test.Qxb6601668aWithin
import Derived.Test.Qxb6601668aAdj
import Derived.Test.Qxb6601668aGuards
import Derived.Test.Qxb6601668aBytes
namespace Go.Proofs.Qxb6601668a
open Go.RowKit

/-- What every law of this seat ends in. -/
def Holds (w : World) (e : Ending) (w' : World) : Prop := e = .returned (.bool true) ∧ Below w.heap.size w w'
theorem Holds.mk {w w' : World} (h : Below w.heap.size w w') : Holds w (.returned (.bool true)) w' := ⟨rfl, h⟩

theorem prefix_plain {A : Int → List Int} {v : Int} {h : Nat} : ∃ t, (bfs A v (h + 1)).1 = (bfs A v h).1 ++ t := bfs_grows A v h

/-- The comparison's plain side: the shorter list is the longer one's head. -/
theorem prefix_of (A : Int → List Int) (v hops : Int) : (bfs A v hops.toNat).1.length ≤ (bfs A v (hops + 1).toNat).1.length ∧ ∀ i, i < (bfs A v hops.toNat).1.length → (bfs A v hops.toNat).1.getD i 0 = (bfs A v (hops + 1).toNat).1.getD i 0 := by
  by_cases h : 0 ≤ hops
  · have e : (hops + 1).toNat = hops.toNat + 1 := by omega
    rw [e]
    obtain ⟨t, ht⟩ := bfs_grows A v hops.toNat
    rw [ht]
    refine ⟨by simp, fun i hi => ?_⟩
    simp [List.getElem?_append_left hi]
  · have e1 : (hops + 1).toNat = 0 := by omega
    have e2 : hops.toNat = 0 := by omega
    rw [e1, e2]
    exact ⟨Nat.le_refl _, fun i _ => rfl⟩

set_option maxHeartbeats 4000000 in
set_option maxRecDepth 100000 in
theorem prefix_walk {B : Nat} {w : World} {io : Option Addr} {m icap : Nat} {X : Nat → Int} {na : Option Addr} {n ncap : Nat} {L : Nat → Nat} {Z : Nat → Nat → Int} (hB : B ≤ w.heap.size) (hm : m ≤ 9223372036854775807)
    (hI : IdsAt B w (.slice io m icap) m X) (hN : RowsAt B w (.slice na n ncap) n L Z) (links v hops : Int) (hwv : (Lit.int .i64 v).wf = true) (hlo : -9223372036854775808 ≤ hops) :
    Calls Try.prog 4 #[.slice io m icap, .slice na n ncap, .int .i64 links, .int .i64 v, .int .i64 hops] w (Holds w) := by
  have HI : Hid (IdsAt B w (.slice io m icap) m X) := hI
  have HN : Hid (RowsAt B w (.slice na n ncap) n L Z) := hN
  have hn63 : n ≤ 9223372036854775807 := by obtain ⟨_, _, e, h, _⟩ := hN; exact h
  clear hI hN
  go_enter Try.func4, Try.ntmps4
  go_wp2_with fail
  refine (bytes14_any hm HN.out _ _ _).mono ?_
  rintro e w' ⟨r, rfl, -, hw⟩
  rw [hw]
  cases r with
  | false =>
    go_wp2
    go_ret
    exact Holds.mk (Below.refl _ _)
  | true =>
    go_wp2_with fail
    refine (fit_any hm HN.out).mono ?_
    rintro e w'' ⟨r, rfl, hfit, hw2⟩
    rw [hw2]
    cases r with
    | false =>
      go_wp2
      go_ret
      exact Holds.mk (Below.refl _ _)
    | true =>
      obtain ⟨hm6, hn6, hL⟩ := hfit rfl
      clear hfit
      by_cases hmax : hops < 65536
      · go_wp2_with fail
        refine (inRange_any HN.out).mono ?_
        rintro e w3 ⟨r, rfl, hin, hw3⟩
        rw [hw3]
        cases r with
        | false =>
          go_wp2
          go_ret
          exact Holds.mk (Below.refl _ _)
        | true =>
          have hr := hin rfl
          clear hin
          by_cases hbad : 0 ≤ hops ∧ (v < 0 ∨ (n : Int) ≤ v)
          · obtain ⟨hb0, hb1⟩ := hbad
            rcases Int.lt_or_le v 0 with hneg | hneg
            · go_wp2
              go_ret
              exact Holds.mk (Below.refl _ _)
            · have hge : (n : Int) ≤ v := by omega
              clear hb1
              go_wp2
              go_ret
              exact Holds.mk (Below.refl _ _)
          · have hv : 0 ≤ hops → 0 ≤ v ∧ v < n := by omega
            clear hbad
            obtain ⟨hle, hsame⟩ := prefix_of (adjOf L Z) v hops
            obtain ⟨F1, e1⟩ : ∃ F, F = (bfs (adjOf L Z) v hops.toNat).1 := ⟨_, rfl⟩
            obtain ⟨F2, e2⟩ : ∃ F, F = (bfs (adjOf L Z) v (hops + 1).toNat).1 := ⟨_, rfl⟩
            rw [← e1, ← e2] at hle hsame
            have E1 : Hid (F1 = (bfs (adjOf L Z) v hops.toNat).1) := e1
            have E2 : Hid (F2 = (bfs (adjOf L Z) v (hops + 1).toNat).1) := e2
            have HS : Hid (∀ i, i < F1.length → F1.getD i 0 = F2.getD i 0) := hsame
            have HV : Hid (0 ≤ hops → 0 ≤ v ∧ v < n) := hv
            clear e1 e2 hsame
            rcases (show (0 ≤ hops ∧ 0 ≤ v ∧ v < n) ∨ hops < 0 from by omega) with ⟨h0, hv0, hv1⟩ | h0
            all_goals
              clear hv
              go_wp2_with fail
              refine (cloneIds_any hm6 HI.out hB).mono ?_
              rintro e w4 ⟨iv, X', rfl, hI4, hb4⟩
              go_wp2_with fail
              refine (cloneAdj_any hn6 hL (HN.out.kept (hb4.mono hB)) (Nat.le_trans hB hb4.size)).mono ?_
              rintro e w5 ⟨nv, rfl, hN5, hb5⟩
              go_wp2_with fail
              refine (newGraph_any links hm6 (hI4.kept hb5 hb5.size) hN5 (Nat.le_refl _)).mono ?_
              rintro e w6 ⟨gv, rfl, hG6, hb6⟩
              have cc1 := within_any hG6 (Nat.le_refl _) hn6 hL hr v hops hwv (by omega) (fun h => HV.out (by omega))
              rw [← E1.out] at cc1
              go_wp2_with fail
              refine cc1.mono ?_
              rintro e w7 ⟨ao1, cap1, rfl, hF1, -, hb7⟩
              have cc2 := within_any (hG6.kept hb7) hb7.size hn6 hL hr v (hops + 1) hwv (by omega) (fun h => HV.out (by omega))
              rw [← E2.out] at cc2
              clear cc1
              go_wp2_with fail
              refine cc2.mono ?_
              rintro e w8 ⟨ao2, cap2, rfl, hF2, -, hb8⟩
              clear cc2
              have hs4 := hb4.size
              have hs5 := hb5.size
              have hs6 := hb6.size
              have hs7 := hb7.size
              have hbel : Below w.heap.size w w8 := (((hb4.trans (hb5.mono hs4)).trans (hb6.mono (by omega))).trans (hb7.mono (by omega))).trans (hb8.mono (by omega))
              have hF1' := (hF1.kept hb8).mono hb8.size
              obtain ⟨_, _, q1, hl1, hc1⟩ := hF1'
              injection q1 with q1 _ q2
              subst q1 q2
              obtain ⟨_, _, q3, hl2, hc2⟩ := hF2
              injection q3 with q3 _ q4
              subst q3 q4
              clear hb4 hb5 hb6 hb7 hb8 hs4 hs5 hs6 hs7 hF1 hG6 hN5 hI4
              go_wp2
              go_loopg [15] (F1.length) (fun g i wr => ∃ k : Nat, k ≤ F1.length ∧ g = F1.length - k ∧ i = .int .i64 k ∧ Below w8.heap.size w8 wr)
              case atStart => exact ⟨0, Nat.zero_le _, rfl, rfl, Below.refl _ _⟩
              case round =>
                obtain ⟨k, hk, rfl, rfl, hbr⟩ := hrel
                by_cases hlt : k < F1.length
                · obtain ⟨b1, o1, a1, t1, cell1⟩ := hc1 (by omega)
                  obtain ⟨b2, o2, a2, t2, cell2⟩ := hc2 (by omega)
                  have hix1 := run_ix (P := Try.prog) (cap := cap1) Try.underlying31 Try.size3 a1 hlt
                  have hix2 := run_ix (P := Try.prog) (n := F2.length) (cap := cap2) Try.underlying31 Try.size3 a2 (show k < F2.length by omega)
                  obtain ⟨x, hx⟩ : ∃ x, x = F1.getD k 0 := ⟨_, rfl⟩
                  have d1 : wr.cell? ⟨b1, o1 + k, none⟩ = some (.int .i64 x) := (hbr.cell (p := ⟨b1, o1 + k, none⟩) t1).trans (by rw [hx]; exact cell1 k hlt)
                  have d2 : wr.cell? ⟨b2, o2 + k, none⟩ = some (.int .i64 x) := (hbr.cell (p := ⟨b2, o2 + k, none⟩) t2).trans (by rw [hx, HS.out k hlt]; exact cell2 k (by omega))
                  clear hx a1 a2 cell1 cell2 hc1 hc2
                  go_wp2
                  go_region
                  all_goals
                    go_wp2
                    go_roundg (F1.length - (k + 1))
                    case measure => omega
                    case rel => exact ⟨k + 1, by omega, rfl, by go_num, hbr.drew⟩
                · go_wp2
                  go_ret
                  exact Holds.mk (hbel.trans (hbr.mono hbel.size))
      · go_wp2
        go_ret
        exact Holds.mk (Below.refl _ _)
end Go.Proofs.Qxb6601668a
