/-
  FnWithinIsSymmetric: the walk.
-/
import Derived.Test.Qxb6601668aPrefix
import Derived.Test.Qxb6601668aSym
import Derived.Test.Qxb6601668aReach
namespace Go.Proofs.Qxb6601668a
open Go.RowKit

theorem mem_getD_iff {F : List Int} {x : Int} : (∃ i, i < F.length ∧ F.getD i 0 = x) ↔ x ∈ F := by
  constructor
  · rintro ⟨i, hi, rfl⟩
    exact getD_mem hi
  · intro h
    obtain ⟨i, hi, rfl⟩ := List.getElem_of_mem h
    exact ⟨i, hi, by simp [List.getElem?_eq_getElem hi]⟩

theorem adjOf_sym {n : Nat} {L : Nat → Nat} {Z : Nat → Nat → Int} (h : Doc n L Z) (u : Int) (hu : 0 ≤ u ∧ u < n) : ∀ x ∈ adjOf L Z u, u ∈ adjOf L Z x := by
  intro x hx
  obtain ⟨i, hi, rfl⟩ := List.mem_map.1 hx
  obtain ⟨j, hj, he⟩ := h.sym u.toNat (by omega) i (List.mem_range.1 hi)
  unfold adjOf
  exact List.mem_map.2 ⟨j, List.mem_range.2 hj, by omega⟩

theorem sym_plain {n : Nat} {L : Nat → Nat} {Z : Nat → Nat → Int} (h : Doc n L Z) (v x hops : Int) (hv : 1 ≤ hops → (0 ≤ v ∧ v < n) ∧ 0 ≤ x ∧ x < n) :
    x ∈ (bfs (adjOf L Z) v hops.toNat).1 ↔ v ∈ (bfs (adjOf L Z) x hops.toNat).1 := by
  by_cases h1 : 1 ≤ hops
  · exact bfs_symm (adjOf_rng h.rng) (adjOf_sym h) (hv h1).1 (hv h1).2 _
  · have : hops.toNat = 0 := by omega
    rw [this]
    simp [bfs]

set_option maxHeartbeats 4000000 in
set_option maxRecDepth 100000 in
theorem sym_walk {B : Nat} {w : World} {io : Option Addr} {m icap : Nat} {X : Nat → Int} {na : Option Addr} {n ncap : Nat} {L : Nat → Nat} {Z : Nat → Nat → Int} (hB : B ≤ w.heap.size) (hm : m ≤ 9223372036854775807)
    (hI : IdsAt B w (.slice io m icap) m X) (hN : RowsAt B w (.slice na n ncap) n L Z) (links v x hops : Int) (hwv : (Lit.int .i64 v).wf = true) (hwx : (Lit.int .i64 x).wf = true) :
    Calls Try.prog 5 #[.slice io m icap, .slice na n ncap, .int .i64 links, .int .i64 v, .int .i64 x, .int .i64 hops] w (Holds w) := by
  have HI : Hid (IdsAt B w (.slice io m icap) m X) := hI
  have HN : Hid (RowsAt B w (.slice na n ncap) n L Z) := hN
  have hn63 : n ≤ 9223372036854775807 := by obtain ⟨_, _, e, h, _⟩ := hN; exact h
  clear hI hN
  go_enter Try.func5, Try.ntmps5
  go_wp2_with fail
  refine (bytes16_any hm HN.out _ _ _ _).mono ?_
  rintro e w' ⟨r, rfl, -, hw⟩
  rw [hw]
  cases r with
  | false =>
    go_wp2
    go_ret
    exact Holds.mk (Below.refl _ _)
  | true =>
    go_wp2_with fail
    refine (fit_any hm HN.out).mono ?_
    rintro e w'' ⟨r, rfl, hfit, hw2⟩
    rw [hw2]
    cases r with
    | false =>
      go_wp2
      go_ret
      exact Holds.mk (Below.refl _ _)
    | true =>
      obtain ⟨hm6, hn6, hL⟩ := hfit rfl
      clear hfit hw hw2
      by_cases hmax : hops ≤ 65536
      · go_wp2_with fail
        refine (sorted_any HN.out hB).mono ?_
        rintro e w3 ⟨r, rfl, hin, hb3⟩
        cases r with
        | false =>
          go_wp2
          go_ret
          exact Holds.mk hb3
        | true =>
          have hDoc := hin rfl
          have HD : Hid (Doc n L Z) := hDoc
          clear hin
          by_cases hbad : 1 ≤ hops ∧ (v < 0 ∨ (n : Int) ≤ v ∨ x < 0 ∨ (n : Int) ≤ x)
          · obtain ⟨hb0, hb1⟩ := hbad
            rcases (show v < 0 ∨ (0 ≤ v ∧ (n : Int) ≤ v) ∨ ((0 ≤ v ∧ v < n) ∧ x < 0) ∨ ((0 ≤ v ∧ v < n) ∧ 0 ≤ x ∧ (n : Int) ≤ x) from by omega) with h | ⟨h, h'⟩ | ⟨⟨h, h'⟩, h''⟩ | ⟨⟨h, h'⟩, h'', h'''⟩
            all_goals
              clear hb1
              go_wp2
              go_ret
              exact Holds.mk hb3
          · have hv : 1 ≤ hops → (0 ≤ v ∧ v < n) ∧ 0 ≤ x ∧ x < n := by omega
            clear hbad
            have hs3 := hb3.size
            have hpl := sym_plain hDoc v x hops hv
            have hr := hDoc.rng
            obtain ⟨F1, e1⟩ : ∃ F, F = (bfs (adjOf L Z) v hops.toNat).1 := ⟨_, rfl⟩
            obtain ⟨F2, e2⟩ : ∃ F, F = (bfs (adjOf L Z) x hops.toNat).1 := ⟨_, rfl⟩
            rw [← e1, ← e2] at hpl
            have E1 : Hid (F1 = (bfs (adjOf L Z) v hops.toNat).1) := e1
            have E2 : Hid (F2 = (bfs (adjOf L Z) x hops.toNat).1) := e2
            have HP : Hid (x ∈ F1 ↔ v ∈ F2) := hpl
            have HV : Hid (1 ≤ hops → (0 ≤ v ∧ v < n) ∧ 0 ≤ x ∧ x < n) := hv
            clear e1 e2 hpl hDoc
            rcases (show (1 ≤ hops ∧ 0 ≤ v ∧ v < n ∧ 0 ≤ x ∧ x < n) ∨ hops < 1 from by omega) with ⟨h0, hv0, hv1, hx0, hx1⟩ | h0
            all_goals
              clear hv
              go_wp2_with fail
              refine (cloneIds_any hm6 (HI.out.kept (hb3.mono hB) (Nat.le_refl _)) (Nat.le_trans hB hs3)).mono ?_
              rintro e w4 ⟨iv, X', rfl, hI4, hb4⟩
              have hs4 := hb4.size
              go_wp2_with fail
              refine (cloneAdj_any hn6 hL ((HN.out.kept (hb3.mono hB)).kept (hb4.mono (Nat.le_trans hB hs3))) (Nat.le_trans (Nat.le_trans hB hs3) hs4)).mono ?_
              rintro e w5 ⟨nv, rfl, hN5, hb5⟩
              go_wp2_with fail
              refine (newGraph_any links hm6 (hI4.kept hb5 hb5.size) hN5 (Nat.le_refl _)).mono ?_
              rintro e w6 ⟨gv, rfl, hG6, hb6⟩
              have cc1 := within_any hG6 (Nat.le_refl _) hn6 hL hr v hops hwv hmax (fun h => (HV.out h).1)
              rw [← E1.out] at cc1
              go_wp2_with fail
              refine cc1.mono ?_
              rintro e w7 ⟨ao1, cap1, rfl, hF1, -, hb7⟩
              have cc2 := within_any (hG6.kept hb7) hb7.size hn6 hL hr x hops hwx hmax (fun h => (HV.out h).2)
              rw [← E2.out] at cc2
              clear cc1
              go_wp2_with fail
              refine cc2.mono ?_
              rintro e w8 ⟨ao2, cap2, rfl, hF2, -, hb8⟩
              clear cc2
              have hs5 := hb5.size
              have hs6 := hb6.size
              have hs7 := hb7.size
              have hbel : Below w.heap.size w w8 := ((((hb3.trans (hb4.mono hs3)).trans (hb5.mono (by omega))).trans (hb6.mono (by omega))).trans (hb7.mono (by omega))).trans (hb8.mono (by omega))
              have hF1' := (hF1.kept hb8).mono hb8.size
              clear hb3 hb4 hb5 hb6 hb7 hb8 hs3 hs4 hs5 hs6 hs7 hF1 hG6 hN5 hI4
              have k1 := listHas_any hF1' x
              have k2 := listHas_any hF2 v
              clear hF1' hF2
              go_wp2_with fail
              refine k1.mono ?_
              rintro e w9 ⟨r1, rfl, hr1, hw9⟩
              rw [hw9]
              clear k1 hw9
              go_wp2_with fail
              refine k2.mono ?_
              rintro e w10 ⟨r2, rfl, hr2, hw10⟩
              rw [hw10]
              clear k2 hw10
              have hrr : r1 = r2 := by
                rw [mem_getD_iff] at hr1 hr2
                have := hr1.trans (HP.out.trans hr2.symm)
                cases r1 <;> cases r2 <;> simp_all
              subst hrr
              clear hr1 hr2
              cases r1
              all_goals
                go_wp2
                go_ret
                exact Holds.mk hbel
      · go_wp2
        go_ret
        exact Holds.mk (Below.refl _ _)
end Go.Proofs.Qxb6601668a
