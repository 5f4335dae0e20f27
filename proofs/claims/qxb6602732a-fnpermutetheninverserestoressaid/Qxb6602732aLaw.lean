/-
  FnPermuteThenInverseRestores: the walk.
-/
import Derived.Test.Qxb6602732aNames
namespace Go.Proofs.Qxb6602732a
open Go.RowKit

/-- An inverse of a permutation is one, and undoes it. -/
theorem inverse {n : Nat} {O V : Nat → Int} (hP : Perm n O) (hV : ∀ s, s < n → V (O s).toNat = (s : Int)) : Perm n V ∧ ∀ k, k < n → (O (V k).toNat).toNat = k := by
  have hr : ∀ t, t < n → (O t).toNat < n := fun t ht => by have := (hP t ht).1; omega
  have hinj : ∀ s t, s < n → t < n → (O s).toNat = (O t).toNat → s = t := fun s t hs ht e => by
    have h1 := (hP s hs).1
    have h2 := (hP t ht).1
    rcases Nat.lt_trichotomy s t with h | h | h
    · exact absurd (by omega) ((hP t ht).2 s h)
    · exact h
    · exact absurd (by omega) ((hP s hs).2 t h)
  have each : ∀ k, k < n → ∃ s, s < n ∧ (O s).toNat = k ∧ V k = (s : Int) := fun k hk => by
    obtain ⟨s, hs, he⟩ := onto hr hinj k hk
    exact ⟨s, hs, he, by rw [← he]; exact hV s hs⟩
  refine ⟨fun k hk => ?_, fun k hk => ?_⟩
  · obtain ⟨s, hs, he, hv⟩ := each k hk
    refine ⟨by omega, fun t ht hvt => ?_⟩
    obtain ⟨s', hs', he', hv'⟩ := each t (by omega)
    have : s = s' := by omega
    subst this
    omega
  · obtain ⟨s, hs, he, hv⟩ := each k hk
    rw [hv]
    simpa using he

set_option maxHeartbeats 4000000 in
set_option maxRecDepth 100000 in
theorem law_walk {B : Nat} {w : World} {na oa : Option Addr} {n ncap m ocap : Nat} {S : Nat → ByteArray} {O : Nat → Int} (hB : B ≤ w.heap.size) (hS : ∀ i, i < n → (S i).size ≤ 9223372036854775807) (hO : ∀ i, i < m → 0 ≤ O i ∧ O i ≤ 255)
    (hN : SliceAt B w (.slice na n ncap) n (fun i => .string (S i))) (hOr : SliceAt B w (.slice oa m ocap) m (fun i => .int .u8 (O i))) :
    Calls Try.prog 8 #[.slice na n ncap, .slice oa m ocap] w (Holds w) := by
  have HN : Hid (SliceAt B w (.slice na n ncap) n (fun i => .string (S i))) := hN
  have HOr : Hid (SliceAt B w (.slice oa m ocap) m (fun i => .int .u8 (O i))) := hOr
  have hn63 : n ≤ 9223372036854775807 := by obtain ⟨_, _, e, h, _⟩ := hN; exact h
  have hm63 : m ≤ 9223372036854775807 := by obtain ⟨_, _, e, h, _⟩ := hOr; exact h
  have HS : Hid (∀ i, i < n → (S i).size ≤ 9223372036854775807) := hS
  have HO : Hid (∀ i, i < m → 0 ≤ O i ∧ O i ≤ 255) := hO
  clear hN hOr hS hO
  go_enter Try.func8, Try.ntmps8
  go_wp2_with fail
  refine (bytes_any hm63 HS.out HN.out).mono ?_
  rintro e w1 ⟨r, rfl, -, hb1⟩
  cases r with
  | false =>
    go_wp2
    go_ret
    exact Holds.mk hb1
  | true =>
    by_cases hn : n ≤ 64
    · have hd1 : decide ((64 : Int) < (n : Int)) = false := by simp; omega
      by_cases hm : m ≤ 1048576
      · have hd2 : decide ((1048576 : Int) < (m : Int)) = false := by simp; omega
        have hN1 := HN.out.kept (hb1.mono hB)
        have hO1 := HOr.out.kept (hb1.mono hB)
        have hs1 := hb1.size
        obtain ⟨_, _, q1, _, hc⟩ := hN1
        injection q1 with q1 _ q2
        subst q1 q2
        go_wp2
        go_loopg [5, 6] n (fun g t i wr => wr = w1 ∧ ∃ (k : Nat) (s : Int), k ≤ n ∧ g = n - k ∧ i = .int .i64 k ∧ t = .int .i64 s)
        case atStart => exact ⟨rfl, 0, _, Nat.zero_le _, rfl, rfl, rfl⟩
        case round =>
          obtain ⟨rfl, k, s, hk, rfl, rfl, rfl⟩ := hrel
          by_cases hlt : k < n
          · obtain ⟨b, off, ha, hb, hcell⟩ := hc (by omega)
            have hix := run_ix (P := Try.prog) (cap := ncap) Try.underlying37 Try.size9 ha hlt
            have c0 := hcell k hlt
            have hSk := HS.out k hlt
            clear ha hcell hc
            go_wp2
            go_roundg (n - (k + 1))
            case measure => omega
            case rel => exact ⟨rfl, k + 1, _, by omega, rfl, by go_num, rfl⟩
          · clear hc
            by_cases hs : s ≤ 1048576
            · have hd3 : decide ((1048576 : Int) < s) = false := by simp; omega
              have hcall := isPerm_any HO.out hO1 (Nat.le_trans hB hs1) hn
              go_wp2_with fail
              refine hcall.mono ?_
              rintro e w2 ⟨r, rfl, hp, hb2⟩
              clear hcall
              cases r with
              | false =>
                go_wp2
                go_ret
                exact Holds.mk (hb1.trans (hb2.mono hs1))
              | true =>
                obtain ⟨hnm, hPerm⟩ := hp rfl
                have HP : Hid (Perm n O) := hPerm
                clear hp hPerm
                have hs2 := hb2.size
                have hB2 : Below w.heap.size w w2 := hb1.trans (hb2.mono hs1)
                have hN2 := HN.out.kept (hB2.mono hB)
                have hO2 := HOr.out.kept (hB2.mono hB)
                have hcS := cloneStrings_any hn hN2 (by omega)
                go_wp2_with fail
                refine hcS.mono ?_
                rintro e w3 ⟨nv, rfl, hN3, hb3⟩
                have hcB := cloneBytes_any hm (hO2.kept (hb3.mono (by omega))) (by have := hb3.size; omega)
                clear hcS hN2 hO2
                go_wp2_with fail
                refine hcB.mono ?_
                rintro e w4 ⟨ov, rfl, hO4, hb4⟩
                clear hcB
                have hs3 := hb3.size
                have hs4 := hb4.size
                have hN4 := (hN3.kept hb4).mono hs4
                have hB4 : Below w.heap.size w w4 := (hB2.trans (hb3.mono (by omega))).trans (hb4.mono (by omega))
                clear hN3 hb3 hb4 hB2 hb1 hb2
                have hO4' := hO4
                obtain ⟨oa4, oc4, hoe, _, hoc⟩ := hO4
                rw [hoe] at hO4' ⊢
                clear hoe
                have hmk := run_make_row' (P := Try.prog) 22 5 (.int .u8 0) 1 Try.underlying22 Try.info5 rfl .i64 .i64 n (by omega) (by omega)
                go_wp2
                clear hmk
                go_loopg [9] n (fun g i wr => ∃ (k : Nat) (V : Nat → Int), k ≤ n ∧ g = n - k ∧ i = .int .i64 k ∧ wr.rowIs w4.heap.size 5 n (fun t => .int .u8 (V t)) ∧ Below w4.heap.size w4 wr ∧ Hid (∀ s, s < k → V (O s).toNat = (s : Int)))
                case atStart => exact ⟨0, fun _ => 0, Nat.zero_le _, rfl, rfl, World.rowIs_made w4 _ n 5, (Below.refl _ _).alloc (Nat.le_refl _) _, fun s hs => absurd hs (Nat.not_lt_zero _)⟩
                case round =>
                  obtain ⟨k2, V, hk2, rfl, rfl, hrow, hb5, HV⟩ := hrel
                  by_cases hlt2 : k2 < n
                  · obtain ⟨b, off, ha, hb, hcell⟩ := hoc (by omega)
                    have hbd := (HP.out k2 hlt2).1
                    obtain ⟨o, ho⟩ : ∃ o : Nat, O k2 = (o : Int) := ⟨(O k2).toNat, by omega⟩
                    rw [ho] at hbd
                    have hon : o < n := by omega
                    have hix := run_ix (P := Try.prog) (n := m) (cap := oc4) Try.underlying22 Try.size5 ha (show k2 < m by omega)
                    have c0 : wr.cell? ⟨b, off + k2, none⟩ = some (.int .u8 (o : Int)) := by rw [← ho]; exact (hb5.cell (p := ⟨b, off + k2, none⟩) hb).trans (hcell k2 (by omega))
                    have d0 : wr.cell? ⟨w4.heap.size, o, none⟩ = some (.int .u8 (V o)) := hrow.cell hon
                    have f0 : wr.frozen? ⟨w4.heap.size, o, none⟩ = false := hrow.frozen _
                    have HOo : Hid (O k2 = (o : Int)) := ho
                    clear ho hbd ha hcell hoc
                    go_wp2
                    go_roundg (n - (k2 + 1))
                    case measure => omega
                    case rel =>
                      refine ⟨k2 + 1, fun t => if t = o then (k2 : Int) else V t, by omega, rfl, by go_num, (hrow.set _ _).congr (fun t _ => ?_), hb5.setCell (Nat.le_refl _) _, fun s hs => ?_⟩
                      · by_cases e : t = o
                        · simp [e]
                        · simp [e]
                      · by_cases e : s = k2
                        · subst e
                          rw [HOo.out]
                          simp
                        · have h1 := (HP.out k2 hlt2).2 s (by omega)
                          have h2 := (HP.out s (by omega)).1
                          rw [HOo.out] at h1
                          have h3 : ¬ (O s).toNat = o := by omega
                          show (if (O s).toNat = o then (k2 : Int) else V (O s).toNat) = _
                          rw [if_neg h3]
                          exact HV.out s (by omega)
                  · obtain ⟨hVP, hVO⟩ := inverse HP.out (V := V) (fun s hs => HV.out s (by omega))
                    have HVO : Hid (∀ k, k < n → (O (V k).toNat).toNat = k) := hVO
                    have hs5 := hb5.size
                    have hinv := SliceAt.of_row hrow (by omega)
                    have hN5 := (hN4.kept hb5).mono hs5
                    have hO5 := (hO4'.kept hb5).mono hs5
                    have hc1 := permuteNames_any hn hnm HP.out hN5 hO5 (Nat.le_refl _)
                    clear hoc hO4' hVO
                    go_wp2_with fail
                    refine hc1.mono ?_
                    rintro e w6 ⟨v6, rfl, hN6, hb6⟩
                    have hc2 := permuteNames_any hn (Nat.le_refl _) hVP hN6 ((hinv.kept hb6).mono hb6.size) (Nat.le_refl _)
                    clear hc1
                    go_wp2_with fail
                    refine hc2.mono ?_
                    rintro e w7 ⟨v7, rfl, hN7, hb7⟩
                    clear hc2
                    have hs6 := hb6.size
                    have hs7 := hb7.size
                    have hB7 : Below w.heap.size w w7 := ((hB4.trans (hb5.mono (by omega))).trans (hb6.mono (by omega))).trans (hb7.mono (by omega))
                    have hNs := ((hN5.kept hb6).kept (hb7.mono hs6)).mono (Nat.le_trans hs6 hs7)
                    clear hN4 hN5 hN6 hO5 hinv hb5 hb6 hb7 hB4 hrow
                    obtain ⟨na7, nc7, hne, _, hcN⟩ := hNs
                    obtain ⟨ba7, bc7, hbe, _, hcB⟩ := hN7
                    rw [hne, hbe]
                    clear hne hbe
                    go_wp2
                    go_loopg [12] n (fun g i wr => ∃ k : Nat, k ≤ n ∧ g = n - k ∧ i = .int .i64 k ∧ Below w7.heap.size w7 wr)
                    case atStart => exact ⟨0, Nat.zero_le _, rfl, rfl, Below.refl _ _⟩
                    case round =>
                      obtain ⟨k3, hk3, rfl, rfl, hb8⟩ := hrel
                      by_cases hlt3 : k3 < n
                      · obtain ⟨b1, o1, a1, t1, cell1⟩ := hcN (by omega)
                        obtain ⟨b2, o2, a2, t2, cell2⟩ := hcB (by omega)
                        have hix1 := run_ix (P := Try.prog) (cap := nc7) Try.underlying37 Try.size9 a1 hlt3
                        have hix2 := run_ix (P := Try.prog) (cap := bc7) Try.underlying37 Try.size9 a2 hlt3
                        obtain ⟨x, hx⟩ : ∃ x, x = S k3 := ⟨_, rfl⟩
                        have d1 : wr.cell? ⟨b1, o1 + k3, none⟩ = some (.string x) := (hb8.cell (p := ⟨b1, o1 + k3, none⟩) t1).trans (by rw [hx]; exact cell1 k3 hlt3)
                        have d2 : wr.cell? ⟨b2, o2 + k3, none⟩ = some (.string x) := (hb8.cell (p := ⟨b2, o2 + k3, none⟩) t2).trans (by rw [hx]; have := cell2 k3 hlt3; rwa [HVO.out k3 hlt3] at this)
                        clear hx a1 a2 cell1 cell2 hcN hcB
                        go_wp2
                        go_region
                        all_goals
                          go_wp2
                          go_roundg (n - (k3 + 1))
                          case measure => omega
                          case rel => exact ⟨k3 + 1, by omega, rfl, by go_num, hb8.drew⟩
                      · go_wp2
                        go_ret
                        exact Holds.mk (hB7.trans (hb8.mono hB7.size))
            · go_wp2
              go_ret
              exact Holds.mk hb1
      · go_wp2
        go_ret
        exact Holds.mk hb1
    · go_wp2
      go_ret
      exact Holds.mk hb1
end Go.Proofs.Qxb6602732a
