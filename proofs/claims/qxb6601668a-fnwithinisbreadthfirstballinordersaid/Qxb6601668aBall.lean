/-
  FnWithinIsBreadthFirstBallInOrder: the walk.
-/
import Derived.Test.Qxb6601668aOrder
import Derived.WalkSmall
namespace Go.Proofs.Qxb6601668a
open Go.RowKit

set_option maxHeartbeats 1000000 in
set_option maxRecDepth 100000 in
/-- zzAllRanked, where every listed node bears a place. -/
theorem allRanked_any {B : Nat} {w : World} {lv rv : Value} {m n : Nat} {Y R : Nat → Int} (hl : IntsAt B w lv m Y) (hr : IntsAt B w rv n R) (hin : ∀ i, i < m → 0 ≤ Y i ∧ Y i < n) (hall : ∀ i, i < m → 0 ≤ R (Y i).toNat) :
    Calls Try.prog 13 #[lv, rv] w fun e w' => e = .returned (.bool true) ∧ w' = w := by
  obtain ⟨ao, cap, rfl, hm, hc⟩ := hl
  obtain ⟨ro, rcap, rfl, hn, hrc⟩ := hr
  go_enter Try.func13, Try.ntmps13
  go_wp2
  go_loopg [5] m (fun g i wr => wr = w ∧ ∃ k : Nat, k ≤ m ∧ g = m - k ∧ i = .int .i64 k)
  case atStart => exact ⟨rfl, 0, Nat.zero_le _, rfl, rfl⟩
  case round =>
    obtain ⟨rfl, k, hk, rfl, rfl⟩ := hrel
    by_cases hlt : k < m
    · obtain ⟨b, off, ha, hb, hcell⟩ := hc (by omega)
      have hzr := hin k hlt
      have hpos := hall k hlt
      obtain ⟨x, hx⟩ : ∃ x : Nat, Y k = (x : Int) := ⟨(Y k).toNat, by omega⟩
      rw [hx] at hzr hpos
      have hxn : x < n := by omega
      obtain ⟨b2, off2, ha2, hb2, hcell2⟩ := hrc (by omega)
      have hix := run_ix (P := Try.prog) (cap := cap) Try.underlying31 Try.size3 ha hlt
      have hix2 := run_ix (P := Try.prog) (cap := rcap) Try.underlying31 Try.size3 ha2 hxn
      have c1 : wr.cell? ⟨b, off + k, none⟩ = some (.int .i64 (x : Int)) := by rw [← hx]; exact hcell k hlt
      have c2 := hcell2 x hxn
      have hpos' : 0 ≤ R x := by simpa using hpos
      clear ha ha2 hcell hcell2 hc hrc hx hzr hpos hin hall
      go_wp2
      go_roundg (m - (k + 1))
      case measure => omega
      case rel => exact ⟨rfl, k + 1, by omega, rfl, by go_num⟩
    · go_wp2
      go_ret
      exact ⟨rfl, rfl⟩

set_option maxHeartbeats 8000000 in
set_option maxRecDepth 100000 in
theorem ball_walk {B : Nat} {w : World} {io : Option Addr} {m icap : Nat} {X : Nat → Int} {na : Option Addr} {n ncap : Nat} {L : Nat → Nat} {Z : Nat → Nat → Int} (hB : B ≤ w.heap.size) (hm : m ≤ 9223372036854775807)
    (hI : IdsAt B w (.slice io m icap) m X) (hN : RowsAt B w (.slice na n ncap) n L Z) (links v hops : Int) (hwv : (Lit.int .i64 v).wf = true) :
    Calls Try.prog 3 #[.slice io m icap, .slice na n ncap, .int .i64 links, .int .i64 v, .int .i64 hops] w (Holds w) := by
  have HI : Hid (IdsAt B w (.slice io m icap) m X) := hI
  have HN : Hid (RowsAt B w (.slice na n ncap) n L Z) := hN
  have hn63 : n ≤ 9223372036854775807 := by obtain ⟨_, _, e, h, _⟩ := hN; exact h
  clear hI hN
  go_enter Try.func3, Try.ntmps3
  go_wp2_with fail
  refine (bytes6_any hm HN.out _ _ _).mono ?_
  rintro e w' ⟨r, rfl, -, hw⟩
  rw [hw]
  cases r with
  | false =>
    go_wp2
    go_ret
    exact Holds.mk (Below.refl _ _)
  | true =>
    go_wp2_with fail
    refine (fit_any hm HN.out).mono ?_
    rintro e w'' ⟨r, rfl, hfit, hw2⟩
    rw [hw2]
    cases r with
    | false =>
      go_wp2
      go_ret
      exact Holds.mk (Below.refl _ _)
    | true =>
      obtain ⟨hm6, hn6, hL⟩ := hfit rfl
      clear hfit hw hw2
      by_cases hmax : hops ≤ 65536
      · have hd1 : decide (65536 < hops) = false := by simp; omega
        go_wp2_with fail
        refine (sorted_any HN.out hB).mono ?_
        rintro e w3 ⟨r, rfl, hin, hb3⟩
        cases r with
        | false =>
          go_wp2
          go_ret
          exact Holds.mk hb3
        | true =>
          have hDoc := hin rfl
          have HD : Hid (Doc n L Z) := hDoc
          clear hin
          by_cases hbad : 1 ≤ hops ∧ (v < 0 ∨ (n : Int) ≤ v)
          · obtain ⟨hb0, hb1⟩ := hbad
            rcases (show v < 0 ∨ (0 ≤ v ∧ (n : Int) ≤ v) from by omega) with h | ⟨h, h'⟩
            all_goals
              clear hb1
              go_wp2
              go_ret
              exact Holds.mk hb3
          · have hv : 1 ≤ hops → (0 ≤ v ∧ v < n) := by omega
            clear hbad
            have hs3 := hb3.size
            have hr := hDoc.rng
            obtain ⟨F, e1⟩ : ∃ F, F = (bfs (adjOf L Z) v hops.toNat).1 := ⟨_, rfl⟩
            have E1 : Hid (F = (bfs (adjOf L Z) v hops.toNat).1) := e1
            have HV : Hid (1 ≤ hops → (0 ≤ v ∧ v < n)) := hv
            clear e1 hDoc
            rcases (show ((1 ≤ hops ∧ 0 ≤ v ∧ v < n) ∧ decide (v < 0) = false ∧ decide ((n : Int) ≤ v) = false ∧ decide (hops < 1) = false) ∨ hops < 1 from by
              by_cases hh : hops < 1
              · exact Or.inr hh
              · have := hv (by omega)
                exact Or.inl ⟨⟨by omega, this.1, this.2⟩, by simp; omega, by simp; omega, by simp; omega⟩) with ⟨⟨h0, hv0, hv1⟩, hd2, hd3, hd4⟩ | h0
            all_goals
              clear hv
              go_wp2_with fail
              refine (cloneIds_any hm6 (HI.out.kept (hb3.mono hB) (Nat.le_refl _)) (Nat.le_trans hB hs3)).mono ?_
              rintro e w4 ⟨iv, X', rfl, hI4, hb4⟩
              have hs4 := hb4.size
              go_wp2_with fail
              refine (cloneAdj_any hn6 hL ((HN.out.kept (hb3.mono hB)).kept (hb4.mono (Nat.le_trans hB hs3))) (Nat.le_trans (Nat.le_trans hB hs3) hs4)).mono ?_
              rintro e w5 ⟨nv, rfl, hN5, hb5⟩
              go_wp2_with fail
              refine (newGraph_any links hm6 (hI4.kept hb5 hb5.size) hN5 (Nat.le_refl _)).mono ?_
              rintro e w6 ⟨gv, rfl, hG6, hb6⟩
              have cc1 := within_any hG6 (Nat.le_refl _) hn6 hL hr v hops hwv hmax HV.out
              rw [← E1.out] at cc1
              go_wp2_with fail
              refine cc1.mono ?_
              rintro e w7 ⟨ao1, cap1, rfl, hF1, hnil, hb7⟩
              clear cc1
              have hs5 := hb5.size
              have hs6 := hb6.size
              have hbel : Below w.heap.size w w7 := (((hb3.trans (hb4.mono hs3)).trans (hb5.mono (by omega))).trans (hb6.mono (by omega))).trans (hb7.mono (by omega))
              have hN7 := ((hN5.kept hb6).kept (hb7.mono hs6)).mono (Nat.le_trans hs6 hb7.size)
              clear hb3 hb4 hb5 hb6 hb7 hs3 hs4 hs5 hs6 hG6 hN5 hI4
            · obtain ⟨par, lay, hBall⟩ := ball_of HD.out ⟨hv0, hv1⟩ hops.toNat
              rw [← E1.out] at hBall
              have HBall : Hid (Ball n L Z v F hops.toNat par lay) := hBall
              have hFl : F.length ≤ n := pigeon n F (List.nodup_cons.1 hBall.nodup).2 (fun x hx => hBall.rng x (List.mem_cons_of_mem _ hx))
              have hlay0 := hBall.lay0
              have HL0 : Hid (lay 0 = 0) := hlay0
              clear hBall hlay0
              obtain ⟨P, hP⟩ : ∃ P, P = v :: F := ⟨_, rfl⟩
              have HP : Hid (P = v :: F) := hP
              clear hP
              obtain ⟨na7, nc7, hnv, _, hrows⟩ := hN7
              rw [hnv]
              clear hnv
              obtain ⟨_, _, q1, hl1, hc1⟩ := hF1
              injection q1 with q1 _ q2
              subst q1 q2
              have hmk := run_make_row' (P := Try.prog) 31 3 (.int .i64 0) 8 Try.underlying31 Try.info3 rfl .i64 .i64 n (by omega) (by omega)
              have HNil : Hid (F = [] ↔ ao1 = none) := hnil
              clear hnil
              have hd5 : decide (n < F.length) = false := by simp; omega
              go_wp2
              clear hmk
              go_loopg [16] n (fun g i wr => ∃ k : Nat, k ≤ n ∧ g = n - k ∧ i = .int .i64 k ∧ Below w7.heap.size w7 wr ∧ wr.rowIs w7.heap.size 3 n (fun x => .int .i64 (if x < k then -1 else 0)) ∧ wr.rowIs (w7.heap.size + 1) 3 n (fun _ => .int .i64 0))
              case atStart => exact ⟨0, Nat.zero_le _, rfl, rfl, ((Below.refl _ _).alloc (Nat.le_refl _) _).alloc (by simp) _, ((World.rowIs_made w7 _ n 3).alloc _).congr (fun x _ => by simp), by simpa using World.rowIs_made (w7.alloc (.cells (madeCells #[.int .i64 0] n) 3)) (.int .i64 0) n 3⟩
              case round =>
                obtain ⟨k, hk, rfl, rfl, hb7, hR, hY⟩ := hrel
                by_cases hlt : k < n
                · have d1 : wr.cell? ⟨w7.heap.size, k, none⟩ = some (.int .i64 0) := by simpa using hR.cell hlt
                  have f1 : wr.frozen? ⟨w7.heap.size, k, none⟩ = false := hR.frozen _
                  go_wp2
                  go_roundg (n - (k + 1))
                  case measure => omega
                  case rel =>
                    refine ⟨k + 1, by omega, rfl, by go_num, hb7.setCell (Nat.le_refl _) _, (hR.set _ _).congr (fun x _ => ?_), hY.setOther (by show w7.heap.size + 1 ≠ w7.heap.size; omega) _⟩
                    by_cases e : x = k
                    · subst e; simp
                    · by_cases e2 : x < k
                      · simp [e, e2, show x < k + 1 by omega]
                      · simp [e, e2, show ¬ x < k + 1 by omega]
                · have hvn : v.toNat < n := by omega
                  have d1 : wr.cell? ⟨w7.heap.size, v.toNat, none⟩ = some (.int .i64 (-1)) := by have := hR.cell hvn; rwa [if_pos (by omega)] at this
                  have f1 : wr.frozen? ⟨w7.heap.size, v.toNat, none⟩ = false := hR.frozen _
                  have hR2 : (wr.setCell ⟨w7.heap.size, v.toNat, none⟩ (.int .i64 0)).rowIs w7.heap.size 3 n (fun x => .int .i64 (rk P 0 x)) := (hR.set _ _).congr (fun x hx => by
                    rw [HP.out, rk_start]
                    by_cases e : x = v.toNat
                    · rw [if_pos e, if_pos (by omega)]
                    · rw [if_neg e, if_pos (by omega), if_neg (by omega)])
                  have hY2 : (wr.setCell ⟨w7.heap.size, v.toNat, none⟩ (.int .i64 0)).rowIs (w7.heap.size + 1) 3 n (fun x => .int .i64 (ly P lay 0 x)) := (hY.setOther (by show w7.heap.size + 1 ≠ w7.heap.size; omega) _).congr (fun x _ => by rw [HP.out, ly_start HL0.out])
                  have hb8 : Below w7.heap.size w7 (wr.setCell ⟨w7.heap.size, v.toNat, none⟩ (.int .i64 0)) := hb7.setCell (Nat.le_refl _) _
                  clear hR hY hb7
                  go_wp2
                  clear d1 f1
                  go_loopg [17, 18, 19, 20] (F.length) (fun g pl pp pn i wr => ∃ (k : Nat) (p' n' : Int), k ≤ F.length ∧ g = F.length - k ∧ i = .int .i64 k ∧ pl = .int .i64 (lay k : Int) ∧ pp = .int .i64 p' ∧ pn = .int .i64 n' ∧ Hid (0 < k → p' = (par k : Int) ∧ n' = P.getD k 0) ∧
                      Below w7.heap.size w7 wr ∧ wr.rowIs w7.heap.size 3 n (fun x => .int .i64 (rk P k x)) ∧ wr.rowIs (w7.heap.size + 1) 3 n (fun x => .int .i64 (ly P lay k x)))
                  case atStart => exact ⟨0, -1, -1, Nat.zero_le _, rfl, rfl, by rw [HL0.out]; rfl, rfl, rfl, fun h => absurd h (Nat.lt_irrefl _), hb8, hR2, hY2⟩
                  case round =>
                    clear hR2 hY2 hb8
                    obtain ⟨k, p', n', hk, rfl, rfl, rfl, rfl, rfl, HPV, hb8, hR, hY⟩ := hrel
                    obtain ⟨wo, rfl⟩ : ∃ wo : World, wo = wr := ⟨_, rfl⟩
                    by_cases hlt : k < F.length
                    · obtain ⟨b1, o1, a1, t1, cell1⟩ := hc1 (by omega)
                      have hurng := HBall.out.rng (F.getD k 0) (List.mem_cons_of_mem _ (getD_mem hlt))
                      obtain ⟨u, hu⟩ : ∃ u : Nat, F.getD k 0 = (u : Int) := ⟨(F.getD k 0).toNat, by omega⟩
                      rw [hu] at hurng
                      have hun : u < n := by omega
                      have HU : Hid (F.getD k 0 = (u : Int)) := hu
                      have hix1 := run_ix (P := Try.prog) (cap := cap1) Try.underlying31 Try.size3 a1 hlt
                      have c1 : wo.cell? ⟨b1, o1 + k, none⟩ = some (.int .i64 (u : Int)) := (hb8.cell (p := ⟨b1, o1 + k, none⟩) t1).trans (by rw [← hu]; exact cell1 k hlt)
                      have c2 : wo.cell? ⟨w7.heap.size, u, none⟩ = some (.int .i64 (-1)) := by
                        have := hR.cell hun
                        have hfr := HBall.out.fresh hlt
                        rw [hu, ← HP.out] at hfr
                        rwa [hfr] at this
                      obtain ⟨nb, noff, hna, hnb, hncell⟩ := hrows (by omega)
                      obtain ⟨rv, hrv, ra, rc, hrve, hLm, hrow⟩ := hncell u hun
                      have hix2 := run_ix (P := Try.prog) (cap := nc7) Try.underlying23 Try.size31 hna hun
                      have c3 : wo.cell? ⟨nb, noff + u, none⟩ = some (.slice ra (L u) rc) := (hb8.cell (p := ⟨nb, noff + u, none⟩) hnb).trans (by rw [← hrve]; exact hrv)
                      have hLu := hL u hun
                      have g1 : decide ((u : Int) < 0) = false := by simp
                      have g2 : decide ((n : Int) ≤ (u : Int)) = false := by simp; omega
                      have g3 : decide (n ≤ u) = false := by simp; omega
                      clear hu hurng a1 cell1 hna hncell hrv hrve
                      go_wp2
                      clear c1 c2 c3 hix1 hix2 g1 g2 g3
                      go_loopg [22, 24] (L u) (fun g b j wi => ∃ (l : Nat) (best : Int), l ≤ L u ∧ g = L u - l ∧ j = .int .i64 l ∧ b = .int .i64 best ∧ -1 ≤ best ∧ best < n ∧ Hid (BestOk (rk P k) (Z u) l best) ∧ Below wo.heap.size wo wi)
                      case atStart => exact ⟨0, -1, Nat.zero_le _, rfl, rfl, rfl, by omega, by omega, best_start _ _, Below.refl _ _⟩
                      case round =>
                        obtain ⟨l, best, hl, rfl, rfl, rfl, hbl, hbn, HB, hbi⟩ := hrel
                        by_cases hll : l < L u
                        · obtain ⟨rb, roff, hra, hrb, hrc⟩ := hrow (by omega)
                          have hzr := hr u hun l hll
                          obtain ⟨x, hx⟩ : ∃ x : Nat, Z u l = (x : Int) := ⟨(Z u l).toNat, by omega⟩
                          rw [hx] at hzr
                          have hxn : x < n := by omega
                          have hix3 := run_ix (P := Try.prog) (cap := rc) Try.underlying31 Try.size3 hra hll
                          have hs8 := hb8.size
                          have c4 : wr.cell? ⟨rb, roff + l, none⟩ = some (.int .i64 (x : Int)) := ((hbi.cell (p := ⟨rb, roff + l, none⟩) (by show rb < _; omega)).trans (hb8.cell (p := ⟨rb, roff + l, none⟩) hrb)).trans (by rw [← hx]; exact hrc l hll)
                          obtain ⟨rx, hrx⟩ : ∃ rx, rx = rk P k (x : Int) := ⟨_, rfl⟩
                          have c5 : wr.cell? ⟨w7.heap.size, x, none⟩ = some (.int .i64 rx) := (hbi.cell (p := ⟨w7.heap.size, x, none⟩) hR.lt).trans (by rw [hrx]; exact hR.cell hxn)
                          have HX : Hid (Z u l = (x : Int)) := hx
                          have HRX : Hid (rx = rk P k (x : Int)) := hrx
                          clear hx hzr hra hrc hrow hrx
                          by_cases hneg : rx < 0
                          · have g1 : decide (0 ≤ rx) = false := by simp; omega
                            go_wp2
                            go_quiet (fail)
                            go_wp2
                            go_roundg (L u - (l + 1))
                            case measure => omega
                            case rel => exact ⟨l + 1, best, by omega, rfl, by go_num, rfl, hbl, hbn, best_skip HB.out (by rw [HX.out, ← HRX.out]; exact hneg), below_drewN hbi _⟩
                          · have g1 : decide (0 ≤ rx) = true := by simp; omega
                            by_cases hbneg : best < 0
                            · have g2 : decide (best < 0) = true := by simp; omega
                              go_wp2
                              go_quiet (fail)
                              go_wp2
                              go_roundg (L u - (l + 1))
                              case measure => omega
                              case rel => exact ⟨l + 1, (x : Int), by omega, rfl, by go_num, rfl, by omega, by omega, (by have := best_take HB.out (by rw [HX.out]; omega) (by rw [HX.out, ← HRX.out]; omega) (Or.inl hbneg); rwa [HX.out] at this), below_drewN hbi _⟩
                            · have g2 : decide (best < 0) = false := by simp; omega
                              obtain ⟨rbv, hrbv⟩ : ∃ rb, rb = rk P k best := ⟨_, rfl⟩
                              have c6 : wr.cell? ⟨w7.heap.size, best.toNat, none⟩ = some (.int .i64 rbv) := (hbi.cell (p := ⟨w7.heap.size, best.toNat, none⟩) hR.lt).trans (by
                                have := hR.cell (i := best.toNat) (by omega)
                                rw [Int.toNat_of_nonneg (by omega)] at this
                                rw [hrbv]; exact this)
                              have HRB : Hid (rbv = rk P k best) := hrbv
                              clear hrbv
                              by_cases hcmp : rx < rbv
                              · go_wp2
                                go_quiet (fail)
                                go_wp2
                                go_roundg (L u - (l + 1))
                                case measure => omega
                                case rel => exact ⟨l + 1, (x : Int), by omega, rfl, by go_num, rfl, by omega, by omega, (by have := best_take HB.out (by rw [HX.out]; omega) (by rw [HX.out, ← HRX.out]; omega) (Or.inr (by rw [HX.out, ← HRX.out, ← HRB.out]; exact hcmp)); rwa [HX.out] at this), below_drewN hbi _⟩
                              · go_wp2
                                go_quiet (fail)
                                go_wp2
                                go_roundg (L u - (l + 1))
                                case measure => omega
                                case rel => exact ⟨l + 1, best, by omega, rfl, by go_num, rfl, hbl, hbn, best_keep HB.out (by omega) (by rw [HX.out, ← HRX.out, ← HRB.out]; omega), below_drewN hbi _⟩
                        · have hlu : l = L u := by omega
                          have hbest := HBall.out.best HD.out hlt HU.out (best := best) (by rw [← HP.out, ← hlu]; exact HB.out)
                          rw [← HP.out] at hbest
                          obtain ⟨hb0, _, hbr, hby⟩ := hbest
                          have hkeys := HBall.out.keys hlt
                          rw [← HP.out] at hkeys
                          obtain ⟨p, hp⟩ : ∃ p, p = par (k + 1) := ⟨_, rfl⟩
                          rw [← hp] at hbr hby hkeys
                          obtain ⟨q, hq⟩ : ∃ q, q = lay p := ⟨_, rfl⟩
                          rw [← hq] at hby hkeys
                          obtain ⟨hk1, hk2, hk3⟩ := hkeys
                          have hLS := HBall.out.layS (k + 1) (by omega) (by omega)
                          rw [← hp, ← hq] at hLS
                          have HLS : Hid (lay (k + 1) = q + 1) := hLS
                          have HPp : Hid (p = par (k + 1)) := hp
                          have c7 : wr.cell? ⟨w7.heap.size, best.toNat, none⟩ = some (.int .i64 (p : Int)) := (hbi.cell (p := ⟨w7.heap.size, best.toNat, none⟩) hR.lt).trans (by
                                have := hR.cell (i := best.toNat) (by omega)
                                rw [Int.toNat_of_nonneg hb0, hbr] at this
                                exact this)
                          have c8 : wr.cell? ⟨w7.heap.size + 1, best.toNat, none⟩ = some (.int .i64 (q : Int)) := (hbi.cell (p := ⟨w7.heap.size + 1, best.toNat, none⟩) hY.lt).trans (by
                                have := hY.cell (i := best.toNat) (by omega)
                                rw [Int.toNat_of_nonneg hb0, hby] at this
                                exact this)
                          have hR' := hR.of_block (hbi.block _ hR.lt)
                          have hY' := hY.of_block (hbi.block _ hY.lt)
                          have hb9 := hb8.trans (hbi.mono hb8.size)
                          have hPk : P.getD (k + 1) 0 = (u : Int) := by rw [HP.out, ← HU.out]; simp
                          have hPn : P.Nodup := by rw [HP.out]; exact HBall.out.nodup
                          have hPl : k + 1 < P.length := by rw [HP.out]; simp; omega
                          have hRn := ((hR'.set u (.int .i64 ((k : Int) + 1))).setOther (a := ⟨w7.heap.size + 1, u, none⟩) (by show w7.heap.size ≠ w7.heap.size + 1; omega) (.int .i64 ((q : Int) + 1))).congr (g := fun x => .int .i64 (rk P (k + 1) x)) (fun x hx => by
                            rw [rk_next hPn hPl, hPk]
                            by_cases e : x = u
                            · rw [if_pos e, if_pos (by omega)]
                            · rw [if_neg e, if_neg (by omega)])
                          have hYn := ((hY'.setOther (a := ⟨w7.heap.size, u, none⟩) (by show w7.heap.size + 1 ≠ w7.heap.size; omega) (.int .i64 ((k : Int) + 1))).set u (.int .i64 ((q : Int) + 1))).congr (g := fun x => .int .i64 (ly P lay (k + 1) x)) (fun x hx => by
                            rw [ly_next hPn hPl, hPk]
                            by_cases e : x = u
                            · rw [if_pos e, if_pos (by omega), HLS.out]; go_num
                            · rw [if_neg e, if_neg (by omega)])
                          have hbn9 : Below w7.heap.size w7 ((wr.setCell ⟨w7.heap.size, u, none⟩ (.int .i64 ((k : Int) + 1))).setCell ⟨w7.heap.size + 1, u, none⟩ (.int .i64 ((q : Int) + 1))) := (hb9.setCell (Nat.le_refl _) _).setCell (by show w7.heap.size ≤ w7.heap.size + 1; omega) _
                          have HPK : Hid (P.getD (k + 1) 0 = (u : Int)) := hPk
                          have c9 := hR'.cell hun
                          have f9 := hR'.frozen u
                          have c10 := hY'.cell hun
                          have f10 := hY'.frozen u
                          have gg1 : decide (best < 0) = false := by simp; omega
                          have gg2 : decide (hops < (q : Int) + 1) = false := by simp; omega
                          have gg3 : decide ((q : Int) + 1 < (lay k : Int)) = false := by simp; omega
                          clear hPk hPn hPl hR' hY' hbr hby hp hq hLS hrow
                          rcases (show ((((q : Int) + 1 == (lay k : Int)) = false) ∨ ((((q : Int) + 1 == (lay k : Int)) = true) ∧ decide ((p : Int) < p') = false ∧ (((p : Int) == p') = false ∨ (((p : Int) == p') = true ∧ decide ((u : Int) ≤ n') = false)))) from by
                            by_cases ea : q + 1 = lay k
                            · right
                              obtain ⟨x1, x2, x3⟩ := hk3 ea
                              obtain ⟨y1, y2⟩ := HPV.out x1
                              refine ⟨by simp; omega, by simp; omega, ?_⟩
                              by_cases eb : (p : Int) = p'
                              · right
                                have := x3 (by omega)
                                rw [HU.out] at this
                                exact ⟨by simpa using eb, by simp; omega⟩
                              · left
                                simpa using eb
                            · left
                              simp; omega) with gg4 | ⟨gg4, gg5, gg6 | ⟨gg6, gg7⟩⟩
                          all_goals
                            clear hk3
                            go_wp2
                            go_roundg (F.length - (k + 1))
                            case measure => omega
                            case rel => exact ⟨k + 1, (p : Int), (u : Int), by omega, rfl, by go_num, by rw [HLS.out]; go_num, rfl, rfl, fun _ => ⟨by rw [HPp.out], HPK.out.symm⟩, hbn9, hRn, hYn⟩
                    · have hkF : k = F.length := by omega
                      rw [hkF] at hR hY
                      clear hkF
                      have hRk : IntsAt wo.heap.size wo (.slice (some ⟨w7.heap.size, 0, none⟩) n n) n (fun x => rk P F.length (x : Int)) := ⟨_, _, rfl, by omega, fun _ => ⟨w7.heap.size, 0, rfl, hR.lt, fun i hi => by simpa using hR.cell hi⟩⟩
                      have hrank : ∀ i, i < F.length + 1 → lay i < hops.toNat → ∀ y : Nat, P.getD i 0 = (y : Int) → ∀ j, j < L y → 0 ≤ rk P F.length ((Z y j).toNat : Int) := by
                        intro i hi hl y hy j hj
                        have hyn : y < n := by
                          have := HBall.out.rng (P.getD i 0) (by rw [HP.out]; exact getD_mem (by simp; omega))
                          omega
                        have hz := hr y hyn j hj
                        have hm := HBall.out.closed i hi hl (Z y j) (by
                          rw [← HP.out, hy]
                          unfold adjOf
                          exact List.mem_map.2 ⟨j, by simpa using hj, by simp⟩)
                        rw [Int.toNat_of_nonneg hz.1, HP.out]
                        exact Ball.ranked _ hm
                      have HRank : Hid (∀ i, i < F.length + 1 → lay i < hops.toNat → ∀ y : Nat, P.getD i 0 = (y : Int) → ∀ j, j < L y → 0 ≤ rk P F.length ((Z y j).toNat : Int)) := hrank
                      clear hrank
                      have hs8 := hb8.size
                      obtain ⟨nb, noff, hna, hnb, hncell⟩ := hrows (by omega)
                      have hvn : v.toNat < n := by omega
                      obtain ⟨rv, hrv, hrow⟩ := hncell v.toNat hvn
                      have hrow' := (hrow.kept hb8).mono hs8
                      obtain ⟨ra, rc, hrve, _⟩ := hrow
                      have hixv := run_ixI (P := Try.prog) (cap := nc7) Try.underlying23 Try.size31 hna hvn v (Int.toNat_of_nonneg hv0).symm
                      have c1 : wo.cell? ⟨nb, noff + v.toNat, none⟩ = some (.slice ra (L v.toNat) rc) := (hb8.cell (p := ⟨nb, noff + v.toNat, none⟩) hnb).trans (by rw [← hrve]; exact hrv)
                      rw [hrve] at hrow'
                      have hcall := allRanked_any hrow' hRk (fun i hi => hr v.toNat hvn i hi) (fun i hi => HRank.out 0 (by omega) (by rw [HL0.out]; omega) v.toNat (by rw [HP.out]; exact (Int.toNat_of_nonneg hv0).symm) i hi)
                      clear hrow' hrve hrv
                      go_wp2_with fail
                      refine hcall.mono ?_
                      rintro e w9 ⟨rfl, hw9⟩
                      rw [hw9]
                      clear hw9 hcall hixv c1
                      go_wp2
                      go_loopg [28] (F.length) (fun g i wi => wi = wo ∧ ∃ k : Nat, k ≤ F.length ∧ g = F.length - k ∧ i = .int .i64 k)
                      case atStart => exact ⟨rfl, 0, Nat.zero_le _, rfl, rfl⟩
                      case round =>
                        obtain ⟨rfl, k2, hk2, rfl, rfl⟩ := hrel
                        by_cases hlt2 : k2 < F.length
                        · obtain ⟨b1, o1, a1, t1, cell1⟩ := hc1 (by omega)
                          have hurng := HBall.out.rng (F.getD k2 0) (List.mem_cons_of_mem _ (getD_mem hlt2))
                          obtain ⟨u, hu⟩ : ∃ u : Nat, F.getD k2 0 = (u : Int) := ⟨(F.getD k2 0).toNat, by omega⟩
                          rw [hu] at hurng
                          have hun : u < n := by omega
                          have hix1 := run_ix (P := Try.prog) (cap := cap1) Try.underlying31 Try.size3 a1 hlt2
                          have c1 : wr.cell? ⟨b1, o1 + k2, none⟩ = some (.int .i64 (u : Int)) := (hb8.cell (p := ⟨b1, o1 + k2, none⟩) t1).trans (by rw [← hu]; exact cell1 k2 hlt2)
                          have c2 : wr.cell? ⟨w7.heap.size + 1, u, none⟩ = some (.int .i64 (lay (k2 + 1) : Int)) := by
                            have := hY.cell hun
                            have hla := HBall.out.layAt hlt2
                            rw [hu, ← HP.out] at hla
                            rwa [hla] at this
                          obtain ⟨rv2, hrv2, hrow2⟩ := hncell u hun
                          have hrow2' := (hrow2.kept hb8).mono hs8
                          obtain ⟨ra2, rc2, hrve2, _⟩ := hrow2
                          have hix2 := run_ix (P := Try.prog) (cap := nc7) Try.underlying23 Try.size31 hna hun
                          have c3 : wr.cell? ⟨nb, noff + u, none⟩ = some (.slice ra2 (L u) rc2) := (hb8.cell (p := ⟨nb, noff + u, none⟩) hnb).trans (by rw [← hrve2]; exact hrv2)
                          rw [hrve2] at hrow2'
                          have HU : Hid (F.getD k2 0 = (u : Int)) := hu
                          clear hu hurng a1 cell1 hrv2 hrve2 hncell hrows hc1
                          by_cases hll : (lay (k2 + 1) : Int) < hops
                          · have hcall := allRanked_any hrow2' hRk (fun i hi => hr u hun i hi) (fun i hi => HRank.out (k2 + 1) (by omega) (by omega) u (by rw [HP.out, ← HU.out]; simp) i hi)
                            have gg : decide ((lay (k2 + 1) : Int) < hops) = true := by simpa using hll
                            clear hrow2'
                            go_wp2_with fail
                            refine hcall.mono ?_
                            rintro e w9 ⟨rfl, hw9⟩
                            rw [hw9]
                            clear hw9 hcall
                            go_wp2
                            go_roundg (F.length - (k2 + 1))
                            case measure => omega
                            case rel => exact ⟨rfl, k2 + 1, by omega, rfl, by go_num⟩
                          · have gg : decide ((lay (k2 + 1) : Int) < hops) = false := by simpa using hll
                            clear hrow2'
                            go_wp2
                            go_roundg (F.length - (k2 + 1))
                            case measure => omega
                            case rel => exact ⟨rfl, k2 + 1, by omega, rfl, by go_num⟩
                        · have heq := fun w => Lib.run_eql_slice_nil (P := Try.prog) w 31 3 ao1 F.length cap1 0 0 Try.underlying31
                          have hbl2 := hbel.trans (hb8.mono hbel.size)
                          by_cases hF0 : F.length = 0
                          · have hnn : ao1.isNone = true := by rw [HNil.out.1 (List.eq_nil_of_length_eq_zero hF0)]; rfl
                            have hz : ((F.length : Int) == 0) = true := by simp [hF0]
                            have hz2 : (F.length == 0) = true := by simp [hF0]
                            rw [hnn] at heq
                            have HF0 : Hid (F.length = 0) := hF0
                            clear hF0 hnn
                            go_wp2
                            go_ret
                            exact Holds.mk hbl2
                          · have hnn : ao1.isNone = false := by
                              cases h : ao1 with
                              | none => rw [HNil.out.2 h] at hF0; simp at hF0
                              | some _ => rfl
                            have hz : ((F.length : Int) == 0) = false := by rw [beq_eq_false_iff_ne]; omega
                            have hz2 : (F.length == 0) = false := by rw [beq_eq_false_iff_ne]; omega
                            rw [hnn] at heq
                            clear hnn
                            go_wp2
                            go_ret
                            exact Holds.mk hbl2
            · have hF0 : F = [] := by
                rw [E1.out]
                have : hops.toNat = 0 := by omega
                rw [this]
                rfl
              have hao := hnil.1 hF0
              have heq := fun w => Lib.run_eql_slice_nil (P := Try.prog) w 31 3 ao1 F.length cap1 0 0 Try.underlying31
              have hnn : ao1.isNone = true := by rw [hao]; rfl
              rw [hnn] at heq
              clear hao hnn hF0 hnil
              go_wp2
              go_ret
              exact Holds.mk hbel
      · go_wp2
        go_ret
        exact Holds.mk (Below.refl _ _)
end Go.Proofs.Qxb6601668a
