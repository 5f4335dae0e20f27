/-
  solve: the walk.
-/
import Derived.Test.Qxb6603773aMat
import Derived.Deep.WholeRow
namespace Go.Proofs.Qxb6603773a
open Go.RowKit

/-- A store of a float: the walk's set has one for integers, bools, pointers, slices and strings. -/
theorem run_store_flt (P : Program) (w : World) (a : Addr) (m : Mode) (k : FloatKind) (n : Nat) : (store a (.float k n) m).run P w = stored P w a (.float k n) m := run_store P w a _ m rfl
attribute [local go_sem] run_store_flt

/-- What solve hands back. -/
def Out (G q X : Nat → Nat) : Prop := ∀ i, i < 5 → (posFin (G (i * 5 + i)) = true → Sim (X i) (q i)) ∧ (posFin (G (i * 5 + i)) = false → X i = 0)

def Solved (w : World) (G q : Nat → Nat) (e : Ending) (w' : World) : Prop := ∃ X, e = .returned (.agg (fa 5 X)) ∧ Out G q X ∧ Below w.heap.size w w'

set_option maxHeartbeats 4000000 in
set_option maxRecDepth 100000 in
theorem solve_any {w : World} {fb : Nat} {G b q : Nat → Nat} {F : Nat → Value} (hfit : w.rowIs fb 38 30 F) (hF : ∀ i, i < 25 → F i = .float .f64 (G i)) (hD : Diag G b q) :
    Calls Try.prog 15 #[.pointer (some ⟨fb, 0, none⟩), .agg (fa 5 b)] w (Solved w G q) := by
  have HD : Hid (Diag G b q) := hD
  clear hD
  have hfl := hfit.lt
  have hcl : ∀ o1 o2, ∀ j v, (fa 25 G)[j]? = some v → ((w.alloc o1).alloc o2).cell? ⟨fb, 0 + j, none⟩ = some v := fun o1 o2 => cells_of_row ((hfit.alloc o1).alloc o2) (by omega) (fun i hi => by rw [Nat.zero_add]; exact hF i hi)
  have hst : ∀ o1 o2 z, z.size = 25 → (storeCells ⟨w.heap.size + 1 + 1, 0, none⟩ (fa 25 G).toList 0).run Try.prog (((w.alloc o1).alloc o2).alloc (.cells z 24)) = .ok () (((w.alloc o1).alloc o2).alloc (.cells (fa 25 G) 24)) := fun o1 o2 z hz => by
    have := run_storeCells_new (P := Try.prog) ((w.alloc o1).alloc o2) 24 z (fa 25 G) (size24 G) (by rw [fa_size]; exact hz) (fa_one 25 G)
    simp only [World.size_alloc] at this
    exact this
  go_enter Try.func15, Try.ntmps15
  go_wp2_with (refine wpList_load_cells rfl 24 (.tmp 17) rfl fb 0 rfl (fa 25 G) _ (hcl _ _) Try.underlying24 rfl (size24 G) ?_)
  clear hst hcl
  have hM0 := mat_start w G b
  go_loopg [19] 5 (fun g i wr => ∃ (c : Nat) (A B : Nat → Nat), c ≤ 5 ∧ g = 5 - c ∧ i = .int .i64 c ∧ Mat w wr A B (fun i => decide (i < c) && posFin (G (i * 5 + i))) ∧ Hid (Alik G b A B))
  case atStart => exact ⟨0, G, b, Nat.zero_le _, rfl, rfl, hM0.congrK (fun i _ => by simp), fun i _ => sim_refl _, fun i _ => sim_refl _⟩
  case round =>
    clear hM0
    obtain ⟨c, A, B, hc, rfl, rfl, hM, HA⟩ := hrel
    by_cases hlt : c < 5
    · have hdc : decide ((c : Int) < 5) = true := by simp; omega
      have hd := HD.out.dia c hlt
      obtain ⟨t, hmul, htst⟩ := left_out' (HD.out.gw (c * 5 + c) (by omega)) hd (HA.out.1 (c * 5 + c) (by omega))
      have hmr := fun w => run_float_arith (P := Try.prog) w .mul 22 .f64 _ _ t hmul
      have ca : wr.cell? ⟨w.heap.size + 1 + 1, c * 5 + c, none⟩ = some (.float .f64 (A (c * 5 + c))) := hM.ra.cell (by omega)
      have cg : wr.cell? ⟨fb, c * 5 + c, none⟩ = some (.float .f64 (G (c * 5 + c))) := (hM.below.cell (p := ⟨fb, c * 5 + c, none⟩) hfl).trans (by have := hfit.cell (i := c * 5 + c) (by omega); rw [hF _ (by omega)] at this; exact this)
      clear hd hmul
      cases hp : posFin (G (c * 5 + c)) with
      | false =>
        rw [hp] at htst
        have HP : Hid (posFin (G (c * 5 + c)) = false) := hp
        clear hp
        go_wp2
        go_quiet (fail)
        go_wp2
        go_roundg (5 - (c + 1))
        case measure => omega
        case rel => exact ⟨c + 1, A, B, by omega, rfl, by go_num, (hM.drewN _).congrK (fun i _ => by
          by_cases e : i = c
          · subst e; rw [HP.out]; simp
          · by_cases e2 : i < c
            · simp [e2, show i < c + 1 by omega]
            · simp [e2, show ¬ i < c + 1 by omega]), HA⟩
      | true =>
        rw [hp] at htst
        have HP : Hid (posFin (G (c * 5 + c)) = true) := hp
        clear hp
        have ck : wr.cell? ⟨w.heap.size + 1 + 1 + 1, c, none⟩ = some (.bool (decide (c < c) && posFin (G (c * 5 + c)))) := hM.rk.cell hlt
        have fk : wr.frozen? ⟨w.heap.size + 1 + 1 + 1, c, none⟩ = false := hM.rk.frozen _
        have hM1 : ∀ nq, Mat w ((wr.drewN nq).setCell ⟨w.heap.size + 1 + 1 + 1, c, none⟩ (.bool true)) A B (fun i => decide (i < c + 1) && posFin (G (i * 5 + i))) := fun nq => ((hM.drewN nq).setK c true).congrK (fun i _ => by
          by_cases e : i = c
          · subst e; rw [HP.out]; simp
          · by_cases e2 : i < c
            · simp [e, e2, show i < c + 1 by omega]
            · simp [e, e2, show ¬ i < c + 1 by omega])
        have HM1 : Hid (∀ nq, Mat w ((wr.drewN nq).setCell ⟨w.heap.size + 1 + 1 + 1, c, none⟩ (.bool true)) A B (fun i => decide (i < c + 1) && posFin (G (i * 5 + i)))) := hM1
        clear hM1
        go_wp2
        go_quiet (fail)
        go_wp2
        clear hmr htst ca cg ck fk
        go_loopg [8] (5 - (c + 1)) (fun g i wi => ∃ (r : Nat) (A B : Nat → Nat), c < r ∧ r ≤ 5 ∧ g = 5 - r ∧ i = .int .i64 r ∧ Mat w wi A B (fun i => decide (i < c + 1) && posFin (G (i * 5 + i))) ∧ Hid (Alik G b A B))
        case atStart => exact ⟨c + 1, A, B, by omega, by omega, rfl, by go_num, HM1.out _, HA⟩
        case round =>
          clear hM HM1 HA
          obtain ⟨r, A, B, hcr, hr5, rfl, rfl, hM, HA⟩ := hrel
          by_cases hltr : r < 5
          · have hdr : decide ((r : Int) < 5) = true := by simp; omega
            have hAc := sim_eq (HA.out.1 (c * 5 + c) (by omega)) (posFin_zer HP.out)
            have hAz := sim_zer (HA.out.1 (r * 5 + c) (by omega)) (HD.out.off r c hltr hlt (by omega))
            obtain ⟨z, hdiv, hz⟩ := div_zer (y := A (c * 5 + c)) hAz (by rw [hAc]; exact posFin_num HP.out) (by rw [hAc]; exact posFin_zer HP.out)
            have hqr := fun w => run_float_arith (P := Try.prog) w .quo 22 .f64 (A (r * 5 + c)) (A (c * 5 + c)) z hdiv
            have c1 : wr.cell? ⟨w.heap.size + 1 + 1, r * 5 + c, none⟩ = some (.float .f64 (A (r * 5 + c))) := hM.ra.cell (by omega)
            have c2 : wr.cell? ⟨w.heap.size + 1 + 1, c * 5 + c, none⟩ = some (.float .f64 (A (c * 5 + c))) := hM.ra.cell (by omega)
            have HZ : Hid (isZer z = true) := hz
            have HM : Hid (∀ nq, Mat w (wr.drewN nq) A B (fun i => decide (i < c + 1) && posFin (G (i * 5 + i)))) := fun nq => hM.drewN nq
            clear hAc hAz hdiv hz
            go_wp2
            go_quiet (fail)
            go_wp2
            clear hqr c1 c2
            go_loopg [10] (5 - c) (fun g i wi => ∃ (k : Nat) (A : Nat → Nat), c ≤ k ∧ k ≤ 5 ∧ g = 5 - k ∧ i = .int .i64 k ∧ Mat w wi A B (fun i => decide (i < c + 1) && posFin (G (i * 5 + i))) ∧ Hid (Alik G b A B))
            case atStart => exact ⟨c, A, by omega, by omega, rfl, rfl, HM.out _, HA⟩
            case round =>
              clear hM HM HA
              obtain ⟨k, A, hck, hk5, rfl, rfl, hM, HA⟩ := hrel
              by_cases hltk : k < 5
              · have hdk : decide ((k : Int) < 5) = true := by simp; omega
                have hnum : isNum (A (c * 5 + k)) = true := by
                  refine sim_num (HA.out.1 (c * 5 + k) (by omega)) ?_
                  by_cases e : k = c
                  · rw [e]; exact posFin_num HP.out
                  · exact zer_num (HD.out.off c k hlt hltk (by omega))
                obtain ⟨z2, hmul, hz2⟩ := mul_zer_left HZ.out hnum
                obtain ⟨y, hsub, hy⟩ := sim_sub (HA.out.1 (r * 5 + k) (by omega)) (HD.out.gw _ (by omega)) (HD.out.notNan hltr hltk) hz2
                have hm1 := fun w => run_float_arith (P := Try.prog) w .mul 22 .f64 z (A (c * 5 + k)) z2 hmul
                have hs1 := fun w => run_float_arith (P := Try.prog) w .sub 22 .f64 (A (r * 5 + k)) z2 y hsub
                have c1 : wr.cell? ⟨w.heap.size + 1 + 1, r * 5 + k, none⟩ = some (.float .f64 (A (r * 5 + k))) := hM.ra.cell (by omega)
                have c2 : wr.cell? ⟨w.heap.size + 1 + 1, c * 5 + k, none⟩ = some (.float .f64 (A (c * 5 + k))) := hM.ra.cell (by omega)
                have f1 : wr.frozen? ⟨w.heap.size + 1 + 1, r * 5 + k, none⟩ = false := hM.ra.frozen _
                have HY : Hid (Sim y (G (r * 5 + k))) := hy
                have HM2 : Hid (Mat w (wr.setCell ⟨w.heap.size + 1 + 1, r * 5 + k, none⟩ (.float .f64 y)).drew (fun i => if i = r * 5 + k then y else A i) B (fun i => decide (i < c + 1) && posFin (G (i * 5 + i)))) := (hM.setA (r * 5 + k) y).drew
                clear hnum hmul hsub hz2 hy
                go_wp2
                go_region
                all_goals
                  go_wp2
                  go_roundg (5 - (k + 1))
                  case measure => omega
                  case rel => exact ⟨k + 1, _, by omega, by omega, rfl, by go_num, HM2.out, HA.out.setA HY.out⟩
              · have hnum := sim_num (HA.out.2 c hlt) (HD.out.bn c hlt)
                obtain ⟨z2, hmul, hz2⟩ := mul_zer_left HZ.out hnum
                obtain ⟨y, hsub, hy⟩ := sim_sub (HA.out.2 r hltr) (HD.out.bw r hltr) (num_notNan (HD.out.bn r hltr)) hz2
                have hm1 := fun w => run_float_arith (P := Try.prog) w .mul 22 .f64 z (B c) z2 hmul
                have hs1 := fun w => run_float_arith (P := Try.prog) w .sub 22 .f64 (B r) z2 y hsub
                have c1 : wr.cell? ⟨w.heap.size, r, none⟩ = some (.float .f64 (B r)) := hM.rb.cell hltr
                have c2 : wr.cell? ⟨w.heap.size, c, none⟩ = some (.float .f64 (B c)) := hM.rb.cell hlt
                have f1 : wr.frozen? ⟨w.heap.size, r, none⟩ = false := hM.rb.frozen _
                have HY : Hid (Sim y (b r)) := hy
                have HM2 : Hid (Mat w (wr.setCell ⟨w.heap.size, r, none⟩ (.float .f64 y)).drew A (fun i => if i = r then y else B i) (fun i => decide (i < c + 1) && posFin (G (i * 5 + i)))) := (hM.setB r y).drew
                clear hnum hmul hsub hz2 hy
                go_wp2
                go_region
                all_goals
                  go_wp2
                  go_roundg (5 - (r + 1))
                  case measure => omega
                  case rel => exact ⟨r + 1, A, _, by omega, by omega, rfl, by go_num, HM2.out, HA.out.setB HY.out⟩
          · go_wp2
            go_roundg (5 - (c + 1))
            case measure => omega
            case rel => exact ⟨c + 1, A, B, by omega, rfl, by go_num, hM, HA⟩
    · have hc5 : c = 5 := by omega
      have hM2 := hM.congrK (K' := fun i => posFin (G (i * 5 + i))) (fun i hi => by simp [show i < c by omega])
      clear hM hc5
      obtain ⟨wo, rfl⟩ : ∃ wo : World, wo = wr := ⟨_, rfl⟩
      have hxB := hM2.rk.lt
      have hX0 := lit5 wo (.float .f64 0) 23
      have hM3 := hM2.alloc (.cells #[.float .f64 0, .float .f64 0, .float .f64 0, .float .f64 0, .float .f64 0] 23)
      clear hM2
      go_wp2
      go_loopg [12] 5 (fun g i wi => ∃ (z : Int) (k : Nat) (X : Nat → Nat), i = .int .i64 z ∧ Hid (z = (k : Int) - 1) ∧ k ≤ 5 ∧ k = g ∧ Mat w wi A B (fun i => posFin (G (i * 5 + i))) ∧ wi.rowIs wo.heap.size 23 5 (fun i => .float .f64 (X i)) ∧ Hid (XOk G q k X))
      case atStart => exact ⟨4, 5, fun _ => 0, rfl, rfl, Nat.le_refl _, rfl, hM3, hX0, fun i h1 h2 => by omega, fun _ _ => rfl⟩
      case round =>
        clear hM3 hX0
        obtain ⟨z, k, X, rfl, HZ, hk5, rfl, hM, hX, HX⟩ := hrel
        have hzl := HZ.out
        by_cases hz0 : 0 ≤ z
        · obtain ⟨r, hr⟩ : ∃ r : Nat, z = (r : Int) := ⟨z.toNat, by omega⟩
          subst hr
          have hkr : k = r + 1 := by omega
          clear hzl
          subst hkr
          have hr5 : r < 5 := by omega
          have ck : wr.cell? ⟨w.heap.size + 1 + 1 + 1, r, none⟩ = some (.bool (posFin (G (r * 5 + r)))) := hM.rk.cell hr5
          cases hp : posFin (G (r * 5 + r)) with
          | false =>
            rw [hp] at ck
            have HP : Hid (posFin (G (r * 5 + r)) = false) := hp
            clear hp
            go_wp2
            go_roundg r
            case measure => omega
            case rel => exact ⟨(r : Int) - 1, r, X, rfl, rfl, by omega, rfl, hM, hX, xok_skip HX.out HP.out⟩
          | true =>
            rw [hp] at ck
            have HP : Hid (posFin (G (r * 5 + r)) = true) := hp
            clear hp
            have cb : wr.cell? ⟨w.heap.size, r, none⟩ = some (.float .f64 (B r)) := hM.rb.cell hr5
            go_wp2
            clear ck cb
            go_loopg [13, 14] (5 - (r + 1)) (fun g s i wi => ∃ (k s' : Nat), r < k ∧ k ≤ 5 ∧ g = 5 - k ∧ i = .int .i64 k ∧ s = .float .f64 s' ∧ Hid (Sim s' (b r)) ∧ Mat w wi A B (fun i => posFin (G (i * 5 + i))) ∧ wi.rowIs wo.heap.size 23 5 (fun i => .float .f64 (X i)))
            case atStart => exact ⟨r + 1, B r, by omega, by omega, rfl, by go_num, rfl, HA.out.2 r hr5, hM, hX⟩
            case round =>
              clear hM hX
              obtain ⟨k, s', hrk, hk5', rfl, rfl, rfl, HS, hM, hX⟩ := hrel
              by_cases hk : k < 5
              · have hAz := sim_zer (HA.out.1 (r * 5 + k) (by omega)) (HD.out.off r k hr5 hk (by omega))
                obtain ⟨z2, hmul, hz2⟩ := mul_zer_left hAz (xok_num HD.out HX.out hk)
                obtain ⟨y, hsub, hy⟩ := sim_sub HS.out (HD.out.bw r hr5) (num_notNan (HD.out.bn r hr5)) hz2
                have hm1 := fun w => run_float_arith (P := Try.prog) w .mul 22 .f64 (A (r * 5 + k)) (X k) z2 hmul
                have hs1 := fun w => run_float_arith (P := Try.prog) w .sub 22 .f64 s' z2 y hsub
                have c1 : wr.cell? ⟨w.heap.size + 1 + 1, r * 5 + k, none⟩ = some (.float .f64 (A (r * 5 + k))) := hM.ra.cell (by omega)
                have c2 : wr.cell? ⟨wo.heap.size, k, none⟩ = some (.float .f64 (X k)) := hX.cell hk
                have HY : Hid (Sim y (b r)) := hy
                clear hAz hmul hsub hz2 hy
                go_wp2
                go_quiet (fail)
                go_wp2
                go_roundg (5 - (k + 1))
                case measure => omega
                case rel => exact ⟨k + 1, y, by omega, by omega, rfl, by go_num, rfl, HY, hM.drewN _, hX.of_block rfl⟩
              · obtain ⟨y, hdiv, hy⟩ := quo_sim HD.out hr5 HP.out HS.out (HA.out.1 (r * 5 + r) (by omega))
                have hq1 := fun w => run_float_arith (P := Try.prog) w .quo 22 .f64 s' (A (r * 5 + r)) y hdiv
                have c1 : wr.cell? ⟨w.heap.size + 1 + 1, r * 5 + r, none⟩ = some (.float .f64 (A (r * 5 + r))) := hM.ra.cell (by omega)
                have c2 : wr.cell? ⟨wo.heap.size, r, none⟩ = some (.float .f64 (X r)) := hX.cell hr5
                have f2 : wr.frozen? ⟨wo.heap.size, r, none⟩ = false := hX.frozen _
                have hM' := hM.setX (x := wo.heap.size) (by omega) r (.float .f64 y)
                have hX' := (hX.set r (.float .f64 y)).congr (g := fun i => .float .f64 (if i = r then y else X i)) (fun i _ => by by_cases e : i = r <;> simp [e])
                have HY : Hid (Sim y (q r)) := hy
                clear hdiv hy
                go_wp2
                go_roundg r
                case measure => omega
                case rel => exact ⟨(r : Int) - 1, r, _, rfl, rfl, by omega, rfl, hM', hX', xok_lay HX.out HP.out HY.out⟩
        · have hk0 : k = 0 := by omega
          have hXo := HX.out
          rw [hk0] at hXo
          have HO : Hid (Out G q X) := fun i hi => hXo.1 i (Nat.zero_le _) hi
          clear hzl hk0 hXo HX
          have hrr := row_fa hM.rr
          have hcx : ∀ j v, (fa 5 X)[j]? = some v → wr.cell? ⟨wo.heap.size, 0 + j, none⟩ = some v := cells_of_row hX (by omega) (fun i _ => by rw [Nat.zero_add])
          have hB := hM.below
          have HBl : Hid (Below w.heap.size w (wr.setRow (w.heap.size + 1) (fa 5 X))) := hB.trans ⟨rfl, rfl, rfl, by simp, fun k hk => setRow_other wr (w.heap.size + 1) k _ (by omega)⟩
          have HHp : Hid ((wr.setRow (w.heap.size + 1) (fa 5 X)).heap[w.heap.size + 1]? = some (.cells (fa 5 X) 23 (0, 0))) := setRow_heap wr (w.heap.size + 1) _ _ 23 _ hrr
          have HRr : Hid (wr.heap[w.heap.size + 1]? = some (.cells (fa 5 fun _ => 0) 23 (0, 0))) := hrr
          clear hrr hB
          go_wp2_with (first
            | (refine wpList_load_cells rfl 23 (.tmp 11) rfl wo.heap.size 0 rfl (fa 5 X) _ hcx Try.underlying23 rfl (size23 X) ?_)
            | (refine wpList_store_row rfl 23 (.tmp 4) (.tmp 124) rfl (w.heap.size + 1) (fa 5 X) rfl rfl 23 (fa 5 fun _ => 0) HRr.out (size23 X) (by rw [fa_size, fa_size]) (fa_one 5 X) ?_))
          refine bodyPost_ret (v := .agg (fa 5 X)) ?_ rfl ⟨X, rfl, HO.out, HBl.out⟩
          exact results_cell_row Try.results15 _ _ (w.heap.size + 1) 23 (fa 5 X) (0, 0) _ rfl HHp.out Try.underlying23 rfl (size23 X)
end Go.Proofs.Qxb6603773a
