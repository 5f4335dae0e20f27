/-
  Within: the walk.
-/
import Derived.Test.Qxb6601668aWithin0
namespace Go.Proofs.Qxb6601668a
open Go.RowKit
open Go.Maps (Keyed IsMap)

theorem range_take {L : Nat → Nat} {Z : Nat → Nat → Int} {n : Nat} (hr : ∀ u, u < n → ∀ i, i < L u → 0 ≤ Z u i ∧ Z u i < n) {u j : Nat} (hu : u < n) (hj : j ≤ L u) : ∀ x ∈ (List.range j).map (Z u), 0 ≤ x ∧ x < n := by
  intro x hx
  obtain ⟨i, hi, rfl⟩ := List.mem_map.1 hx
  exact hr u hu i (by have := List.mem_range.1 hi; omega)

theorem adjOf_rng {L : Nat → Nat} {Z : Nat → Nat → Int} {n : Nat} (hr : ∀ u, u < n → ∀ i, i < L u → 0 ≤ Z u i ∧ Z u i < n) (u : Int) (hu : 0 ≤ u ∧ u < n) : ∀ x ∈ adjOf L Z u, 0 ≤ x ∧ x < n :=
  range_take hr (by omega) (Nat.le_refl _)

theorem getD_mem {l : List Int} {i : Nat} (h : i < l.length) : l.getD i 0 ∈ l := by
  simp [List.getElem?_eq_getElem h]

theorem next_take {l : List Int} {i : Nat} (h : i < l.length) : l.take (i + 1) = l.take i ++ [l.getD i 0] := by
  rw [List.take_succ_eq_append_getElem h]
  simp [List.getElem?_eq_getElem h]

set_option maxHeartbeats 4000000 in
set_option maxRecDepth 100000 in
theorem within_any {B : Nat} {w : World} {g : Value} {n : Nat} {L : Nat → Nat} {Z : Nat → Nat → Int} (hG : GraphAt B w g n L Z) (hB : B ≤ w.heap.size) (hn : n ≤ 65536) (hL : ∀ u, u < n → L u ≤ 131072)
    (hr : ∀ u, u < n → ∀ i, i < L u → 0 ≤ Z u i ∧ Z u i < n) (v hops : Int) (hwv : (Lit.int .i64 v).wf = true) (hh : hops ≤ 65536) (hv : 1 ≤ hops → 0 ≤ v ∧ v < n) :
    Calls Try.prog 12 #[g, .int .i64 v, .int .i64 hops] w (Found w (bfs (adjOf L Z) v hops.toNat).1) := by
  obtain ⟨gb, nv, rfl, hgb, hgc, hR⟩ := hG
  obtain ⟨na, ncap, rfl, _, hrows⟩ := hR
  have hmm := @run_makeMap Try.prog
  obtain ⟨wm, hins, hmap0, hgm⟩ := (World.ownsMap_made (H := Unit) w Try.prog 3 (plainElem Try.prog 4)).update law3 Try.underlying43 (by decide) (Maps.keyOf_int_mk Try.underlying3 hwv) (plainElem_bool Try.underlying4 true)
  obtain ⟨i0, hi, hz0, hz1, hz2⟩ := info_parts Try.info3'
  have hsm : w.heap.size + 1 ≤ wm.heap.size := by have := hgm.size; simpa using this
  go_enter Try.func12, Try.ntmps12
  go_wp2
  have hS0 := st_start hgm hmap0
  have hF0 := fron_start (v := v) hsm
  clear hins hmm hmap0 hgm hsm
  obtain ⟨A, hA⟩ : ∃ A, A = adjOf L Z := ⟨_, rfl⟩
  have HA : Hid (A = adjOf L Z) := hA
  have hfin : 1 ≤ hops → ∀ k, Fine n v (bfs A v k).1 ∧ ∀ u ∈ (bfs A v k).2, 0 ≤ u ∧ u < n := fun h => by rw [hA]; exact bfs_fine (adjOf_rng hr) (hv h)
  rw [← hA]
  clear hA
  go_loopg [7, 9, 21] (hops.toNat) (fun gk v7 v9 i wr => ∃ (k : Nat) (F Fr : List Int) (ao fa : Option Addr) (cap fc : Nat), k ≤ hops.toNat ∧ gk = hops.toNat - k ∧ i = .int .i64 k ∧ v7 = .slice ao F.length cap ∧ v9 = .slice fa Fr.length fc ∧
      Hid (bfs A v k = (F, Fr)) ∧ St w wr v ao cap F ∧ Fron w wr ao F fa Fr)
  case atStart => exact ⟨0, [], [v], none, _, 0, 1, Nat.zero_le _, rfl, rfl, rfl, rfl, rfl, hS0, hF0⟩
  case round =>
    obtain ⟨k, F, Fr, ao, fa, cap, fc, hk, rfl, rfl, rfl, rfl, HF, hS, hFr⟩ := hrel
    clear hS0 hF0
    by_cases hlt : (k : Int) < hops
    · have hfk := hfin (by omega)
      obtain ⟨hFine, hFrng⟩ := hfk k
      rw [HF.out] at hFine hFrng
      have hFl := hFine.le
      simp only at hFl
      have hFrl : Fr.length ≤ n + 1 := by have := bfs_frl (fun k => (hfk k).1) k; rw [HF.out] at this; exact this
      have HFine : Hid (Fine n v F) := hFine
      have HFrng : Hid (∀ u ∈ Fr, 0 ≤ u ∧ u < n) := hFrng
      clear hFine hFrng hfk
      go_wp2
      go_loopg [7, 27] (Fr.length) (fun gk v7 i wr => ∃ (j : Nat) (F1 : List Int) (ao : Option Addr) (cap : Nat), j ≤ Fr.length ∧ gk = Fr.length - j ∧ i = .int .i64 j ∧ v7 = .slice ao F1.length cap ∧
          Hid (F1 = sweep A v F (Fr.take j)) ∧ St w wr v ao cap F1 ∧ Fron w wr ao F1 fa Fr)
      case atStart => exact ⟨0, F, ao, cap, Nat.zero_le _, rfl, rfl, rfl, rfl, hS, hFr⟩
      case round =>
        clear hS hFr
        obtain ⟨j, F1, ao1, cap1, hj, rfl, rfl, rfl, HF1, hS, hFr⟩ := hrel
        have hFine1 : Fine n v F1 := by
          rw [HF1.out]
          refine fine_sweep _ _ HFine.out (fun u hu x hx => ?_)
          rw [HA.out] at hx
          exact adjOf_rng hr u (HFrng.out u (List.mem_of_mem_take hu)) x hx
        have hF1l := hFine1.le
        have HFine1 : Hid (Fine n v F1) := hFine1
        clear hFine1
        by_cases hlj : j < Fr.length
        · obtain ⟨fb, foff, hfa, hfne, hflt, hfc, hfor⟩ := hFr (by omega)
          have hurng := HFrng.out _ (getD_mem hlj)
          obtain ⟨u, hu⟩ : ∃ u : Nat, Fr.getD j 0 = (u : Int) := ⟨(Fr.getD j 0).toNat, by omega⟩
          rw [hu] at hurng
          have hun : u < n := by omega
          have c1 : wr.cell? ⟨fb, foff + j, none⟩ = some (.int .i64 (u : Int)) := by rw [← hu]; exact hfc j hlj
          have HU : Hid (Fr.getD j 0 = (u : Int)) := hu
          have hix1 := run_ix (P := Try.prog) (cap := fc) Try.underlying31 Try.size3 hfa hlj
          obtain ⟨nb, noff, hna, hnb, hncell⟩ := hrows (by omega)
          obtain ⟨rv, hrv, ra, rc, rfl, hLm, hrow⟩ := hncell u hun
          have hix2 := run_ix (P := Try.prog) (cap := ncap) Try.underlying23 Try.size31 hna hun
          have c2 : wr.cell? ⟨gb, 1, none⟩ = some (.slice na n ncap) := (hS.below.cell (p := ⟨gb, 1, none⟩) (by show gb < _; omega)).trans hgc
          have c3 : wr.cell? ⟨nb, noff + u, none⟩ = some (.slice ra (L u) rc) := (hS.below.cell (p := ⟨nb, noff + u, none⟩) (by show nb < _; omega)).trans hrv
          have hLu := hL u hun
          clear hu hurng hfa hfc hfor hna hncell hrv hfne hflt
          go_wp2
          clear c1 c2 c3 hix1 hix2
          go_loopg [7, 39] (L u) (fun gk v7 i wr => ∃ (l : Nat) (F2 : List Int) (ao : Option Addr) (cap : Nat), l ≤ L u ∧ gk = L u - l ∧ i = .int .i64 l ∧ v7 = .slice ao F2.length cap ∧
              Hid (F2 = visit v F1 ((List.range l).map (Z u))) ∧ St w wr v ao cap F2 ∧ Fron w wr ao F2 fa Fr)
          case atStart => exact ⟨0, F1, ao1, cap1, Nat.zero_le _, rfl, rfl, rfl, rfl, hS, hFr⟩
          case round =>
            clear hS hFr
            obtain ⟨l, F2, ao2, cap2, hl, rfl, rfl, rfl, HF2, hS, hFr⟩ := hrel
            have hFine2 : Fine n v F2 := by
              rw [HF2.out]
              exact fine_visit _ _ HFine1.out (range_take hr hun hl)
            have hF2l := hFine2.le
            clear hFine2
            by_cases hll : l < L u
            · obtain ⟨rb, roff, hra, hrb, hrc⟩ := hrow (by omega)
              have hix3 := run_ix (P := Try.prog) (cap := rc) Try.underlying31 Try.size3 hra hll
              have c4 : wr.cell? ⟨rb, roff + l, none⟩ = some (.int .i64 (Z u l)) := (hS.below.cell (p := ⟨rb, roff + l, none⟩) (by show rb < _; omega)).trans (hrc l hll)
              have hzr := hr u hun l hll
              have hkey : keyOf Try.prog 3 (.int .i64 (Z u l)) = some (.int .i64 (Z u l)) := Maps.keyOf_int_mk Try.underlying3 (WalkArith.wf_i64 (by omega))
              obtain ⟨D, hown, hD, hat⟩ := hS.map
              by_cases hin : Z u l = v ∨ Z u l ∈ F2
              · have hlook := look_bool hown law3 Try.underlying43 Try.underlying4 (zero4 _) hkey (c := true) (by rw [hat]; simp [hin])
                have HIN : Hid (Z u l = v ∨ Z u l ∈ F2) := hin
                clear hin hat hkey hown hra hrc
                go_wp2
                go_roundg (L u - (l + 1))
                case measure => omega
                case rel => exact ⟨l + 1, F2, ao2, cap2, by omega, rfl, by go_num, rfl, by
                  show F2 = _
                  rw [List.range_succ, List.map_append, List.map_singleton, visit_snoc_old (by rw [← HF2.out]; exact HIN.out)]; exact HF2.out, hS, hFr⟩
              · have hlook := look_bool hown law3 Try.underlying43 Try.underlying4 (zero4 _) hkey (c := false) (by rw [hat]; simp [hin])
                obtain ⟨w1, hupd, hown1, hg1⟩ := hown.update law3 Try.underlying43 (by unfold maxLen; omega) hkey (plainElem_bool Try.underlying4 true)
                have HIN : Hid (¬ (Z u l = v ∨ Z u l ∈ F2)) := hin
                have hrow1 := hS.own.kept hg1 (Or.inr hS.ne)
                have hs1 := hg1.size
                have hss := hS.size
                have HAT : Hid (∀ x : Int, D.atKey (.int .i64 x) (.lit (.bool false)) = .lit (.bool (decide (x = v ∨ x ∈ F2)))) := hat
                clear hin hat hkey hown hra hrc
                go_wp2_with (first
                  | (at_builtin; refine wpList_append_keep _ rfl _ _ 31 rfl (w.heap.size + 1) 3 i0 (.int .i64 0) 8 Try.underlying31 hi hz0 hz1 hz2 rfl _ _ _ rfl (hrow1.alloc _) ⟨w1.heap.size, 0, none⟩ 1 1 [.int .i64 (Z u l)] rfl rfl (cell_one_new _ _ _) (ints_oneCell .i64 [Z u l]) (by unfold maxLen; omega) (by omega) (by simp; omega) ?_; intro v' w2 ho2 hg2 hnil hloc hkeep)
                  | go_in)
                obtain ⟨ao', cap', hv', hSt⟩ := hS.new hD HAT.out hg1 hown1 ho2 hg2
                rw [hv'] at hloc
                have hFr' := Fron.new hFr hg1 hloc hg2 hkeep
                have HV : Hid (v' = .slice ao' (F2 ++ [Z u l]).length cap') := hv'
                clear hv' hloc hkeep hg2 ho2 hupd hlook
                go_roundg (L u - (l + 1))
                case measure => omega
                case rel => exact ⟨l + 1, F2 ++ [Z u l], ao', cap', by omega, rfl, by go_num, HV.out, by
                  show F2 ++ [Z u l] = _
                  rw [List.range_succ, List.map_append, List.map_singleton, visit_snoc_new (by rw [← HF2.out]; exact HIN.out), ← HF2.out], hSt, hFr'⟩
            · have hll' : l = L u := by omega
              go_wp2
              go_roundg (Fr.length - (j + 1))
              case measure => omega
              case rel => exact ⟨j + 1, F2, ao2, cap2, by omega, rfl, by go_num, rfl, by
                show F2 = _
                rw [next_take hlj, HU.out, sweep_snoc, ← HF1.out, HF2.out, hll', HA.out]; rfl, hS, hFr⟩
        · have hjj : j = Fr.length := by omega
          obtain ⟨t, ht⟩ := sweep_grows A v Fr F
          have hF1e : F1 = sweep A v F Fr := by rw [HF1.out, hjj, List.take_length]
          obtain ⟨fa', fc', hcut, hFr'⟩ := hS.cut F.length (by rw [hF1e, ht]; simp)
          have HF1e : Hid (F1 = sweep A v F Fr) := hF1e
          clear hF1e ht
          go_wp2
          go_roundg (hops.toNat - (k + 1))
          case measure => omega
          case rel => exact ⟨k + 1, F1, F1.drop F.length, ao1, fa', cap1, fc', by omega, rfl, by go_num, rfl, by rw [List.length_drop], by
            show bfs A v (k + 1) = _
            simp only [bfs, HF.out, ← HF1e.out], hS, hFr'⟩
    · have hkk : k = hops.toNat := by omega
      have hFl : F.length ≤ 65536 := by
        by_cases h1 : 1 ≤ hops
        · have := (hfin h1 k).1.le
          rw [HF.out] at this
          simp only at this
          omega
        · have h0 : k = 0 := by omega
          have := HF.out
          rw [h0] at this
          simp only [bfs, Prod.mk.injEq] at this
          rw [← this.1]
          simp
      have HKK : Hid (k = hops.toNat) := hkk
      clear hkk
      go_wp2
      go_ret
      have := hS.found hFl
      rw [← HA.out, ← HKK.out, HF.out]
      exact this
end Go.Proofs.Qxb6601668a
