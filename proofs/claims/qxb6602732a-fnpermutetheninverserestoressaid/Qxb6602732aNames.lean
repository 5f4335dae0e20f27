/-
  ZZPermuteNames: the walk.
-/
import Derived.Test.Qxb6602732aPermute
namespace Go.Proofs.Qxb6602732a
open Go.RowKit

theorem Try.info54 : (Try.prog.info? 54).map (fun i => (i.zero, i.size, i.bytes)) = some (some (.agg #[.string ByteArray.empty, .int .u8 0, .bool false, .int .u64 0, .slice none 0 0, .pointer none, .int .u8 0, .bool false, .int .u64 0, .slice none 0 0, .pointer none]), 11, 112) := by kernel_rfl

theorem run_mk11 (n : Nat) (hb : n ≤ 64) (w : World) :
    (Instr.makeSlice 47 (.int .i64 (n : Int)) (.int .i64 (n : Int))).run Try.prog w = .ok (.slice (some ⟨w.heap.size, 0, none⟩) n n) (w.alloc (.cells (madeCells #[.string ByteArray.empty, .int .u8 0, .bool false, .int .u64 0, .slice none 0 0, .pointer none, .int .u8 0, .bool false, .int .u64 0, .slice none 0 0, .pointer none] (n * 11)) 54)) := by
  obtain ⟨i, hi, hzz⟩ := Option.map_eq_some_iff.1 Try.info54
  simp only [Prod.mk.injEq] at hzz
  obtain ⟨h1, h2, h3⟩ := hzz
  have hr := run_make (P := Try.prog) w 47 54 i _ Try.underlying47 hi h1 .i64 .i64 n n (by omega) (Int.le_refl _) (by rw [h3]; omega) (by omega)
  simp only [Int.toNat_natCast, h2] at hr
  exact hr

theorem ent_made (w : World) (n : Nat) : (w.alloc (.cells (madeCells #[.string ByteArray.empty, .int .u8 0, .bool false, .int .u64 0, .slice none 0 0, .pointer none, .int .u8 0, .bool false, .int .u64 0, .slice none 0 0, .pointer none] (n * 11)) 54)).rowIs w.heap.size 54 (n * 11) (entF fun _ => ByteArray.empty) := by
  have hs := size_madeCells #[.string ByteArray.empty, .int .u8 0, .bool false, .int .u64 0, .slice none 0 0, .pointer none, .int .u8 0, .bool false, .int .u64 0, .slice none 0 0, .pointer none] (n * 11)
  have h := World.rowIs_alloc w (madeCells #[.string ByteArray.empty, .int .u8 0, .bool false, .int .u64 0, .slice none 0 0, .pointer none, .int .u8 0, .bool false, .int .u64 0, .slice none 0 0, .pointer none] (n * 11)) 54 (entF fun _ => ByteArray.empty) (fun i hi => by
    rw [hs] at hi
    simp only [madeCells, Array.getElem?_map, Array.getElem?_range, hi]
    have hm : i % 11 = 0 ∨ i % 11 = 1 ∨ i % 11 = 2 ∨ i % 11 = 3 ∨ i % 11 = 4 ∨ i % 11 = 5 ∨ i % 11 = 6 ∨ i % 11 = 7 ∨ i % 11 = 8 ∨ i % 11 = 9 ∨ i % 11 = 10 := by omega
    rcases hm with r | r | r | r | r | r | r | r | r | r | r <;> simp [r, entF])
  rwa [hs] at h

theorem ent_name {w : World} {b n : Nat} {S : Nat → ByteArray} (h : w.rowIs b 54 (n * 11) (entF S)) (k : Nat) (s : ByteArray) :
    (w.setCell ⟨b, k * 11, none⟩ (.string s)).rowIs b 54 (n * 11) (entF (fun t => if t = k then s else S t)) := by
  refine (h.set _ _).congr (fun i _ => ?_)
  by_cases e : i = k * 11
  · subst e
    rw [if_pos rfl, entF_0, if_pos rfl]
  · rw [if_neg e]
    unfold entF
    by_cases r : i % 11 = 0
    · rw [if_pos r, if_pos r]; show _ = Value.string (if i / 11 = k then s else S (i / 11)); rw [if_neg (by omega)]
    · rw [if_neg r, if_neg r]

set_option maxHeartbeats 2000000 in
set_option maxRecDepth 100000 in
theorem permuteNames_any {B : Nat} {w : World} {v ov : Value} {n m : Nat} {S : Nat → ByteArray} {O : Nat → Int} (hn : n ≤ 64) (hnm : n ≤ m) (hP : Perm n O) (h : SliceAt B w v n (fun i => .string (S i))) (hov : SliceAt B w ov m (fun i => .int .u8 (O i))) (hB : B ≤ w.heap.size) :
    Calls Try.prog 23 #[v, ov] w (Fresh w n (fun i => .string (S (O i).toNat))) := by
  have HOV : Hid (SliceAt B w ov m (fun i => .int .u8 (O i))) := hov
  have HPm : Hid (Perm n O) := hP
  clear hov hP
  obtain ⟨ao, cap, rfl, _, hc⟩ := h
  have hmk := run_mk11 n hn
  go_enter Try.func23, Try.ntmps23
  go_wp2
  go_loopg [6] n (fun g i wr => ∃ k : Nat, k ≤ n ∧ g = n - k ∧ i = .int .i64 k ∧ wr.rowIs w.heap.size 54 (n * 11) (entF fun t => if t < k then S t else ByteArray.empty) ∧ Below w.heap.size w wr)
  case atStart => exact ⟨0, Nat.zero_le _, rfl, rfl, (ent_made w n).congr (fun i _ => by simp), (Below.refl _ _).alloc (Nat.le_refl _) _⟩
  case round =>
    clear hmk
    obtain ⟨k, hk, rfl, rfl, hrow, hbel⟩ := hrel
    by_cases hlt : k < n
    · obtain ⟨b, off, ha, hb, hcell⟩ := hc (by omega)
      have hix := run_ix (P := Try.prog) (cap := cap) Try.underlying37 Try.size9 ha hlt
      have c0 : wr.cell? ⟨b, off + k, none⟩ = some (.string (S k)) := (hbel.cell (p := ⟨b, off + k, none⟩) (by show b < _; omega)).trans (hcell k hlt)
      have d0 : wr.cell? ⟨w.heap.size, k * 11, none⟩ = some (.string ByteArray.empty) := by have := (ent_cells hrow hlt).1; simpa using this
      have f0 : wr.frozen? ⟨w.heap.size, k * 11, none⟩ = false := hrow.frozen _
      clear ha hcell hc
      go_wp2
      go_roundg (n - (k + 1))
      case measure => omega
      case rel =>
        refine ⟨k + 1, by omega, rfl, by go_num, (ent_name hrow k (S k)).congr (fun i _ => ?_), hbel.setCell (Nat.le_refl _) _⟩
        congr 1
        funext t
        by_cases e : t = k
        · subst e; simp
        · by_cases e2 : t < k
          · simp [e, e2, show t < k + 1 by omega]
          · simp [e, e2, show ¬ t < k + 1 by omega]
    · have hrow2 := hrow.congr (g := entF S) (fun i hi => by
        unfold entF
        by_cases r : i % 11 = 0
        · rw [if_pos r, if_pos r]; show Value.string (if i / 11 < k then S (i / 11) else ByteArray.empty) = _; rw [if_pos (by omega)]
        · rw [if_neg r, if_neg r])
      have hcall := permute_any hn hnm HPm.out hrow2 (HOV.out.kept (hbel.mono hB)) hB
      clear hrow hrow2
      go_wp2_with fail
      refine hcall.mono ?_
      rintro e w1 ⟨rfl, hrow1, hb1⟩
      clear hcall
      have hbel1 := hbel.trans hb1
      have hbs := hrow1.lt
      clear hb1 hbel
      have hmk := run_make_row' (P := Try.prog) 37 9 (.string ByteArray.empty) 16 Try.underlying37 Try.info9 rfl .i64 .i64 n (by omega) (by omega)
      go_wp2
      clear hmk
      go_loopg [8] n (fun g i wr => ∃ k : Nat, k ≤ n ∧ g = n - k ∧ i = .int .i64 k ∧ wr.rowIs w1.heap.size 9 n (fun i => .string (if i < k then S (O i).toNat else ByteArray.empty)) ∧ Below w1.heap.size w1 wr)
      case atStart => exact ⟨0, Nat.zero_le _, rfl, rfl, (World.rowIs_made w1 _ n 9).congr (fun i _ => by simp), (Below.refl _ _).alloc (Nat.le_refl _) _⟩
      case round =>
        obtain ⟨k2, hk2, rfl, rfl, hout, hbo⟩ := hrel
        by_cases hlt2 : k2 < n
        · have c0 : wr.cell? ⟨w.heap.size, k2 * 11, none⟩ = some (.string (S (O k2).toNat)) := (hbo.cell (p := ⟨w.heap.size, k2 * 11, none⟩) hbs).trans (ent_cells hrow1 hlt2).1
          have d0 : wr.cell? ⟨w1.heap.size, k2, none⟩ = some (.string ByteArray.empty) := by simpa using hout.cell hlt2
          have f0 : wr.frozen? ⟨w1.heap.size, k2, none⟩ = false := hout.frozen _
          go_wp2
          go_roundg (n - (k2 + 1))
          case measure => omega
          case rel =>
            refine ⟨k2 + 1, by omega, rfl, by go_num, (hout.set _ _).congr (fun i _ => ?_), hbo.setCell (Nat.le_refl _) _⟩
            by_cases e : i = k2
            · subst e; simp
            · by_cases e2 : i < k2
              · simp [e, e2, show i < k2 + 1 by omega]
              · simp [e, e2, show ¬ i < k2 + 1 by omega]
        · go_wp2
          go_ret
          have hout2 := hout.congr (g := fun i => .string (S (O i).toNat)) (fun i hi => by rw [if_pos (by omega)])
          exact ⟨_, rfl, SliceAt.of_row hout2 (by omega), hbel1.trans (hbo.mono hbel1.size)⟩
end Go.Proofs.Qxb6602732a
