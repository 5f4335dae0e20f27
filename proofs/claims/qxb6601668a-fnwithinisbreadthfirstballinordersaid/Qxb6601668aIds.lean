/-
  zzCloneIDs and ZZNewGraph: new memory alone; of the identifiers nothing is ever asked again.
-/
import Derived.Test.Qxb6601668aMem
import Derived.WalkLawsBesides
namespace Go.Proofs.Qxb6601668a
open Go.RowKit

/-- The value v is a slice of m pairs of 64-bit numbers. -/
def IdsAt (B : Nat) (w : World) (v : Value) (m : Nat) (X : Nat → Int) : Prop :=
  ∃ ao cap, v = .slice ao m cap ∧ (0 < m → ∃ b off, ao = some ⟨b, off, none⟩ ∧ b < B ∧ ∀ i, i < m * 2 → w.cell? ⟨b, off + i, none⟩ = some (.int .u64 (X i)))

theorem IdsAt.kept {B B' : Nat} {w w' : World} {v : Value} {m : Nat} {X : Nat → Int} (h : IdsAt B w v m X) (hb : Below B w w') (hB : B ≤ B') : IdsAt B' w' v m X := by
  obtain ⟨ao, cap, hv, hc⟩ := h
  refine ⟨ao, cap, hv, fun hn => ?_⟩
  obtain ⟨b, off, ha, hlt, hcell⟩ := hc hn
  exact ⟨b, off, ha, Nat.lt_of_lt_of_le hlt hB, fun i hi => (hb.cell (p := ⟨b, off + i, none⟩) hlt).trans (hcell i hi)⟩

theorem run_ix2 {P : Program} {t e : TypeId} (ht : P.underlying t = some (.slice e)) (hs : (P.info? e).map (·.size) = some 2) {ao : Option Addr} {n cap b off k : Nat} (ha : ao = some ⟨b, off, none⟩) (hk : k < n) (w : World) :
    (Instr.indexAt t (.slice ao n cap) (.int .i64 (k : Int))).run P w = .ok (.pointer (some ⟨b, off + k * 2, none⟩)) w := by
  subst ha
  have he : P.elem t = e := by simp [Program.elem, ht]
  obtain ⟨i, hi, hsz⟩ := Option.map_eq_some_iff.1 hs
  rw [run_indexAt_slice w t _ n cap .i64 k (by rw [he]; exact ht), if_pos ⟨by omega, by omega⟩]
  simp [he, sizeOf, typeInfo, hi, hsz, Addr.add]

theorem run_mk2 {P : Program} {t e : TypeId} {z : Value} {a b : Value} {bytes : Nat} (ht : P.underlying t = some (.slice e)) (hinfo : (P.info? e).map (fun i => (i.zero, i.size, i.bytes)) = some (some z, 2, bytes)) (hz : z.cells = #[a, b])
    (n : Nat) (hb : bytes * n ≤ 281474976710656) (h63 : n ≤ 9223372036854775807) (w : World) :
    (Instr.makeSlice t (.int .i64 (n : Int)) (.int .i64 (n : Int))).run P w = .ok (.slice (some ⟨w.heap.size, 0, none⟩) n n) (w.alloc (.cells (madeCells #[a, b] (n * 2)) e)) := by
  obtain ⟨i, hi, hzz⟩ := Option.map_eq_some_iff.1 hinfo
  simp only [Prod.mk.injEq] at hzz
  obtain ⟨h1, h2, h3⟩ := hzz
  have hb' : (i.bytes : Int) * (n : Int) ≤ 281474976710656 := by
    have h : ((i.bytes * n : Nat) : Int) ≤ 281474976710656 := by rw [h3]; omega
    rwa [Int.natCast_mul] at h
  have hr := run_make (P := P) w t e i z ht hi h1 .i64 .i64 n n (by omega) (Int.le_refl _) hb' (by omega)
  simp only [Int.toNat_natCast, h2, hz] at hr
  exact hr

theorem Try.size37 : (Try.prog.info? 37).map (·.size) = some 2 := by kernel_rfl
theorem Try.size40 : (Try.prog.info? 40).map (·.size) = some 2 := by kernel_rfl
theorem Try.info37 : (Try.prog.info? 37).map (fun i => (i.zero, i.size, i.bytes)) = some (some (.agg #[.int .u64 0, .int .u64 0]), 2, 16) := by kernel_rfl
theorem Try.info40 : (Try.prog.info? 40).map (fun i => (i.zero, i.size, i.bytes)) = some (some (.agg #[.int .u64 0, .int .u64 0]), 2, 16) := by kernel_rfl

theorem rowIs_made2 (w : World) (n : Nat) (t : TypeId) : (w.alloc (.cells (madeCells #[.int .u64 0, .int .u64 0] (n * 2)) t)).rowIs w.heap.size t (n * 2) (fun _ => .int .u64 0) := by
  have hs := size_madeCells #[.int .u64 0, .int .u64 0] (n * 2)
  have h := World.rowIs_alloc w (madeCells #[.int .u64 0, .int .u64 0] (n * 2)) t (fun _ => .int .u64 0) (fun i hi => by
    rw [hs] at hi
    simp only [madeCells, Array.getElem?_map, Array.getElem?_range, hi]
    have : i % 2 = 0 ∨ i % 2 = 1 := by omega
    rcases this with e | e <;> simp [e])
  rwa [hs] at h

set_option maxHeartbeats 1000000 in
set_option maxRecDepth 100000 in
theorem cloneIds_any {B : Nat} {w : World} {v : Value} {m : Nat} {X : Nat → Int} (hm : m ≤ 65536) (h : IdsAt B w v m X) (hB : B ≤ w.heap.size) :
    Calls Try.prog 9 #[v] w fun e w' => ∃ v' X', e = .returned v' ∧ IdsAt w'.heap.size w' v' m X' ∧ Below w.heap.size w w' := by
  obtain ⟨ao, cap, rfl, hc⟩ := h
  have heq := fun w => Lib.run_eql_slice_nil (P := Try.prog) w 22 37 ao m cap 0 0 Try.underlying22
  cases ao with
  | none =>
    go_enter Try.func9, Try.ntmps9
    go_wp2
    go_ret
    have : m = 0 := by
      by_cases h0 : 0 < m
      · obtain ⟨b, off, ha, _⟩ := hc h0; cases ha
      · omega
    subst this
    exact ⟨_, X, rfl, ⟨_, _, rfl, fun h => absurd h (Nat.lt_irrefl _)⟩, Below.refl _ _⟩
  | some a =>
    have hmk := run_mk2 (P := Try.prog) Try.underlying22 Try.info37 rfl m (by omega) (by omega)
    go_enter Try.func9, Try.ntmps9
    go_wp2
    go_loopg [4] m (fun g i wr => ∃ k : Nat, k ≤ m ∧ g = m - k ∧ i = .int .i64 k ∧ (∃ Y : Nat → Int, wr.rowIs w.heap.size 37 (m * 2) (fun i => .int .u64 (Y i))) ∧ Below w.heap.size w wr)
    case atStart => exact ⟨0, Nat.zero_le _, rfl, rfl, ⟨fun _ => 0, rowIs_made2 w m 37⟩, (Below.refl _ _).alloc (Nat.le_refl _) _⟩
    case round =>
      obtain ⟨k, hk, rfl, rfl, ⟨Y, hrow⟩, hbel⟩ := hrel
      clear hmk heq
      by_cases hlt : k < m
      · obtain ⟨b, off, ha, hb, hcell⟩ := hc (by omega)
        have hix := run_ix2 (P := Try.prog) (cap := cap) Try.underlying22 Try.size37 ha hlt
        have c0 : wr.cell? ⟨b, off + k * 2, none⟩ = some (.int .u64 (X (k * 2))) := (hbel.cell (p := ⟨b, off + k * 2, none⟩) (by show b < _; omega)).trans (hcell (k * 2) (by omega))
        have c1 : wr.cell? ⟨b, off + k * 2 + 1, none⟩ = some (.int .u64 (X (k * 2 + 1))) := (hbel.cell (p := ⟨b, off + k * 2 + 1, none⟩) (by show b < _; omega)).trans (hcell (k * 2 + 1) (by omega))
        have d0 : wr.cell? ⟨w.heap.size, k * 2, none⟩ = some (.int .u64 (Y (k * 2))) := hrow.cell (by omega)
        have d1 : wr.cell? ⟨w.heap.size, k * 2 + 1, none⟩ = some (.int .u64 (Y (k * 2 + 1))) := hrow.cell (by omega)
        have f0 : wr.frozen? ⟨w.heap.size, k * 2, none⟩ = false := hrow.frozen _
        have f1 : wr.frozen? ⟨w.heap.size, k * 2 + 1, none⟩ = false := hrow.frozen _
        clear ha hcell hc
        go_wp2
        go_roundg (m - (k + 1))
        case measure => omega
        case rel =>
          refine ⟨k + 1, by omega, rfl, by go_num, ⟨fun i => if i = k * 2 + 1 then X (k * 2 + 1) else if i = k * 2 then X (k * 2) else Y i, ((hrow.set _ _).set _ _).congr (fun i _ => ?_)⟩, (hbel.setCell (Nat.le_refl _) _).setCell (Nat.le_refl _) _⟩
          by_cases e1 : i = k * 2 + 1
          · subst e1; simp
          · by_cases e2 : i = k * 2
            · subst e2; simp
            · simp [e1, e2]
      · go_wp2
        go_ret
        exact ⟨_, Y, rfl, ⟨_, _, rfl, fun _ => ⟨w.heap.size, 0, rfl, hrow.lt, fun i hi => by simpa using hrow.cell hi⟩⟩, hbel⟩

/-- A graph's three fields behind a pointer: the second leads to the rows. -/
def GraphAt (B : Nat) (w : World) (g : Value) (n : Nat) (L : Nat → Nat) (Z : Nat → Nat → Int) : Prop :=
  ∃ gb nv, g = .pointer (some ⟨gb, 0, none⟩) ∧ gb < B ∧ w.cell? ⟨gb, 1, none⟩ = some nv ∧ RowsAt B w nv n L Z

theorem GraphAt.kept {B : Nat} {w w' : World} {g : Value} {n : Nat} {L : Nat → Nat} {Z : Nat → Nat → Int} (h : GraphAt B w g n L Z) (hb : Below B w w') : GraphAt B w' g n L Z := by
  obtain ⟨gb, nv, hg, hlt, hc, hR⟩ := h
  exact ⟨gb, nv, hg, hlt, (hb.cell (p := ⟨gb, 1, none⟩) hlt).trans hc, hR.kept hb⟩

set_option maxHeartbeats 1000000 in
set_option maxRecDepth 100000 in
theorem newGraph_any {B : Nat} {w : World} {v nv : Value} {m n : Nat} {X : Nat → Int} {L : Nat → Nat} {Z : Nat → Nat → Int} (links : Int) (hm : m ≤ 65536) (h : IdsAt B w v m X) (hN : RowsAt B w nv n L Z) (hB : B ≤ w.heap.size) :
    Calls Try.prog 11 #[v, nv, .int .i64 links] w fun e w' => ∃ g, e = .returned g ∧ GraphAt w'.heap.size w' g n L Z ∧ Below w.heap.size w w' := by
  obtain ⟨ao, cap, rfl, hc⟩ := h
  have hnv := hN
  obtain ⟨ao2, cap2, rfl, hn2, _⟩ := hN
  have HN : Hid (RowsAt B w (.slice ao2 n cap2) n L Z) := hnv
  clear hnv
  cases ao with
  | none =>
    go_enter Try.func11, Try.ntmps11
    go_wp2
    go_ret
    have hbel : Below w.heap.size w (w.alloc (.cells #[.slice none 0 0, .slice ao2 n cap2, .int .i64 links] 42)) := (Below.refl _ _).alloc (Nat.le_refl _) _
    exact ⟨_, rfl, ⟨w.heap.size, _, rfl, by simp, by simp, (HN.out.kept (hbel.mono hB)).mono (by simp; omega)⟩, hbel⟩
  | some a =>
    have hmk := run_mk2 (P := Try.prog) Try.underlying38 Try.info40 rfl m (by omega) (by omega)
    go_enter Try.func11, Try.ntmps11
    go_wp2
    go_loopg [8] m (fun g i wr => ∃ k : Nat, k ≤ m ∧ g = m - k ∧ i = .int .i64 k ∧ (∃ Y : Nat → Int, wr.rowIs w.heap.size 40 (m * 2) (fun i => .int .u64 (Y i))) ∧ Below w.heap.size w wr)
    case atStart => exact ⟨0, Nat.zero_le _, rfl, rfl, ⟨fun _ => 0, rowIs_made2 w m 40⟩, (Below.refl _ _).alloc (Nat.le_refl _) _⟩
    case round =>
      obtain ⟨k, hk, rfl, rfl, ⟨Y, hrow⟩, hbel⟩ := hrel
      clear hmk
      by_cases hlt : k < m
      · obtain ⟨b, off, ha, hb, hcell⟩ := hc (by omega)
        have hix := run_ix2 (P := Try.prog) (cap := cap) Try.underlying22 Try.size37 ha hlt
        have c0 : wr.cell? ⟨b, off + k * 2, none⟩ = some (.int .u64 (X (k * 2))) := (hbel.cell (p := ⟨b, off + k * 2, none⟩) (by show b < _; omega)).trans (hcell (k * 2) (by omega))
        have c1 : wr.cell? ⟨b, off + k * 2 + 1, none⟩ = some (.int .u64 (X (k * 2 + 1))) := (hbel.cell (p := ⟨b, off + k * 2 + 1, none⟩) (by show b < _; omega)).trans (hcell (k * 2 + 1) (by omega))
        have d0 : wr.cell? ⟨w.heap.size, k * 2, none⟩ = some (.int .u64 (Y (k * 2))) := hrow.cell (by omega)
        have d1 : wr.cell? ⟨w.heap.size, k * 2 + 1, none⟩ = some (.int .u64 (Y (k * 2 + 1))) := hrow.cell (by omega)
        have f0 : wr.frozen? ⟨w.heap.size, k * 2, none⟩ = false := hrow.frozen _
        have f1 : wr.frozen? ⟨w.heap.size, k * 2 + 1, none⟩ = false := hrow.frozen _
        clear ha hcell hc
        go_wp2
        go_region
        all_goals
          go_wp2
          go_roundg (m - (k + 1))
          case measure => omega
          case rel =>
            refine ⟨k + 1, by omega, rfl, by go_num, ⟨fun i => if i = k * 2 + 1 then X (k * 2 + 1) else if i = k * 2 then X (k * 2) else Y i, (((hrow.set _ _).set _ _).drew).congr (fun i _ => ?_)⟩, ((hbel.setCell (Nat.le_refl _) _).setCell (Nat.le_refl _) _).drew⟩
            by_cases e1 : i = k * 2 + 1
            · subst e1; simp
            · by_cases e2 : i = k * 2
              · subst e2; simp
              · simp [e1, e2]
      · go_wp2
        go_ret
        have hs := hbel.size
        have hbel2 := hbel.alloc hs (.cells #[.slice (some ⟨w.heap.size, 0, none⟩) m m, .slice ao2 n cap2, .int .i64 links] 42)
        exact ⟨_, rfl, ⟨wr.heap.size, _, rfl, by simp, by simp, (HN.out.kept (hbel2.mono hB)).mono (by simp; omega)⟩, hbel2⟩
end Go.Proofs.Qxb6601668a
