/-
  Slices of one-cell elements as they lie in memory; an index into one; the ends of the calls.
-/
import Derived.Test.Qxb6602732aRows
import Derived.WalkKit
import Derived.ProofKit
import Derived.Below
import Derived.Deep.LoopGhost
import Derived.Deep.OwnRows
import Derived.BigQuiet
import Derived.Deep.QuietTactic
import Derived.WalkLawsBesides
namespace Go.Proofs.Qxb6602732a
open Go.RowKit

/-- The value v is a slice of n elements of one cell each, the i-th of which holds f i; it lies in blocks below B. -/
def SliceAt (B : Nat) (w : World) (v : Value) (n : Nat) (f : Nat → Value) : Prop :=
  ∃ ao cap, v = .slice ao n cap ∧ n ≤ 9223372036854775807 ∧ (0 < n → ∃ b off, ao = some ⟨b, off, none⟩ ∧ b < B ∧ ∀ i, i < n → w.cell? ⟨b, off + i, none⟩ = some (f i))

theorem SliceAt.kept {B : Nat} {w w' : World} {v : Value} {n : Nat} {f : Nat → Value} (h : SliceAt B w v n f) (hb : Below B w w') : SliceAt B w' v n f := by
  obtain ⟨ao, cap, hv, hm, hc⟩ := h
  refine ⟨ao, cap, hv, hm, fun hn => ?_⟩
  obtain ⟨b, off, ha, hlt, hcell⟩ := hc hn
  exact ⟨b, off, ha, hlt, fun i hi => (hb.cell (p := ⟨b, off + i, none⟩) hlt).trans (hcell i hi)⟩

theorem SliceAt.mono {B B' : Nat} {w : World} {v : Value} {n : Nat} {f : Nat → Value} (h : SliceAt B w v n f) (hB : B ≤ B') : SliceAt B' w v n f := by
  obtain ⟨ao, cap, hv, hm, hc⟩ := h
  refine ⟨ao, cap, hv, hm, fun hn => ?_⟩
  obtain ⟨b, off, ha, hlt, hcell⟩ := hc hn
  exact ⟨b, off, ha, Nat.lt_of_lt_of_le hlt hB, hcell⟩

theorem SliceAt.of_row {w : World} {b : Nat} {t : TypeId} {n : Nat} {f : Nat → Value} (h : w.rowIs b t n f) (hn : n ≤ 9223372036854775807) : SliceAt w.heap.size w (.slice (some ⟨b, 0, none⟩) n n) n f :=
  ⟨_, _, rfl, hn, fun _ => ⟨b, 0, rfl, h.lt, fun i hi => by simpa using h.cell hi⟩⟩

theorem run_ix {P : Program} {t e : TypeId} (ht : P.underlying t = some (.slice e)) (hs : (P.info? e).map (·.size) = some 1) {ao : Option Addr} {n cap b off k : Nat} (ha : ao = some ⟨b, off, none⟩) (hk : k < n) (w : World) :
    (Instr.indexAt t (.slice ao n cap) (.int .i64 (k : Int))).run P w = .ok (.pointer (some ⟨b, off + k, none⟩)) w := by
  subst ha
  have he : P.elem t = e := by simp [Program.elem, ht]
  obtain ⟨i, hi, hsz⟩ := Option.map_eq_some_iff.1 hs
  rw [run_indexAt_slice w t _ n cap .i64 k (by rw [he]; exact ht), if_pos ⟨by omega, by omega⟩]
  simp [he, sizeOf, typeInfo, hi, hsz, Addr.add]

def Told (p : Prop) (w : World) (e : Ending) (w' : World) : Prop := ∃ r : Bool, e = .returned (.bool r) ∧ (r = true → p) ∧ Below w.heap.size w w'
theorem Told.no {p : Prop} {w w' : World} (h : Below w.heap.size w w') : Told p w (.returned (.bool false)) w' := ⟨false, rfl, (fun h => by cases h), h⟩
theorem Told.yes {p : Prop} {w w' : World} (hp : p) (h : Below w.heap.size w w') : Told p w (.returned (.bool true)) w' := ⟨true, rfl, fun _ => hp, h⟩

/-- A fresh slice comes back. -/
def Fresh (w : World) (n : Nat) (f : Nat → Value) (e : Ending) (w' : World) : Prop := ∃ v, e = .returned v ∧ SliceAt w'.heap.size w' v n f ∧ Below w.heap.size w w'

def Holds (w : World) (e : Ending) (w' : World) : Prop := e = .returned (.bool true) ∧ Below w.heap.size w w'
theorem Holds.mk {w w' : World} (h : Below w.heap.size w w') : Holds w (.returned (.bool true)) w' := ⟨rfl, h⟩

theorem Try.size5 : (Try.prog.info? 5).map (·.size) = some 1 := by kernel_rfl
theorem Try.size9 : (Try.prog.info? 9).map (·.size) = some 1 := by kernel_rfl
theorem Try.info5 : (Try.prog.info? 5).map (fun i => (i.zero, i.size, i.bytes)) = some (some (.int .u8 0), 1, 1) := by kernel_rfl
theorem Try.info9 : (Try.prog.info? 9).map (fun i => (i.zero, i.size, i.bytes)) = some (some (.string ByteArray.empty), 1, 16) := by kernel_rfl

set_option maxHeartbeats 1000000 in
set_option maxRecDepth 100000 in
theorem cloneStrings_any {B : Nat} {w : World} {v : Value} {n : Nat} {S : Nat → ByteArray} (hn : n ≤ 64) (h : SliceAt B w v n (fun i => .string (S i))) (hB : B ≤ w.heap.size) :
    Calls Try.prog 22 #[v] w (Fresh w n (fun i => .string (S i))) := by
  obtain ⟨ao, cap, rfl, _, hc⟩ := h
  have heq := fun w => Lib.run_eql_slice_nil (P := Try.prog) w 37 9 ao n cap 0 0 Try.underlying37
  cases ao with
  | none =>
    go_enter Try.func22, Try.ntmps22
    go_wp2
    go_ret
    have : n = 0 := by
      by_cases h0 : 0 < n
      · obtain ⟨b, off, ha, _⟩ := hc h0; cases ha
      · omega
    subst this
    exact ⟨_, rfl, ⟨_, _, rfl, by omega, fun h => absurd h (Nat.lt_irrefl _)⟩, Below.refl _ _⟩
  | some a =>
    have hmk := run_make_row' (P := Try.prog) 37 9 (.string ByteArray.empty) 16 Try.underlying37 Try.info9 rfl .i64 .i64 n (by omega) (by omega)
    go_enter Try.func22, Try.ntmps22
    go_wp2
    go_loopg [4] n (fun g i wr => ∃ k : Nat, k ≤ n ∧ g = n - k ∧ i = .int .i64 k ∧ wr.rowIs w.heap.size 9 n (fun i => .string (if i < k then S i else ByteArray.empty)) ∧ Below w.heap.size w wr)
    case atStart => exact ⟨0, Nat.zero_le _, rfl, rfl, (World.rowIs_made w _ n 9).congr (fun i _ => by simp), (Below.refl _ _).alloc (Nat.le_refl _) _⟩
    case round =>
      obtain ⟨k, hk, rfl, rfl, hrow, hbel⟩ := hrel
      clear hmk heq
      by_cases hlt : k < n
      · obtain ⟨b, off, ha, hb, hcell⟩ := hc (by omega)
        have hix := run_ix (P := Try.prog) (cap := cap) Try.underlying37 Try.size9 ha hlt
        have c0 : wr.cell? ⟨b, off + k, none⟩ = some (.string (S k)) := (hbel.cell (p := ⟨b, off + k, none⟩) (by show b < _; omega)).trans (hcell k hlt)
        have d0 : wr.cell? ⟨w.heap.size, k, none⟩ = some (.string ByteArray.empty) := by simpa using hrow.cell hlt
        have f0 : wr.frozen? ⟨w.heap.size, k, none⟩ = false := hrow.frozen _
        clear ha hcell hc
        go_wp2
        go_roundg (n - (k + 1))
        case measure => omega
        case rel =>
          refine ⟨k + 1, by omega, rfl, by go_num, (hrow.set _ _).congr (fun i _ => ?_), hbel.setCell (Nat.le_refl _) _⟩
          by_cases e : i = k
          · subst e; simp
          · by_cases e2 : i < k
            · simp [e, e2, show i < k + 1 by omega]
            · simp [e, e2, show ¬ i < k + 1 by omega]
      · go_wp2
        go_ret
        have hrow2 := hrow.congr (g := fun i => .string (S i)) (fun i hi => by rw [if_pos (by omega)])
        exact ⟨_, rfl, SliceAt.of_row hrow2 (by omega), hbel⟩

set_option maxHeartbeats 1000000 in
set_option maxRecDepth 100000 in
theorem cloneBytes_any {B : Nat} {w : World} {v : Value} {n : Nat} {O : Nat → Int} (hn : n ≤ 1048576) (h : SliceAt B w v n (fun i => .int .u8 (O i))) (hB : B ≤ w.heap.size) :
    Calls Try.prog 10 #[v] w (Fresh w n (fun i => .int .u8 (O i))) := by
  obtain ⟨ao, cap, rfl, _, hc⟩ := h
  have heq := fun w => Lib.run_eql_slice_nil (P := Try.prog) w 22 5 ao n cap 0 0 Try.underlying22
  cases ao with
  | none =>
    go_enter Try.func10, Try.ntmps10
    go_wp2
    go_ret
    have : n = 0 := by
      by_cases h0 : 0 < n
      · obtain ⟨b, off, ha, _⟩ := hc h0; cases ha
      · omega
    subst this
    exact ⟨_, rfl, ⟨_, _, rfl, by omega, fun h => absurd h (Nat.lt_irrefl _)⟩, Below.refl _ _⟩
  | some a =>
    have hmk := run_make_row' (P := Try.prog) 22 5 (.int .u8 0) 1 Try.underlying22 Try.info5 rfl .i64 .i64 n (by omega) (by omega)
    go_enter Try.func10, Try.ntmps10
    go_wp2
    go_loopg [4] n (fun g i wr => ∃ k : Nat, k ≤ n ∧ g = n - k ∧ i = .int .i64 k ∧ wr.rowIs w.heap.size 5 n (fun i => .int .u8 (if i < k then O i else 0)) ∧ Below w.heap.size w wr)
    case atStart => exact ⟨0, Nat.zero_le _, rfl, rfl, (World.rowIs_made w _ n 5).congr (fun i _ => by simp), (Below.refl _ _).alloc (Nat.le_refl _) _⟩
    case round =>
      obtain ⟨k, hk, rfl, rfl, hrow, hbel⟩ := hrel
      clear hmk heq
      by_cases hlt : k < n
      · obtain ⟨b, off, ha, hb, hcell⟩ := hc (by omega)
        have hix := run_ix (P := Try.prog) (cap := cap) Try.underlying22 Try.size5 ha hlt
        have c0 : wr.cell? ⟨b, off + k, none⟩ = some (.int .u8 (O k)) := (hbel.cell (p := ⟨b, off + k, none⟩) (by show b < _; omega)).trans (hcell k hlt)
        have d0 : wr.cell? ⟨w.heap.size, k, none⟩ = some (.int .u8 0) := by simpa using hrow.cell hlt
        have f0 : wr.frozen? ⟨w.heap.size, k, none⟩ = false := hrow.frozen _
        clear ha hcell hc
        go_wp2
        go_roundg (n - (k + 1))
        case measure => omega
        case rel =>
          refine ⟨k + 1, by omega, rfl, by go_num, (hrow.set _ _).congr (fun i _ => ?_), hbel.setCell (Nat.le_refl _) _⟩
          by_cases e : i = k
          · subst e; simp
          · by_cases e2 : i < k
            · simp [e, e2, show i < k + 1 by omega]
            · simp [e, e2, show ¬ i < k + 1 by omega]
      · go_wp2
        go_ret
        have hrow2 := hrow.congr (g := fun i => .int .u8 (O i)) (fun i hi => by rw [if_pos (by omega)])
        exact ⟨_, rfl, SliceAt.of_row hrow2 (by omega), hbel⟩

set_option maxHeartbeats 1000000 in
set_option maxRecDepth 100000 in
theorem bytes_any {B : Nat} {w : World} {v : Value} {n : Nat} {S : Nat → ByteArray} {oo : Option Addr} {m ocap : Nat} (hm : m ≤ 9223372036854775807) (hS : ∀ i, i < n → (S i).size ≤ 9223372036854775807) (h : SliceAt B w v n (fun i => .string (S i))) :
    Calls Try.prog 24 #[v, .slice oo m ocap] w (Told True w) := by
  obtain ⟨ao, cap, rfl, hn, hc⟩ := h
  by_cases h1 : n ≤ 1048576
  · go_enter Try.func24, Try.ntmps24
    go_wp2
    go_loopg [5, 6] n (fun g t i wr => wr = w ∧ ∃ k s : Nat, k ≤ n ∧ g = n - k ∧ i = .int .i64 k ∧ t = .int .i64 s ∧ s ≤ 1048576)
    case atStart => exact ⟨rfl, 0, n, Nat.zero_le _, rfl, rfl, by go_num, h1⟩
    case round =>
      obtain ⟨rfl, k, s, hk, rfl, rfl, rfl, hs⟩ := hrel
      by_cases hlt : k < n
      · obtain ⟨b, off, ha, hb, hcell⟩ := hc (by omega)
        have hix := run_ix (P := Try.prog) (cap := cap) Try.underlying37 Try.size9 ha hlt
        have c0 := hcell k hlt
        have hSk := hS k hlt
        clear ha hcell hc
        by_cases h4 : (S k).size ≤ 1048576
        · by_cases h5 : s + (S k).size ≤ 1048576
          · go_wp2
            go_roundg (n - (k + 1))
            case measure => omega
            case rel => exact ⟨rfl, k + 1, s + (S k).size, by omega, rfl, by go_num, by go_num, h5⟩
          · go_wp2
            go_ret
            exact Told.no (Below.refl _ _)
        · go_wp2
          go_ret
          exact Told.no (Below.refl _ _)
      · by_cases h6 : m ≤ 1048576
        · by_cases h7 : s + m ≤ 1048576
          · go_wp2
            go_ret
            exact Told.yes trivial (Below.refl _ _)
          · go_wp2
            go_ret
            exact Told.no (Below.refl _ _)
        · go_wp2
          go_ret
          exact Told.no (Below.refl _ _)
  · go_enter Try.func24, Try.ntmps24
    go_wp2
    go_ret
    exact Told.no (Below.refl _ _)
end Go.Proofs.Qxb6602732a
