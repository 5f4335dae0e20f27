/-
  Slices of ints, and slices of such slices, as they lie in memory.
-/
import Derived.Test.Qxb6601668aRows
import Derived.WalkKit
import Derived.ProofKit
import Derived.Below
import Derived.Deep.LoopGhost
import Derived.Deep.OwnRows
import Derived.BigQuiet
import Derived.Deep.QuietTactic
namespace Go.Proofs.Qxb6601668a
open Go.RowKit

/-- The value v is a slice of n numbers, the i-th of which is Z i; it lies in blocks below B. -/
def IntsAt (B : Nat) (w : World) (v : Value) (n : Nat) (Z : Nat → Int) : Prop :=
  ∃ ao cap, v = .slice ao n cap ∧ n ≤ 9223372036854775807 ∧ (0 < n → ∃ b off, ao = some ⟨b, off, none⟩ ∧ b < B ∧ ∀ i, i < n → w.cell? ⟨b, off + i, none⟩ = some (.int .i64 (Z i)))

/-- The value v is a slice of n slices of numbers; the r-th has L r numbers. -/
def RowsAt (B : Nat) (w : World) (v : Value) (n : Nat) (L : Nat → Nat) (Z : Nat → Nat → Int) : Prop :=
  ∃ ao cap, v = .slice ao n cap ∧ n ≤ 9223372036854775807 ∧ (0 < n → ∃ b off, ao = some ⟨b, off, none⟩ ∧ b < B ∧ ∀ r, r < n → ∃ rv, w.cell? ⟨b, off + r, none⟩ = some rv ∧ IntsAt B w rv (L r) (Z r))

theorem IntsAt.kept {B : Nat} {w w' : World} {v : Value} {n : Nat} {Z : Nat → Int} (h : IntsAt B w v n Z) (hb : Below B w w') : IntsAt B w' v n Z := by
  obtain ⟨ao, cap, hv, hm, hc⟩ := h
  refine ⟨ao, cap, hv, hm, fun hn => ?_⟩
  obtain ⟨b, off, ha, hlt, hcell⟩ := hc hn
  exact ⟨b, off, ha, hlt, fun i hi => (hb.cell (p := ⟨b, off + i, none⟩) hlt).trans (hcell i hi)⟩

theorem IntsAt.mono {B B' : Nat} {w : World} {v : Value} {n : Nat} {Z : Nat → Int} (h : IntsAt B w v n Z) (hB : B ≤ B') : IntsAt B' w v n Z := by
  obtain ⟨ao, cap, hv, hm, hc⟩ := h
  refine ⟨ao, cap, hv, hm, fun hn => ?_⟩
  obtain ⟨b, off, ha, hlt, hcell⟩ := hc hn
  exact ⟨b, off, ha, Nat.lt_of_lt_of_le hlt hB, hcell⟩

theorem RowsAt.kept {B : Nat} {w w' : World} {v : Value} {n : Nat} {L : Nat → Nat} {Z : Nat → Nat → Int} (h : RowsAt B w v n L Z) (hb : Below B w w') : RowsAt B w' v n L Z := by
  obtain ⟨ao, cap, hv, hm, hc⟩ := h
  refine ⟨ao, cap, hv, hm, fun hn => ?_⟩
  obtain ⟨b, off, ha, hlt, hcell⟩ := hc hn
  refine ⟨b, off, ha, hlt, fun r hr => ?_⟩
  obtain ⟨rv, h1, h2⟩ := hcell r hr
  exact ⟨rv, (hb.cell (p := ⟨b, off + r, none⟩) hlt).trans h1, h2.kept hb⟩

theorem RowsAt.mono {B B' : Nat} {w : World} {v : Value} {n : Nat} {L : Nat → Nat} {Z : Nat → Nat → Int} (h : RowsAt B w v n L Z) (hB : B ≤ B') : RowsAt B' w v n L Z := by
  obtain ⟨ao, cap, hv, hm, hc⟩ := h
  refine ⟨ao, cap, hv, hm, fun hn => ?_⟩
  obtain ⟨b, off, ha, hlt, hcell⟩ := hc hn
  refine ⟨b, off, ha, Nat.lt_of_lt_of_le hlt hB, fun r hr => ?_⟩
  obtain ⟨rv, h1, h2⟩ := hcell r hr
  exact ⟨rv, h1, h2.mono hB⟩

/-- An index into a slice whose address is a letter of which something is known only where it is not empty: an equation for every world. -/
theorem run_ix {P : Program} {t e : TypeId} (ht : P.underlying t = some (.slice e)) (hs : (P.info? e).map (·.size) = some 1) {ao : Option Addr} {n cap b off k : Nat} (ha : ao = some ⟨b, off, none⟩) (hk : k < n) (w : World) :
    (Instr.indexAt t (.slice ao n cap) (.int .i64 (k : Int))).run P w = .ok (.pointer (some ⟨b, off + k, none⟩)) w := by
  subst ha
  have he : P.elem t = e := by simp [Program.elem, ht]
  obtain ⟨i, hi, hsz⟩ := Option.map_eq_some_iff.1 hs
  rw [run_indexAt_slice w t _ n cap .i64 k (by rw [he]; exact ht), if_pos ⟨by omega, by omega⟩]
  simp [he, sizeOf, typeInfo, hi, hsz, Addr.add]

/-- The call answered a bool; where it is true the proposition holds; the world is as it was. -/
def Told (p : Prop) (w : World) (e : Ending) (w' : World) : Prop := ∃ r : Bool, e = .returned (.bool r) ∧ (r = true → p) ∧ w' = w
theorem Told.no {p : Prop} {w : World} : Told p w (.returned (.bool false)) w := ⟨false, rfl, (fun h => by cases h), rfl⟩
theorem Told.yes {p : Prop} {w : World} (h : p) : Told p w (.returned (.bool true)) w := ⟨true, rfl, fun _ => h, rfl⟩
theorem Told.is {p : Prop} {w : World} {r : Bool} (h : r = true → p) : Told p w (.returned (.bool r)) w := ⟨r, rfl, h, rfl⟩

theorem Try.size3 : (Try.prog.info? 3).map (·.size) = some 1 := by kernel_rfl
theorem Try.size31 : (Try.prog.info? 31).map (·.size) = some 1 := by kernel_rfl
end Go.Proofs.Qxb6601668a
