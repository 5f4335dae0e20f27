/-
  From the arguments' reading to what the walks ask.
-/
import Derived.Test.Qxb6601668aIds
import Derived.OpenShut
import Derived.ShutString
import Derived.ChangeOld
import Derived.Deep.Matrix
namespace Go.Proofs.Qxb6601668a
open Go.ChangeShapes Go.WideShapes Go.ChangeAt Go.RowKit Go.Deep

theorem own : ownKnob Try.prog.godebug = none := by kernel_rfl
theorem laidOut : laidOutB Try.prog = true := by kernel_rfl
theorem cells37 : Try.prog.cellsOf 37 = 2 := by kernel_rfl
theorem cells36 : Try.prog.cellsOf 36 = 1 := by kernel_rfl
theorem cells31 : Try.prog.cellsOf 31 = 1 := by kernel_rfl
theorem cells3 : Try.prog.cellsOf 3 = 1 := by kernel_rfl

section
variable {H : Type} {enc : TypeId × Value → H}

theorem ids_of_trod {W : World} {a : Option Addr} {len cap : Nat} {d : DataW H} {p : List MemPlace} (h : DataW.Trod enc Try.prog W 0 (fun _ => true) true 22 (.slice a len cap) d p) :
    len ≤ 9223372036854775807 ∧ ∃ X, IdsAt W.heap.size W (.slice a len cap) len X := by
  obtain ⟨fuel, hf⟩ := h
  rcases open_slice Try.underlying22 hf with ⟨hcs, _⟩ | ⟨x, l, c, m, n, D, Pl, hcs, _, hl, hm, hmm, _, hx⟩
  · simp [Value.cells] at hcs
    obtain ⟨rfl, rfl, rfl⟩ := hcs
    exact ⟨by omega, fun _ => 0, _, _, rfl, fun h => absurd h (Nat.lt_irrefl _)⟩
  · simp [Value.cells] at hcs
    obtain ⟨rfl, rfl, rfl⟩ := hcs
    simp only [if_true] at hmm
    subst hmm
    unfold maxLen at hm
    refine ⟨by omega, ?_⟩
    rw [cells37] at hx
    have each : ∀ i, i < len * 2 → ∃ y : Int, W.cell? (x.add i) = some (.int .u64 y) := by
      intro i hi
      obtain ⟨cs', h1, h2⟩ := hx (i / 2) (by omega)
      obtain ⟨_, hlen, hcell⟩ := World.cells?_some h1
      obtain ⟨xs, q, _, _, _, hxs, hel⟩ := DataW.trod_array Try.underlying37 h2
      have he := hel (i % 2) (by omega)
      rw [cells36, Nat.mul_one] at he
      obtain ⟨y, hy⟩ : ∃ y, xs[i % 2]? = some y := ⟨xs[i % 2]'(by omega), by simp⟩
      rw [hy] at he
      obtain ⟨z, hz, _, _⟩ := DataW.trod_int Try.underlying36 he
      refine ⟨z, ?_⟩
      have hc := hcell (i % 2) (by omega)
      have hcz : cs'[i % 2]? = some (.int .u64 z) := by
        have : ((cs'.drop (i % 2)).take 1)[0]? = some (.int .u64 z) := by rw [hz]; rfl
        simpa [List.getElem?_take, List.getElem?_drop] using this
      rw [hcz] at hc
      have e : (x.add (i / 2 * 2)).add (i % 2) = x.add i := by
        rw [← show i / 2 * 2 + i % 2 = i from by omega]
        have e3 : (i / 2 * 2 + i % 2) / 2 * 2 = i / 2 * 2 := by omega
        have e4 : (i / 2 * 2 + i % 2) % 2 = i % 2 := by omega
        rw [e3, e4, Addr.add_add]
      rw [← e]
      exact hc
    obtain ⟨X, hX⟩ := choose_lt each
    refine ⟨X, _, _, rfl, fun hp => ?_⟩
    obtain ⟨b, off, spot⟩ := x
    have h0 := hX 0 (by omega)
    have hspot : spot = none := by simpa [Addr.add] using World.cell?_spot h0
    subst hspot
    have hlt := World.block_lt_of_cell? _ _ h0
    have hadd : ∀ i, (⟨b, off, none⟩ : Addr).add i = ⟨b, off + i, none⟩ := fun i => by simp [Addr.add]
    rw [hadd] at hlt
    exact ⟨b, off, rfl, hlt, fun i hi => by rw [← hadd]; exact hX i hi⟩

theorem rows_of_trod {W : World} {a : Option Addr} {len cap : Nat} {d : DataW H} {p : List MemPlace} (h : DataW.Trod enc Try.prog W 0 (fun _ => true) true 23 (.slice a len cap) d p) :
    ∃ L Z, RowsAt W.heap.size W (.slice a len cap) len L Z := by
  obtain ⟨fuel, hf⟩ := h
  rcases open_int_rows Try.underlying23 Try.underlying31 Try.underlying3 cells31 cells3 hf with ⟨hcs, _⟩ | ⟨x, l, c, A, L, C, Z, hcs, _, hl, hm, _, hx⟩
  · simp [Value.cells] at hcs
    obtain ⟨rfl, rfl, rfl⟩ := hcs
    exact ⟨fun _ => 0, fun _ _ => 0, _, _, rfl, by omega, fun h => absurd h (Nat.lt_irrefl _)⟩
  · simp [Value.cells] at hcs
    obtain ⟨rfl, rfl, rfl⟩ := hcs
    unfold maxLen at hm
    refine ⟨L, fun r i => (Z r).getD i 0, _, _, rfl, by omega, fun hp => ?_⟩
    obtain ⟨b, off, spot⟩ := x
    have h0 := (hx 0 (by omega)).1
    have hspot : spot = none := by simpa [Addr.add] using World.cell?_spot h0
    subst hspot
    have hlt := World.block_lt_of_cell? _ _ h0
    have hadd : ∀ (b off i : Nat), (⟨b, off, none⟩ : Addr).add i = ⟨b, off + i, none⟩ := fun b off i => by simp [Addr.add]
    rw [hadd] at hlt
    refine ⟨b, off, rfl, hlt, fun r hr => ?_⟩
    obtain ⟨c1, c2, c3, c4, c5, c6, c7⟩ := hx r (by omega)
    rw [hadd] at c1
    unfold maxLen at c3
    refine ⟨_, c1, _, _, rfl, by omega, fun hL => ?_⟩
    cases hA : A r with
    | none => have := c6 hA; omega
    | some a' =>
      obtain ⟨_, c8⟩ := c7 a' hA
      obtain ⟨b', off', spot'⟩ := a'
      have g0 := c8 0 (by omega)
      have hsp : spot' = none := by simpa [Addr.add] using World.cell?_spot g0
      subst hsp
      have hlt' := World.block_lt_of_cell? _ _ g0
      rw [hadd] at hlt'
      exact ⟨b', off', rfl, hlt', fun i hi => by rw [← hadd]; exact c8 i (by omega)⟩
end
end Go.Proofs.Qxb6601668a
