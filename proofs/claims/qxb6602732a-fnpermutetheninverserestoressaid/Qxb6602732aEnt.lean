/-
  permute: the entries' cells, and the walk.
-/
import Derived.Test.Qxb6602732aPrefix
import Derived.Test.Qxb6602732aPlain
namespace Go.Proofs.Qxb6602732a
open Go.RowKit

/-- An entry's cells: a name, and ten cells that stay at their zero values. -/
def entF (S : Nat → ByteArray) (i : Nat) : Value :=
  if i % 11 = 0 then .string (S (i / 11)) else if i % 11 = 1 then .int .u8 0 else if i % 11 = 2 then .bool false else if i % 11 = 3 then .int .u64 0 else if i % 11 = 4 then .slice none 0 0 else if i % 11 = 5 then .pointer none else if i % 11 = 6 then .int .u8 0 else if i % 11 = 7 then .bool false else if i % 11 = 8 then .int .u64 0 else if i % 11 = 9 then .slice none 0 0 else .pointer none

theorem entF_0 (S : Nat → ByteArray) (k : Nat) : entF S (k * 11) = .string (S k) := by
  unfold entF
  rw [if_pos (by omega), show k * 11 / 11 = k by omega]
theorem entF_1 (S : Nat → ByteArray) (k : Nat) : entF S (k * 11 + 1) = .int .u8 0 := by
  unfold entF
  have h : (k * 11 + 1) % 11 = 1 := by omega
  rw [h]; rfl
theorem entF_2 (S : Nat → ByteArray) (k : Nat) : entF S (k * 11 + 2) = .bool false := by
  unfold entF
  have h : (k * 11 + 2) % 11 = 2 := by omega
  rw [h]; rfl
theorem entF_3 (S : Nat → ByteArray) (k : Nat) : entF S (k * 11 + 3) = .int .u64 0 := by
  unfold entF
  have h : (k * 11 + 3) % 11 = 3 := by omega
  rw [h]; rfl
theorem entF_4 (S : Nat → ByteArray) (k : Nat) : entF S (k * 11 + 4) = .slice none 0 0 := by
  unfold entF
  have h : (k * 11 + 4) % 11 = 4 := by omega
  rw [h]; rfl
theorem entF_5 (S : Nat → ByteArray) (k : Nat) : entF S (k * 11 + 5) = .pointer none := by
  unfold entF
  have h : (k * 11 + 5) % 11 = 5 := by omega
  rw [h]; rfl
theorem entF_6 (S : Nat → ByteArray) (k : Nat) : entF S (k * 11 + 6) = .int .u8 0 := by
  unfold entF
  have h : (k * 11 + 6) % 11 = 6 := by omega
  rw [h]; rfl
theorem entF_7 (S : Nat → ByteArray) (k : Nat) : entF S (k * 11 + 7) = .bool false := by
  unfold entF
  have h : (k * 11 + 7) % 11 = 7 := by omega
  rw [h]; rfl
theorem entF_8 (S : Nat → ByteArray) (k : Nat) : entF S (k * 11 + 8) = .int .u64 0 := by
  unfold entF
  have h : (k * 11 + 8) % 11 = 8 := by omega
  rw [h]; rfl
theorem entF_9 (S : Nat → ByteArray) (k : Nat) : entF S (k * 11 + 9) = .slice none 0 0 := by
  unfold entF
  have h : (k * 11 + 9) % 11 = 9 := by omega
  rw [h]; rfl
theorem entF_10 (S : Nat → ByteArray) (k : Nat) : entF S (k * 11 + 10) = .pointer none := by
  unfold entF
  have h : (k * 11 + 10) % 11 = 10 := by omega
  rw [h]; rfl

theorem ent_cells {w : World} {b n : Nat} {S : Nat → ByteArray} (h : w.rowIs b 54 (n * 11) (entF S)) {k : Nat} (hk : k < n) :
    w.cell? ⟨b, k * 11, none⟩ = some (.string (S k)) ∧ w.cell? ⟨b, k * 11 + 1, none⟩ = some (.int .u8 0) ∧ w.cell? ⟨b, k * 11 + 2, none⟩ = some (.bool false) ∧ w.cell? ⟨b, k * 11 + 3, none⟩ = some (.int .u64 0) ∧ w.cell? ⟨b, k * 11 + 4, none⟩ = some (.slice none 0 0) ∧ w.cell? ⟨b, k * 11 + 5, none⟩ = some (.pointer none) ∧ w.cell? ⟨b, k * 11 + 6, none⟩ = some (.int .u8 0) ∧ w.cell? ⟨b, k * 11 + 7, none⟩ = some (.bool false) ∧ w.cell? ⟨b, k * 11 + 8, none⟩ = some (.int .u64 0) ∧ w.cell? ⟨b, k * 11 + 9, none⟩ = some (.slice none 0 0) ∧ w.cell? ⟨b, k * 11 + 10, none⟩ = some (.pointer none) := by
  refine ⟨?_, ?_, ?_, ?_, ?_, ?_, ?_, ?_, ?_, ?_, ?_⟩
  · have := h.cell (i := k * 11) (by omega); rwa [entF_0] at this
  · have := h.cell (i := k * 11 + 1) (by omega); rwa [entF_1] at this
  · have := h.cell (i := k * 11 + 2) (by omega); rwa [entF_2] at this
  · have := h.cell (i := k * 11 + 3) (by omega); rwa [entF_3] at this
  · have := h.cell (i := k * 11 + 4) (by omega); rwa [entF_4] at this
  · have := h.cell (i := k * 11 + 5) (by omega); rwa [entF_5] at this
  · have := h.cell (i := k * 11 + 6) (by omega); rwa [entF_6] at this
  · have := h.cell (i := k * 11 + 7) (by omega); rwa [entF_7] at this
  · have := h.cell (i := k * 11 + 8) (by omega); rwa [entF_8] at this
  · have := h.cell (i := k * 11 + 9) (by omega); rwa [entF_9] at this
  · have := h.cell (i := k * 11 + 10) (by omega); rwa [entF_10] at this

theorem ent_free {w : World} {b n : Nat} {f : Nat → Value} (h : w.rowIs b 54 n f) (k : Nat) :
    w.frozen? ⟨b, k * 11, none⟩ = false ∧ w.frozen? ⟨b, k * 11 + 1, none⟩ = false ∧ w.frozen? ⟨b, k * 11 + 2, none⟩ = false ∧ w.frozen? ⟨b, k * 11 + 3, none⟩ = false ∧ w.frozen? ⟨b, k * 11 + 4, none⟩ = false ∧ w.frozen? ⟨b, k * 11 + 5, none⟩ = false ∧ w.frozen? ⟨b, k * 11 + 6, none⟩ = false ∧ w.frozen? ⟨b, k * 11 + 7, none⟩ = false ∧ w.frozen? ⟨b, k * 11 + 8, none⟩ = false ∧ w.frozen? ⟨b, k * 11 + 9, none⟩ = false ∧ w.frozen? ⟨b, k * 11 + 10, none⟩ = false :=
  ⟨h.frozen _, h.frozen _, h.frozen _, h.frozen _, h.frozen _, h.frozen _, h.frozen _, h.frozen _, h.frozen _, h.frozen _, h.frozen _⟩

theorem ent_store {w : World} {b n : Nat} {S : Nat → ByteArray} (h : w.rowIs b 54 (n * 11) (entF S)) (k : Nat) (s : ByteArray) :
    (((((((((((w.setCell ⟨b, k * 11, none⟩ (.string s)).setCell ⟨b, k * 11 + 1, none⟩ (.int .u8 0)).setCell ⟨b, k * 11 + 2, none⟩ (.bool false)).setCell ⟨b, k * 11 + 3, none⟩ (.int .u64 0)).setCell ⟨b, k * 11 + 4, none⟩ (.slice none 0 0)).setCell ⟨b, k * 11 + 5, none⟩ (.pointer none)).setCell ⟨b, k * 11 + 6, none⟩ (.int .u8 0)).setCell ⟨b, k * 11 + 7, none⟩ (.bool false)).setCell ⟨b, k * 11 + 8, none⟩ (.int .u64 0)).setCell ⟨b, k * 11 + 9, none⟩ (.slice none 0 0)).setCell ⟨b, k * 11 + 10, none⟩ (.pointer none)).rowIs b 54 (n * 11) (entF (fun t => if t = k then s else S t)) := by
  refine (((((((((((h.set _ _).set _ _).set _ _).set _ _).set _ _).set _ _).set _ _).set _ _).set _ _).set _ _).set _ _).congr (fun i _ => ?_)
  by_cases e : i / 11 = k
  · have hm : i % 11 = 0 ∨ i % 11 = 1 ∨ i % 11 = 2 ∨ i % 11 = 3 ∨ i % 11 = 4 ∨ i % 11 = 5 ∨ i % 11 = 6 ∨ i % 11 = 7 ∨ i % 11 = 8 ∨ i % 11 = 9 ∨ i % 11 = 10 := by omega
    have hi : i = k * 11 + i % 11 := by omega
    rcases hm with r | r | r | r | r | r | r | r | r | r | r
    · rw [r] at hi; subst hi; simp [entF_0]
    · rw [r] at hi; subst hi; simp [entF_1]
    · rw [r] at hi; subst hi; simp [entF_2]
    · rw [r] at hi; subst hi; simp [entF_3]
    · rw [r] at hi; subst hi; simp [entF_4]
    · rw [r] at hi; subst hi; simp [entF_5]
    · rw [r] at hi; subst hi; simp [entF_6]
    · rw [r] at hi; subst hi; simp [entF_7]
    · rw [r] at hi; subst hi; simp [entF_8]
    · rw [r] at hi; subst hi; simp [entF_9]
    · rw [r] at hi; subst hi; simp [entF_10]
  · have hS : entF (fun t => if t = k then s else S t) i = entF S i := by
      unfold entF
      simp only [if_neg e]
    rw [hS]
    rw [if_neg (show ¬ i = k * 11 + 10 by omega)]
    rw [if_neg (show ¬ i = k * 11 + 9 by omega)]
    rw [if_neg (show ¬ i = k * 11 + 8 by omega)]
    rw [if_neg (show ¬ i = k * 11 + 7 by omega)]
    rw [if_neg (show ¬ i = k * 11 + 6 by omega)]
    rw [if_neg (show ¬ i = k * 11 + 5 by omega)]
    rw [if_neg (show ¬ i = k * 11 + 4 by omega)]
    rw [if_neg (show ¬ i = k * 11 + 3 by omega)]
    rw [if_neg (show ¬ i = k * 11 + 2 by omega)]
    rw [if_neg (show ¬ i = k * 11 + 1 by omega)]
    rw [if_neg (show ¬ i = k * 11 by omega)]
end Go.Proofs.Qxb6602732a
