/-
  Whole arrays of floats, told by a function of the index; a load of a part of a block.
-/
import Derived.Test.Qxb6603773aFinite
namespace Go.Proofs.Qxb6603773a
open Go.RowKit

/-- n floats. -/
def fa (n : Nat) (f : Nat → Nat) : Array Value := ((List.range n).map fun i => Value.float .f64 (f i)).toArray
theorem fa_size (n : Nat) (f : Nat → Nat) : (fa n f).size = n := by simp [fa]
theorem fa_get {n : Nat} (f : Nat → Nat) {i : Nat} (h : i < n) : (fa n f)[i]? = some (.float .f64 (f i)) := by simp [fa, h]
theorem fa_one (n : Nat) (f : Nat → Nat) : (fa n f).all (·.oneCell') = true := by
  rw [Array.all_eq_true_iff_forall_mem]
  intro v hv
  simp [fa] at hv
  obtain ⟨i, _, rfl⟩ := hv
  rfl
theorem fa_ext {c : Array Value} {n : Nat} {f : Nat → Nat} (hs : c.size = n) (h : ∀ i, i < n → c[i]? = some (.float .f64 (f i))) : c = fa n f := by
  apply Array.ext_getElem?
  intro i
  by_cases hi : i < n
  · rw [h i hi, fa_get f hi]
  · rw [Array.getElem?_eq_none (by omega), Array.getElem?_eq_none (by rw [fa_size]; omega)]

theorem fa_row (w : World) (n : Nat) (f : Nat → Nat) (t : TypeId) : (w.alloc (.cells (fa n f) t)).rowIs w.heap.size t n (fun i => .float .f64 (f i)) := by
  have h := World.rowIs_alloc w (fa n f) t (fun i => .float .f64 (f i)) (fun i hi => fa_get f (by rwa [fa_size] at hi))
  rwa [fa_size] at h

theorem row_fa {w : World} {b : Nat} {t : TypeId} {n : Nat} {f : Nat → Nat} (h : w.rowIs b t n (fun i => .float .f64 (f i))) : w.heap[b]? = some (.cells (fa n f) t (0, 0)) := by
  obtain ⟨c, hb, hs, hc⟩ := h
  rw [hb, fa_ext hs hc]

section
variable {P : Program}
theorem run_loadVar_cells (w : World) (g off : Nat) (ty : TypeId) (cs : Array Value) (d : TypeDesc) (hc : ∀ j v, cs[j]? = some v → w.cell? ⟨g, off + j, none⟩ = some v)
    (hu : P.underlying ty = some d) (hd : (match d with | .struct _ | .array _ _ => true | _ => false) = true) (hi : (P.info? ty).map (·.size) = some cs.size) :
    (loadVar ty ⟨g, off, none⟩).run P w = .ok (.agg cs) w := by
  have hl : (loadCells ⟨g, off, none⟩ cs.toList.length).run P w = .ok cs.toList.toArray w :=
    run_loadCells_list (P := P) w ⟨g, off, none⟩ cs.toList (fun j v hv => by
      have hadd : (⟨g, off, none⟩ : Addr).add j = ⟨g, off + j, none⟩ := by simp [Addr.add]
      rw [hadd]
      exact hc j v (by simpa using hv))
  cases hq : P.info? ty with
  | none => simp [hq] at hi
  | some i =>
    have hs : i.size = cs.size := by simpa [hq] using hi
    have hagg : (isAgg ty).run P w = .ok true w := by
      unfold isAgg
      rw [Sem.run_bind, run_underlying hu w]
      cases d <;> simp_all
    simp only [Array.length_toList, Array.toArray_toList] at hl
    simp [loadVar, Sem.run_bind, hagg, sizeOf, typeInfo, hq, hs, hl]

theorem wpList_load_cells {ops : Array Oper} {rest : List Oper} {o : Oper} {a : Act} {w : World} {Q : Exit → Act → World → Prop} (hgd : o.guard = none) (ty : TypeId) (x : Operand) (ho : o.op = .load ty x)
    (g off : Nat) (hx : a.eval x = .pointer (some ⟨g, off, none⟩)) (cs : Array Value) (d : TypeDesc) (hc : ∀ j v, cs[j]? = some v → w.cell? ⟨g, off + j, none⟩ = some v)
    (hu : P.underlying ty = some d) (hd : (match d with | .struct _ | .array _ _ => true | _ => false) = true) (hi : (P.info? ty).map (·.size) = some cs.size)
    (h : wpList P ops Q rest (a.put o.dst (.agg cs)) w) : wpList P ops Q (o :: rest) a w :=
  wpList_plain hgd fun _ hK => by
    unfold Oper.wp execOp
    simp only [ho, hx, Instr.loadAt, Instr.sureAddr, Sem.run_bind, Sem.run_pure, Result.andThen_ok, run_loadVar_cells w g off ty cs d hc hu hd hi]
    exact hK _ _ h
end

theorem size24 (f : Nat → Nat) : (Try.prog.info? 24).map (·.size) = some (fa 25 f).size := by rw [fa_size]; kernel_rfl
theorem size23 (f : Nat → Nat) : (Try.prog.info? 23).map (·.size) = some (fa 5 f).size := by rw [fa_size]; kernel_rfl

theorem cells_of_row {w : World} {g t n off m : Nat} {f : Nat → Nat} {F : Nat → Value} (h : w.rowIs g t n F) (hn : off + m ≤ n) (hF : ∀ i, i < m → F (off + i) = .float .f64 (f i)) : ∀ j v, (fa m f)[j]? = some v → w.cell? ⟨g, off + j, none⟩ = some v := by
  intro j v hv
  by_cases hj : j < m
  · rw [fa_get f hj] at hv
    have := h.cell (i := off + j) (by omega)
    rw [this, hF j hj]
    exact hv
  · rw [Array.getElem?_eq_none (by rw [fa_size]; omega)] at hv
    cases hv
end Go.Proofs.Qxb6603773a
