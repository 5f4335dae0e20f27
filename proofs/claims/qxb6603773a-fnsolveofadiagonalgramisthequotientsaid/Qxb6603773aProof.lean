/-
  FnSolveOfADiagonalGramIsTheQuotient: the statement.
-/
import Derived.Test.Qxb6603773aRows
import Derived.Test.Qxb6603773aLaw
import Derived.OpenShut
import Derived.ShutString
import Derived.ChangeOld
namespace Go.Proofs.Qxb6603773a
open Go.ChangeShapes Go.WideShapes Go.ChangeAt Go.RowKit

theorem own : ownKnob Try.prog.godebug = none := by kernel_rfl
theorem laidOut : laidOutB Try.prog = true := by kernel_rfl
theorem cells22 : Try.prog.cellsOf 22 = 1 := by kernel_rfl
theorem cells23 : Try.prog.cellsOf 23 = 5 := by kernel_rfl
theorem cells24 : Try.prog.cellsOf 24 = 25 := by kernel_rfl

section
variable {H : Type} {enc : TypeId × Value → H}

theorem trod_flt {P : Program} {w : World} {base : Nat} {spare : Nat → Bool} {held : Bool} {fuel : Nat} {t : TypeId} {cs : List Value} {x : DataW H × List MemPlace} (ht : P.underlying t = some (.float .f64))
    (h : DataW.trod enc P w base spare held fuel t cs = some x) : ∃ n, cs = [.float .f64 n] ∧ n < 18446744073709551616 := by
  cases fuel with
  | zero => simp [DataW.trod] at h
  | succ n =>
    unfold DataW.trod at h
    rw [ht] at h
    split at h <;> simp_all
    rename_i _ _ k k' b e
    subst e
    simpa [Lit.wf] using h.1.2

theorem five {W : World} {m : Nat} {cs : List Value} {y : DataW H × List MemPlace} (h : DataW.trod enc Try.prog W 0 (fun _ => true) true m 23 cs = some y) (i : Nat) (hi : i < 5) :
    ∃ n, cs[i]? = some (.float .f64 n) ∧ n < 18446744073709551616 := by
  obtain ⟨xs, q, _, _, _, hxs, hel⟩ := DataW.trod_array Try.underlying23 h
  have he := hel i hi
  rw [cells22, Nat.mul_one] at he
  obtain ⟨y, hy⟩ : ∃ y, xs[i]? = some y := ⟨xs[i]'(by omega), by simp⟩
  rw [hy] at he
  obtain ⟨z, hz, hlt⟩ := trod_flt Try.underlying22 he
  refine ⟨z, ?_, hlt⟩
  have : ((cs.drop i).take 1)[0]? = some (.float .f64 z) := by rw [hz]; rfl
  simpa [List.getElem?_take, List.getElem?_drop] using this

theorem choose_bits {c : Array Value} {n : Nat} (hs : c.size = n) (h : ∀ i, i < n → ∃ x, c[i]? = some (.float .f64 x) ∧ x < 18446744073709551616) :
    ∃ f : Nat → Nat, (∀ i, i < n → f i < 18446744073709551616) ∧ c = fa n f := by
  refine ⟨fun i => if hi : i < n then (h i hi).choose else 0, fun i hi => ?_, fa_ext hs (fun i hi => ?_)⟩
  · simp only [dif_pos hi]; exact (h i hi).choose_spec.2
  · simp only [dif_pos hi]; exact (h i hi).choose_spec.1

theorem vec_of_trod {W : World} {base : Nat} {v : Value} {d : DataW H} {p : List MemPlace} (hok : Value.okWide Try.prog W .any base 23 v) (h : DataW.Trod enc Try.prog W 0 (fun _ => true) true 23 v d p) :
    ∃ f : Nat → Nat, (∀ i, i < 5 → f i < 18446744073709551616) ∧ v = .agg (fa 5 f) := by
  simp only [Value.okWide, Try.underlying23] at hok
  obtain ⟨c, rfl, hs, _⟩ := hok
  rw [cells23] at hs
  obtain ⟨fuel, hf⟩ := h
  obtain ⟨f, h1, h2⟩ := choose_bits hs (fun i hi => by simpa [Value.cells] using five hf i hi)
  exact ⟨f, h1, by rw [h2]⟩

theorem mat_of_trod {W : World} {base : Nat} {v : Value} {d : DataW H} {p : List MemPlace} (hok : Value.okWide Try.prog W .any base 24 v) (h : DataW.Trod enc Try.prog W 0 (fun _ => true) true 24 v d p) :
    ∃ f : Nat → Nat, (∀ i, i < 25 → f i < 18446744073709551616) ∧ v = .agg (fa 25 f) := by
  simp only [Value.okWide, Try.underlying24] at hok
  obtain ⟨c, rfl, hs, _⟩ := hok
  rw [cells24] at hs
  obtain ⟨fuel, hf⟩ := h
  obtain ⟨xs, q, _, _, _, hxs, hel⟩ := DataW.trod_array Try.underlying24 hf
  obtain ⟨f, h1, h2⟩ := choose_bits hs (fun i hi => by
    have he := hel (i / 5) (by omega)
    rw [cells23] at he
    obtain ⟨y, hy⟩ : ∃ y, xs[i / 5]? = some y := ⟨xs[i / 5]'(by omega), by simp⟩
    rw [hy] at he
    obtain ⟨n, hn, hlt⟩ := five he (i % 5) (by omega)
    refine ⟨n, ?_, hlt⟩
    rw [List.getElem?_take, if_pos (by omega), List.getElem?_drop, show i / 5 * 5 + i % 5 = i from by omega] at hn
    simpa [Value.cells] using hn)
  exact ⟨f, h1, by rw [h2]⟩
end

set_option maxRecDepth 100000 in
theorem lifted (os : Os) (started : os.Started) (H : Type) (enc : TypeId × Value → H) :
    ReturnsInHanded {} Try.checked os 4 .any (Rows.fnSolveOfADiagonalGramIsTheQuotientSpec.pre6 enc Try.prog Try.f4 Rows.fnSolveOfADiagonalGramIsTheQuotientRow.domain false) (Rows.fnSolveOfADiagonalGramIsTheQuotientSpec.post enc Try.prog Try.f4 false true false false) := by
  refine returnsInHanded_of_change (C := Try.checked) own started (by kernel_rfl) Try.func4
    (ChangeSpec.witness6 (enc := enc) (C := Try.checked) false ⟨#[], #[.agg (Array.replicate 25 (.float .f64 0)), .agg (Array.replicate 5 (.float .f64 0)), .agg (Array.replicate 5 (.float .f64 0))], []⟩ 8 (by kernel_rfl) (by kernel_rfl) (by kernel_rfl) (by kernel_rfl)) ?_
  intro W base args ds gs before hval0 hW hcnd _
  have hval : ∀ (j : Nat) t v, Try.f4.params[j]? = some t → args[j]? = some v → Value.okWide Try.prog W .any base t v := hval0
  have hW' := hW
  obtain ⟨p, q, hA0, hV, rfl, hfz, hnd⟩ := hW
  have hA : DataW.TrodAll enc Try.prog W 0 (fun _ => true) true Try.f4.params.toList args.toList ds p := hA0
  rw [Try.params4] at hA hval
  obtain ⟨v0, vs0, d0, ds0, p0, q0, hargs, rfl, rfl, h0, r0⟩ := trodAll_cons hA
  obtain ⟨v1, vs1, d1, ds1, p1, q1, rfl, rfl, rfl, h1, r1⟩ := trodAll_cons r0
  obtain ⟨v2, vs2, d2, ds2, p2, q2, rfl, rfl, rfl, h2, r2⟩ := trodAll_cons r1
  obtain ⟨rfl, rfl, rfl⟩ := trodAll_nil r2
  obtain rfl : args = #[v0, v1, v2] := by cases args; simp_all
  obtain ⟨rfl, rfl⟩ := trodVars_none hV
  have lt0 : ∀ x ∈ p0, x.block < W.heap.size := by obtain ⟨m, hm⟩ := h0; exact DataW.trod_lt m _ _ _ hm
  have lt1 : ∀ x ∈ p1, x.block < W.heap.size := by obtain ⟨m, hm⟩ := h1; exact DataW.trod_lt m _ _ _ hm
  have lt2 : ∀ x ∈ p2, x.block < W.heap.size := by obtain ⟨m, hm⟩ := h2; exact DataW.trod_lt m _ _ _ hm
  obtain ⟨G, hG, rfl⟩ := mat_of_trod (hval 0 24 v0 rfl rfl) h0
  obtain ⟨M, hM, rfl⟩ := vec_of_trod (hval 1 23 v1 rfl rfl) h1
  obtain ⟨b, hb, rfl⟩ := vec_of_trod (hval 2 23 v2 rfl rfl) h2
  clear hA0 hval0
  refine (law_any W G M b hG hb).mono fun e W' ⟨he, bel⟩ => ?_
  subst he
  exact ⟨_, rfl, _, _, _, [], _, [], hW', trodAll_mk1 (shut_bool Try.underlying4 _), (trodAll_cons_mk (Below.trod laidOut (by kernel_rfl) (of_decide_eq_true (by kernel_rfl)) h0 bel lt0) (trodAll_cons_mk (Below.trod laidOut (by kernel_rfl) (of_decide_eq_true (by kernel_rfl)) h1 bel lt1) (trodAll_cons_mk (Below.trod laidOut (by kernel_rfl) (of_decide_eq_true (by kernel_rfl)) h2 bel lt2) trodAll_mk0))), rfl, bel.frame _, fun h => by cases h⟩

theorem over : Rows.fnSolveOfADiagonalGramIsTheQuotientRow.holds Try.pinned (OpenSpec.ofChange Rows.fnSolveOfADiagonalGramIsTheQuotientSpec) :=
  OpenClaim.holds_of_wide 4 Try.f4 rfl rfl rfl rfl rfl rfl rfl ⟨rfl, rfl, rfl, rfl, rfl⟩ rfl rfl rfl rfl rfl (by kernel_rfl) Try.func4 (by kernel_rfl)
    (of_decide_eq_true (by kernel_rfl)) (by unfold Func.isWrapper; first | (rw [if_pos (by decide +kernel)]; kernel_rfl) | (rw [if_neg (by decide +kernel)]; exact ⟨rfl, rfl⟩))
    (fun os started H enc _ => lifted os started H enc)

/-- The statement. -/
theorem solve_proved : Rows.FnSolveOfADiagonalGramIsTheQuotientSaid := over
end Go.Proofs.Qxb6603773a
