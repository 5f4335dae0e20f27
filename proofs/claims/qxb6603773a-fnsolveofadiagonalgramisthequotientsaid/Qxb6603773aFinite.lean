/-
  finite: the walk.
-/
import Derived.Test.Qxb6603773aRows
import Derived.Test.Qxb6603773aRound
import Derived.ProofKit
import Derived.Below
import Derived.Deep.LoopGhost
import Derived.Deep.OwnRows
import Derived.BigQuiet
import Derived.Deep.QuietTactic
namespace Go.Proofs.Qxb6603773a
open Go.RowKit

theorem nan_word {s : Bool} {r : Nat} (h1 : 9218868437227405312 < r) (h2 : r < 9223372036854775808) : isNan (D.word s r) = true := by
  unfold isNan
  rw [read_word s h2, if_neg (by omega), if_neg (by omega)]

theorem nan_order {x : Nat} (h : isNan x = true) (y : Nat) : D.order x y = none := by
  unfold isNan at h
  unfold Ieee.Format.order
  cases e : D.read x with
  | number s m i => rw [e] at h; cases h
  | infinity s => rw [e] at h; cases h
  | nan s f => cases D.read y <;> rfl

/-- A difference that has no answer: some NaN. -/
theorem run_sub_nan {P : Program} (w : World) (t : TypeId) (x y : Nat) (h : D.sub x y = none) : ∃ z, isNan z = true ∧ (binOp .sub t (.float .f64 x) (.float .f64 y)).run P w = .ok (.float .f64 z) w.drew := by
  have h' : FloatKind.f64.format.sub x y = none := h
  refine ⟨Question.cut (.nanBits .f64 x y) (w.tape w.drawn (.nanBits .f64 x y)), ?_, ?_⟩
  · generalize w.tape w.drawn (.nanBits .f64 x y) = t
    have e : Question.cut (.nanBits .f64 x y) t = D.word (decide (t % 2 = 1)) (9218868437227405313 + t / 2 % 4503599627370495) := by
      show t % 2 * 2 ^ 63 + 0x7ff0000000000000 + 1 + t / 2 % (2 ^ 52 - 1) = _
      unfold Ieee.Format.word
      rw [D_sign]
      by_cases hp : t % 2 = 1
      · simp [hp]; omega
      · have : t % 2 = 0 := by omega
        simp [this]
    rw [e]
    exact nan_word (by omega) (by omega)
  · simp [binOp, Op.floatArith, h', Question.forced]

set_option maxRecDepth 100000 in
theorem finite_any (x : Nat) (w : World) : Calls Try.prog 6 #[.float .f64 x] w fun e w' => e = .returned (.bool (isNum x)) ∧ Below w.heap.size w w' := by
  cases h : isNum x with
  | true =>
    have h1 := fun w => run_float_arith (P := Try.prog) w .sub 22 .f64 x x 0 (sub_self h)
    have h2 : (FloatKind.f64.format.order 0 0 == some .eq) = true := by decide
    go_enter Try.func6, Try.ntmps6
    go_wp2
    go_ret
    exact ⟨rfl, Below.refl _ _⟩
  | false =>
    obtain ⟨z, hz, hrun⟩ := run_sub_nan (P := Try.prog) w 22 x x (sub_self_none h)
    have h2 : (FloatKind.f64.format.order z 0 == some .eq) = false := by
      have : FloatKind.f64.format.order z 0 = none := nan_order hz 0
      rw [this]; rfl
    go_enter Try.func6, Try.ntmps6
    go_wp2
    go_ret
    exact ⟨rfl, (Below.refl _ _).drew⟩
end Go.Proofs.Qxb6603773a
