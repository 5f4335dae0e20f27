/-
  The law's walk.
-/
import Derived.Test.Qxb6603773aFit
import Derived.Deep.RegionHeld
namespace Go.Proofs.Qxb6603773a
open Go.RowKit
attribute [local go_sem] run_store_flt

/-- The law has said true, and nothing of the caller's is touched. -/
def Holds (w : World) (e : Ending) (w' : World) : Prop := e = .returned (.bool true) ∧ Below w.heap.size w w'

/-- The law's own four blocks. -/
structure Box (w wr : World) (G M b W : Nat → Nat) : Prop where
  below : Below w.heap.size w wr
  rg : wr.rowIs w.heap.size 24 25 (fun i => .float .f64 (G i))
  rm : wr.rowIs (w.heap.size + 1) 23 5 (fun i => .float .f64 (M i))
  rb : wr.rowIs (w.heap.size + 1 + 1) 23 5 (fun i => .float .f64 (b i))
  rw_ : wr.rowIs (w.heap.size + 1 + 1 + 1) 23 5 (fun i => .float .f64 (W i))

theorem Box.drew {w wr : World} {G M b W : Nat → Nat} (h : Box w wr G M b W) : Box w wr.drew G M b W := ⟨h.below.drew, h.rg.drew, h.rm.drew, h.rb.drew, h.rw_.drew⟩
theorem Box.drewN {w wr : World} {G M b W : Nat → Nat} (h : Box w wr G M b W) (n : Nat) : Box w (wr.drewN n) G M b W := ⟨below_drewN h.below n, h.rg.of_block rfl, h.rm.of_block rfl, h.rb.of_block rfl, h.rw_.of_block rfl⟩
theorem Box.kept {w wr w' : World} {G M b W : Nat → Nat} (h : Box w wr G M b W) (hb : Below wr.heap.size wr w') : Box w w' G M b W :=
  ⟨h.below.trans (hb.mono h.below.size), h.rg.of_block (hb.block _ h.rg.lt), h.rm.of_block (hb.block _ h.rm.lt), h.rb.of_block (hb.block _ h.rb.lt), h.rw_.of_block (hb.block _ h.rw_.lt)⟩
theorem Box.setW {w wr : World} {G M b W : Nat → Nat} (h : Box w wr G M b W) (k y : Nat) : Box w (wr.setCell ⟨w.heap.size + 1 + 1 + 1, k, none⟩ (.float .f64 y)) G M b (fun i => if i = k then y else W i) :=
  ⟨h.below.setCell (by show w.heap.size ≤ w.heap.size + 1 + 1 + 1; omega) _, h.rg.setOther (by show w.heap.size ≠ w.heap.size + 1 + 1 + 1; omega) _, h.rm.setOther (by show w.heap.size + 1 ≠ w.heap.size + 1 + 1 + 1; omega) _, h.rb.setOther (by show w.heap.size + 1 + 1 ≠ w.heap.size + 1 + 1 + 1; omega) _,
    (h.rw_.set k _).congr (fun i _ => by by_cases e : i = k <;> simp [e])⟩

theorem box_start (w : World) (G M b : Nat → Nat) : Box w ((((w.alloc (.cells (fa 25 G) 24)).alloc (.cells (fa 5 M) 23)).alloc (.cells (fa 5 b) 23)).alloc (.cells #[.float .f64 0, .float .f64 0, .float .f64 0, .float .f64 0, .float .f64 0] 23)) G M b (fun _ => 0) := by
  have h1 := fa_row w 25 G 24
  have h2 := fa_row (w.alloc (.cells (fa 25 G) 24)) 5 M 23
  have h3 := fa_row ((w.alloc (.cells (fa 25 G) 24)).alloc (.cells (fa 5 M) 23)) 5 b 23
  have h4 := lit5 (((w.alloc (.cells (fa 25 G) 24)).alloc (.cells (fa 5 M) 23)).alloc (.cells (fa 5 b) 23)) (.float .f64 0) 23
  simp only [World.size_alloc] at h2 h3 h4
  refine ⟨((((Below.refl _ _).alloc (Nat.le_refl _) _).alloc (by simp) _).alloc (by simp; omega) _).alloc (by simp; omega) _, ((h1.alloc _).alloc _).alloc _, (h2.alloc _).alloc _, h3.alloc _, h4⟩

/-- What the first c rounds have let through. -/
def Upto (G b : Nat → Nat) (c : Nat) (W : Nat → Nat) : Prop :=
  (∀ i, i < c → isNan (G (i * 5 + i)) = false ∧ (∀ j, j < 5 → i ≠ j → isZer (G (i * 5 + j)) = true) ∧ isNum (b i) = true
    ∧ (posFin (G (i * 5 + i)) = true → floatBits .quo .f64 (b i) (G (i * 5 + i)) = some (W i) ∧ isNum (W i) = true) ∧ (posFin (G (i * 5 + i)) = false → W i = 0))
  ∧ ∀ i, c ≤ i → W i = 0

theorem Upto.skip {G b : Nat → Nat} {c : Nat} {W : Nat → Nat} (h : Upto G b c W) (h1 : isNan (G (c * 5 + c)) = false) (h2 : ∀ j, j < 5 → c ≠ j → isZer (G (c * 5 + j)) = true) (h3 : isNum (b c) = true) (hp : posFin (G (c * 5 + c)) = false) : Upto G b (c + 1) W :=
  ⟨fun i hi => by
    by_cases e : i = c
    · subst e
      exact ⟨h1, h2, h3, (fun hh => by rw [hp] at hh; cases hh), fun _ => h.2 i (Nat.le_refl _)⟩
    · exact h.1 i (by omega), fun i hi => h.2 i (by omega)⟩
theorem Upto.lay {G b : Nat → Nat} {c y : Nat} {W : Nat → Nat} (h : Upto G b c W) (h1 : isNan (G (c * 5 + c)) = false) (h2 : ∀ j, j < 5 → c ≠ j → isZer (G (c * 5 + j)) = true) (h3 : isNum (b c) = true) (hp : posFin (G (c * 5 + c)) = true)
    (hq : floatBits .quo .f64 (b c) (G (c * 5 + c)) = some y) (hy : isNum y = true) : Upto G b (c + 1) (fun i => if i = c then y else W i) :=
  ⟨fun i hi => by
    by_cases e : i = c
    · subst e
      simp only [if_true]
      exact ⟨h1, h2, h3, fun _ => ⟨hq, hy⟩, (fun hh => by rw [hp] at hh; cases hh)⟩
    · simp only [if_neg e]
      exact h.1 i (by omega), fun i hi => by
    simp only [if_neg (show ¬ i = c by omega)]
    exact h.2 i (by omega)⟩
theorem Upto.diag {G b W : Nat → Nat} (h : Upto G b 5 W) (hG : ∀ i, i < 25 → G i < 18446744073709551616) (hb : ∀ i, i < 5 → b i < 18446744073709551616) : Diag G b W :=
  ⟨hG, hb, fun i hi => (h.1 i hi).1, fun i j hi hj hij => (h.1 i hi).2.1 j hj hij, fun i hi => (h.1 i hi).2.2.1, fun i hi hp => (h.1 i hi).2.2.2.1 hp⟩

/-- What was asked for is what came, by Go's own equality. -/
theorem same_answer {G b W X : Nat → Nat} (h : Upto G b 5 W) (hO : Out G W X) {i : Nat} (hi : i < 5) : (FloatKind.f64.format.order (X i) (W i) != some .eq) = false := by
  have : D.order (X i) (W i) = some .eq := by
    have hu := h.1 i hi
    cases hp : posFin (G (i * 5 + i)) with
    | true =>
      rcases (hO i hi).1 hp with e | ⟨h1, h2⟩
      · rw [e]; exact order_self.2 (num_notNan (hu.2.2.2.1 hp).2)
      · exact order_zers h1 h2
    | false =>
      rw [(hO i hi).2 hp, hu.2.2.2.2 hp]
      exact order_zers zer_zero zer_zero
  have h2 : FloatKind.f64.format.order (X i) (W i) = some .eq := this
  rw [h2]; rfl

theorem quo_some {x d : Nat} (hx : isNum x = true) (hd : isNum d = true) (hz : isZer d = false) : ∃ y, floatBits .quo .f64 x d = some y := by
  obtain ⟨s, m, i, e⟩ := num_read hx
  obtain ⟨t, n, j, e2⟩ := num_read hd
  have hn := notzer_read e2 hz
  have : ∃ y, D.div x d = some y := by
    unfold Ieee.Format.div
    rw [e, e2]
    exact ⟨_, by simp only [Ieee.Datum.quotient, if_neg hn]; rfl⟩
  exact this

theorem bne_zero {x : Nat} : (FloatKind.f64.format.order x 0 != some .eq) = !isZer x := by
  have h := order_zero_eq (x := x)
  have e : FloatKind.f64.format.order x 0 = D.order x 0 := rfl
  rw [e]
  cases hz : isZer x with
  | true => rw [h.2 hz]; rfl
  | false =>
    have : D.order x 0 ≠ some .eq := fun hh => by rw [h.1 hh] at hz; cases hz
    simp [this]
theorem bne_self {x : Nat} : (FloatKind.f64.format.order x x != some .eq) = isNan x := by
  have h := order_self (x := x)
  have e : FloatKind.f64.format.order x x = D.order x x := rfl
  rw [e]
  cases hz : isNan x with
  | false => rw [h.2 hz]; rfl
  | true =>
    have : D.order x x ≠ some .eq := fun hh => by rw [h.1 hh] at hz; cases hz
    simp [this]

section
variable {P : Program}
theorem yieldsIf_cells {ops : Array Oper} {S : World → Prop} {op : Oper} {a : Act} (hw : Region.wanted op (yielded ops a.tmps) = true) (ty : TypeId) (x : Operand) (ho : op.op = .load ty x)
    (g : Nat) (hx : a.eval x = .pointer (some ⟨g, 0, none⟩)) (cs : Array Value) (d : TypeDesc) (hS : ∀ w, S w → ∀ j v, cs[j]? = some v → w.cell? ⟨g, 0 + j, none⟩ = some v)
    (hu : P.underlying ty = some d) (hd : (match d with | .struct _ | .array _ _ => true | _ => false) = true) (hi : (P.info? ty).map (·.size) = some cs.size) : YieldsIf P ops S op (.agg cs) a :=
  .inl ⟨hw, fun w hw' => by
    unfold execOp
    simp only [ho, hx, Instr.loadAt, Instr.sureAddr, Sem.run_bind, Sem.run_pure, Result.andThen_ok, run_loadVar_cells w g 0 ty cs d (hS w hw') hu hd hi]⟩
end

theorem Box.cg {w wr : World} {G M b W : Nat → Nat} (h : Box w wr G M b W) : ∀ j v, (fa 25 G)[j]? = some v → wr.cell? ⟨w.heap.size, 0 + j, none⟩ = some v := cells_of_row h.rg (by omega) (fun i _ => by rw [Nat.zero_add])
theorem Box.cm {w wr : World} {G M b W : Nat → Nat} (h : Box w wr G M b W) : ∀ j v, (fa 5 M)[j]? = some v → wr.cell? ⟨w.heap.size + 1, 0 + j, none⟩ = some v := cells_of_row h.rm (by omega) (fun i _ => by rw [Nat.zero_add])
theorem Box.cb {w wr : World} {G M b W : Nat → Nat} (h : Box w wr G M b W) : ∀ j v, (fa 5 b)[j]? = some v → wr.cell? ⟨w.heap.size + 1 + 1, 0 + j, none⟩ = some v := cells_of_row h.rb (by omega) (fun i _ => by rw [Nat.zero_add])
theorem Box.setRow {w wr : World} {G M b W : Nat → Nat} (h : Box w wr G M b W) {x : Nat} (hx : w.heap.size + 1 + 1 + 1 < x) (c : Array Value) : Box w (wr.setRow x c) G M b W :=
  ⟨h.below.trans ⟨rfl, rfl, rfl, by simp, fun k hk => setRow_other wr x k _ (by omega)⟩, h.rg.of_block (setRow_other wr x _ _ (by omega)), h.rm.of_block (setRow_other wr x _ _ (by omega)), h.rb.of_block (setRow_other wr x _ _ (by omega)), h.rw_.of_block (setRow_other wr x _ _ (by omega))⟩
theorem row_set {wr : World} {x : Nat} {old : Array Value} (X : Nat → Nat) (h : wr.heap[x]? = some (.cells old 23 (0, 0))) : (wr.setRow x (fa 5 X)).rowIs x 23 5 (fun i => .float .f64 (X i)) :=
  ⟨fa 5 X, setRow_heap wr x _ _ 23 _ h, fa_size _ _, fun _ hi => fa_get X hi⟩
theorem row_heap {wr : World} {x : Nat} {F : Nat → Value} (h : wr.rowIs x 23 5 F) : ∃ old, wr.heap[x]? = some (.cells old 23 (0, 0)) ∧ old.size = 5 := by
  obtain ⟨c, h1, h2, _⟩ := h
  exact ⟨c, h1, h2⟩
theorem Box.alloc {w wr : World} {G M b W : Nat → Nat} (h : Box w wr G M b W) (o : Obj) : Box w (wr.alloc o) G M b W :=
  ⟨h.below.alloc h.below.size o, h.rg.alloc o, h.rm.alloc o, h.rb.alloc o, h.rw_.alloc o⟩

set_option maxHeartbeats 4000000 in
set_option maxRecDepth 100000 in
theorem law_any (w : World) (G M b : Nat → Nat) (hG : ∀ i, i < 25 → G i < 18446744073709551616) (hb : ∀ i, i < 5 → b i < 18446744073709551616) :
    Calls Try.prog 4 #[.agg (fa 25 G), .agg (fa 5 M), .agg (fa 5 b)] w (Holds w) := by
  have HG : Hid (∀ i, i < 25 → G i < 18446744073709551616) := hG
  have HB : Hid (∀ i, i < 5 → b i < 18446744073709551616) := hb
  clear hG hb
  go_enter Try.func4, Try.ntmps4
  go_wp2
  have hM0 := box_start w G M b
  go_loopg [8] 5 (fun g i wr => ∃ (c : Nat) (W : Nat → Nat), c ≤ 5 ∧ g = 5 - c ∧ i = .int .i64 c ∧ Box w wr G M b W ∧ Hid (Upto G b c W))
  case atStart => exact ⟨0, fun _ => 0, Nat.zero_le _, rfl, rfl, hM0, fun i hi => by omega, fun _ _ => rfl⟩
  case round =>
    clear hM0
    obtain ⟨c, W, hc, rfl, rfl, hM, HU⟩ := hrel
    by_cases hlt : c < 5
    · have hdc : decide ((c : Int) < 5) = true := by simp; omega
      go_wp2
      go_loopg [9] 5 (fun g i wi => ∃ (k : Nat), k ≤ 5 ∧ g = 5 - k ∧ i = .int .i64 k ∧ Box w wi G M b W ∧ Hid (∀ j, j < k → c ≠ j → isZer (G (c * 5 + j)) = true))
      case atStart => exact ⟨0, Nat.zero_le _, rfl, rfl, hM, fun j hj => by omega⟩
      case round =>
        clear hM
        obtain ⟨k, hk5, rfl, rfl, hM, HK⟩ := hrel
        by_cases hltk : k < 5
        · have hdk : decide ((k : Int) < 5) = true := by simp; omega
          have cg : wr.cell? ⟨w.heap.size, c * 5 + k, none⟩ = some (.float .f64 (G (c * 5 + k))) := hM.rg.cell (by omega)
          by_cases hck : c = k
          · have hne : ((c : Int) != (k : Int)) = false := by simp; omega
            have HCK : Hid (c = k) := hck
            clear hck
            go_wp2
            go_roundg (5 - (k + 1))
            case measure => omega
            case rel => exact ⟨k + 1, by omega, rfl, by go_num, hM, fun j hj hcj => HK.out j (by have := HCK.out; omega) hcj⟩
          · have hne : ((c : Int) != (k : Int)) = true := by simp; omega
            have hz := bne_zero (x := G (c * 5 + k))
            cases hzz : isZer (G (c * 5 + k)) with
            | true =>
              rw [hzz] at hz
              have HZ : Hid (isZer (G (c * 5 + k)) = true) := hzz
              clear hzz hck
              go_wp2
              go_roundg (5 - (k + 1))
              case measure => omega
              case rel => exact ⟨k + 1, by omega, rfl, by go_num, hM, fun j hj hcj => by
                by_cases e : j = k
                · rw [e]; exact HZ.out
                · exact HK.out j (by omega) hcj⟩
            | false =>
              rw [hzz] at hz
              have HBl : Hid (Below w.heap.size w wr) := hM.below
              clear hzz hck hM
              go_wp2
              go_ret
              exact ⟨rfl, HBl.out⟩
        · have hk : k = 5 := by omega
          have HOff : Hid (∀ j, j < 5 → c ≠ j → isZer (G (c * 5 + j)) = true) := fun j hj => HK.out j (by omega)
          clear hk HK
          have cg : wr.cell? ⟨w.heap.size, c * 5 + c, none⟩ = some (.float .f64 (G (c * 5 + c))) := hM.rg.cell (by omega)
          have cb : wr.cell? ⟨w.heap.size + 1 + 1, c, none⟩ = some (.float .f64 (b c)) := hM.rb.cell hlt
          have hd := bne_self (x := G (c * 5 + c))
          cases hn : isNan (G (c * 5 + c)) with
          | true =>
            rw [hn] at hd
            have HBl : Hid (Below w.heap.size w wr) := hM.below
            clear hn hM
            go_wp2
            go_ret
            exact ⟨rfl, HBl.out⟩
          | false =>
            rw [hn] at hd
            have HN : Hid (isNan (G (c * 5 + c)) = false) := hn
            clear hn
            go_wp2_with fail
            refine (finite_any _ _).mono ?_
            rintro e w1 ⟨rfl, hb1⟩
            have hM1 := hM.kept hb1
            clear hb1 hM cg cb hd
            cases hbn : isNum (b c) with
            | false =>
              have HBl : Hid (Below w.heap.size w w1) := hM1.below
              clear hbn hM1
              go_wp2
              go_ret
              exact ⟨rfl, HBl.out⟩
            | true =>
              have HBN : Hid (isNum (b c) = true) := hbn
              have cb : w1.cell? ⟨w.heap.size + 1 + 1, c, none⟩ = some (.float .f64 (b c)) := hM1.rb.cell hlt
              clear hbn
              cases hgt : (FloatKind.f64.format.order (G (c * 5 + c)) 0 == some .gt) with
              | false =>
                have HP : Hid (posFin (G (c * 5 + c)) = false) := by
                  have h : (D.order (G (c * 5 + c)) 0 == some .gt) = false := hgt
                  show posFin _ = false
                  unfold posFin; rw [h, Bool.and_false]
                go_wp2
                go_roundg (5 - (c + 1))
                case measure => omega
                case rel => exact ⟨c + 1, W, by omega, rfl, by go_num, hM1, HU.out.skip HN.out HOff.out HBN.out HP.out⟩
              | true =>
                have HGT : Hid ((D.order (G (c * 5 + c)) 0 == some .gt) = true) := hgt
                go_wp2_with fail
                refine (finite_any _ _).mono ?_
                rintro e w2 ⟨rfl, hb2⟩
                have hM2 := hM1.kept hb2
                clear hb2 hM1 hgt cb
                cases hdn : isNum (G (c * 5 + c)) with
                | false =>
                  have HP : Hid (posFin (G (c * 5 + c)) = false) := by
                    show posFin _ = false
                    unfold posFin; rw [hdn, Bool.false_and]
                  clear hdn
                  go_wp2
                  go_roundg (5 - (c + 1))
                  case measure => omega
                  case rel => exact ⟨c + 1, W, by omega, rfl, by go_num, hM2, HU.out.skip HN.out HOff.out HBN.out HP.out⟩
                | true =>
                  have HP : Hid (posFin (G (c * 5 + c)) = true) := by
                    show posFin _ = true
                    unfold posFin; rw [hdn, HGT.out]; rfl
                  have cb : w2.cell? ⟨w.heap.size + 1 + 1, c, none⟩ = some (.float .f64 (b c)) := hM2.rb.cell hlt
                  obtain ⟨y, hq⟩ := quo_some HBN.out hdn (posFin_zer HP.out)
                  have HQ : Hid (floatBits .quo .f64 (b c) (G (c * 5 + c)) = some y) := hq
                  have hq1 := fun w => run_float_arith (P := Try.prog) w .quo 22 .f64 (b c) (G (c * 5 + c)) y hq
                  clear hdn hq
                  go_wp2_with fail
                  refine (finite_any _ _).mono ?_
                  rintro e w3 ⟨rfl, hb3⟩
                  have hM3 := hM2.kept hb3
                  clear hb3 hM2 hq1 cb
                  cases hy : isNum y with
                  | false =>
                    have HBl : Hid (Below w.heap.size w w3) := hM3.below
                    clear hy hM3
                    go_wp2
                    go_ret
                    exact ⟨rfl, HBl.out⟩
                  | true =>
                    have HY : Hid (isNum y = true) := hy
                    clear hy
                    have cw : w3.cell? ⟨w.heap.size + 1 + 1 + 1, c, none⟩ = some (.float .f64 (W c)) := hM3.rw_.cell hlt
                    have fw : w3.frozen? ⟨w.heap.size + 1 + 1 + 1, c, none⟩ = false := hM3.rw_.frozen _
                    have HM4 : Hid (Box w (w3.setCell ⟨w.heap.size + 1 + 1 + 1, c, none⟩ (.float .f64 y)) G M b (fun i => if i = c then y else W i)) := hM3.setW c y
                    clear hM3
                    go_wp2
                    go_roundg (5 - (c + 1))
                    case measure => omega
                    case rel => exact ⟨c + 1, _, by omega, rfl, by go_num, HM4.out, HU.out.lay HN.out HOff.out HBN.out HP.out HQ.out HY.out⟩
    · have hc5 : c = 5 := by omega
      subst hc5
      have HD : Hid (Diag G b W) := HU.out.diag HG.out HB.out
      clear hlt hc
      go_wp2
      refine wp_region_held_drew (S := fun w' => Box w w' G M b W) (by kernel_rfl) hM.drew (fun hS => ?_)
      refine wpAnyH_take (i := 0) rfl (by kernel_rfl) (by kernel_rfl) (by kernel_rfl) (fun _ _ _ h => h) (yieldsIf_cells (by rfl) 24 (.tmp 3) rfl w.heap.size rfl (fa 25 G) _ (fun _ h => Box.cg h) Try.underlying24 rfl (size24 G)) hS ?_
      refine wpAnyH_take (i := 1) rfl (by kernel_rfl) (by kernel_rfl) (by kernel_rfl) (fun _ _ _ h => h) (yieldsIf_cells (by rfl) 23 (.tmp 4) rfl (w.heap.size + 1) rfl (fa 5 M) _ (fun _ h => Box.cm h) Try.underlying23 rfl (size23 M)) hS ?_
      refine wpAnyH_take (i := 3) rfl (by kernel_rfl) (by kernel_rfl) (by kernel_rfl) (fun _ _ _ h => h) (yieldsIf_cells (by rfl) 23 (.tmp 5) rfl (w.heap.size + 1 + 1) rfl (fa 5 b) _ (fun _ h => Box.cb h) Try.underlying23 rfl (size23 b)) hS ?_
      refine wpAnyH_ready (rs := [2, 5]) (by kernel_rfl) (by simp) ?_
      have hMw0 := hS
      obtain ⟨w0, hw0⟩ : ∃ w0, w0 = wr.drew := ⟨_, rfl⟩
      rw [← hw0] at hMw0 ⊢
      clear hS hM hw0
      refine AllReadyH.cons rfl (fun K hK => ?_) (AllReadyH.cons rfl (fun K hK => ?_) AllReadyH.nil)
      · skip
        go_simp
        refine (newFit_any _ _ _).mono ?_
        rintro e w1 ⟨fb, F, rfl, hfit, hF, hbw1⟩
        have hMw1 := hMw0.kept hbw1
        refine hK.out _ _ hMw1 (fun _ => ?_)
        clear hK K
        refine wpAnyH_ready (rs := [4, 5]) (by kernel_rfl) (by simp) ?_
        refine AllReadyH.cons rfl (fun K hK => ?_) (AllReadyH.cons rfl (fun K hK => ?_) AllReadyH.nil)
        · skip
          go_simp
          refine (fitSolve_any hfit hF HD.out).mono ?_
          rintro e w2 ⟨X, rfl, hO, hbw2⟩
          have hMw2 := hMw1.kept hbw2
          refine hK.out _ _ hMw2 (fun _ => ?_)
          clear hK K
          refine wpAnyH_ready (rs := [5]) (by kernel_rfl) (by simp) ?_
          refine AllReadyH.cons rfl (fun K hK => ?_) AllReadyH.nil
          go_simp
          have hMw3 := hMw2.alloc (.cells #[.float .f64 0, .float .f64 0, .float .f64 0, .float .f64 0, .float .f64 0] 23)
          have hX0 := lit5 w2 (.float .f64 0) 23
          have hxl := hMw2.rw_.lt
          refine hK.out _ _ hMw3 (fun _ => ?_)
          clear hK K
          refine wpAnyH_ready (rs := [6]) (by kernel_rfl) (by simp) ?_
          refine AllReadyH.cons rfl (fun K hK => ?_) AllReadyH.nil
          obtain ⟨old, hxh, hxs⟩ := row_heap hX0
          have hE := hMw3.setRow (x := w2.heap.size) (by omega) (fa 5 X)
          have hX := row_set X hxh
          rw [if_pos (by rfl)]
          refine wp_store_row 23 (.tmp 12) (.tmp 69) rfl (w2.heap.size) (fa 5 X) rfl rfl 23 old hxh (size23 X) (by rw [fa_size]; exact hxs) (fa_one 5 X) ?_
          refine hK.out _ _ hE (fun _ => ?_)
          clear hK K
          refine wpAnyH_done (by kernel_rfl) ?_ _
          have HO : Hid (Out G W X) := hO
          clear hO hX0 hxh hxs hxl hfit hF hbw1 hbw2 hMw0 hMw1 hMw2 hMw3
          go_wp2
          go_loopg [13] 5 (fun g i wi => ∃ k : Nat, k ≤ 5 ∧ g = 5 - k ∧ i = .int .i64 k ∧ Box w wi G M b W ∧ wi.rowIs w2.heap.size 23 5 (fun i => .float .f64 (X i)))
          case atStart => exact ⟨0, by omega, rfl, rfl, hE, hX⟩
          case round =>
            clear hE hX
            obtain ⟨k, hk5, rfl, rfl, hE, hX⟩ := hrel
            by_cases hk : k < 5
            · have hdk : decide ((k : Int) < 5) = true := by simp; omega
              have cx : wr.cell? ⟨w2.heap.size, k, none⟩ = some (.float .f64 (X k)) := hX.cell hk
              have cw : wr.cell? ⟨w.heap.size + 1 + 1 + 1, k, none⟩ = some (.float .f64 (W k)) := hE.rw_.cell hk
              have hne := same_answer HU.out HO.out hk
              go_wp2
              go_quiet (fail)
              go_wp2
              go_roundg (5 - (k + 1))
              case measure => omega
              case rel => exact ⟨k + 1, by omega, rfl, by go_num, hE.drewN _, hX.of_block rfl⟩
            · have HBl : Hid (Below w.heap.size w wr) := hE.below
              go_wp2
              go_ret
              exact ⟨rfl, HBl.out⟩
        · skip
          go_simp
          have hMw3 := hMw1.alloc (.cells #[.float .f64 0, .float .f64 0, .float .f64 0, .float .f64 0, .float .f64 0] 23)
          have hX0 := lit5 w1 (.float .f64 0) 23
          have hxl := hMw1.rw_.lt
          refine hK.out _ _ hMw3 (fun _ => ?_)
          clear hK K
          refine wpAnyH_ready (rs := [4]) (by kernel_rfl) (by simp) ?_
          refine AllReadyH.cons rfl (fun K hK => ?_) AllReadyH.nil
          have hfit2 := hfit.alloc (.cells #[.float .f64 0, .float .f64 0, .float .f64 0, .float .f64 0, .float .f64 0] 23)
          go_simp
          refine (fitSolve_any hfit2 hF HD.out).mono ?_
          rintro e w2 ⟨X, rfl, hO, hbw2⟩
          have hMw2 := hMw3.kept hbw2
          refine hK.out _ _ hMw2 (fun _ => ?_)
          clear hK K
          replace hX0 := hX0.of_block (hbw2.block w1.heap.size (by simp))
          refine wpAnyH_ready (rs := [6]) (by kernel_rfl) (by simp) ?_
          refine AllReadyH.cons rfl (fun K hK => ?_) AllReadyH.nil
          obtain ⟨old, hxh, hxs⟩ := row_heap hX0
          have hE := hMw2.setRow (x := w1.heap.size) (by omega) (fa 5 X)
          have hX := row_set X hxh
          rw [if_pos (by rfl)]
          refine wp_store_row 23 (.tmp 12) (.tmp 69) rfl (w1.heap.size) (fa 5 X) rfl rfl 23 old hxh (size23 X) (by rw [fa_size]; exact hxs) (fa_one 5 X) ?_
          refine hK.out _ _ hE (fun _ => ?_)
          clear hK K
          refine wpAnyH_done (by kernel_rfl) ?_ _
          have HO : Hid (Out G W X) := hO
          clear hO hX0 hxh hxs hxl hfit hF hfit2 hbw1 hbw2 hMw0 hMw1 hMw2 hMw3
          go_wp2
          go_loopg [13] 5 (fun g i wi => ∃ k : Nat, k ≤ 5 ∧ g = 5 - k ∧ i = .int .i64 k ∧ Box w wi G M b W ∧ wi.rowIs w1.heap.size 23 5 (fun i => .float .f64 (X i)))
          case atStart => exact ⟨0, by omega, rfl, rfl, hE, hX⟩
          case round =>
            clear hE hX
            obtain ⟨k, hk5, rfl, rfl, hE, hX⟩ := hrel
            by_cases hk : k < 5
            · have hdk : decide ((k : Int) < 5) = true := by simp; omega
              have cx : wr.cell? ⟨w1.heap.size, k, none⟩ = some (.float .f64 (X k)) := hX.cell hk
              have cw : wr.cell? ⟨w.heap.size + 1 + 1 + 1, k, none⟩ = some (.float .f64 (W k)) := hE.rw_.cell hk
              have hne := same_answer HU.out HO.out hk
              go_wp2
              go_quiet (fail)
              go_wp2
              go_roundg (5 - (k + 1))
              case measure => omega
              case rel => exact ⟨k + 1, by omega, rfl, by go_num, hE.drewN _, hX.of_block rfl⟩
            · have HBl : Hid (Below w.heap.size w wr) := hE.below
              go_wp2
              go_ret
              exact ⟨rfl, HBl.out⟩
      · skip
        go_simp
        have hMw3 := hMw0.alloc (.cells #[.float .f64 0, .float .f64 0, .float .f64 0, .float .f64 0, .float .f64 0] 23)
        have hX0 := lit5 w0 (.float .f64 0) 23
        have hxl := hMw0.rw_.lt
        refine hK.out _ _ hMw3 (fun _ => ?_)
        clear hK K
        refine wpAnyH_ready (rs := [2]) (by kernel_rfl) (by simp) ?_
        refine AllReadyH.cons rfl (fun K hK => ?_) AllReadyH.nil
        go_simp
        refine (newFit_any _ _ _).mono ?_
        rintro e w1 ⟨fb, F, rfl, hfit, hF, hbw1⟩
        have hMw1 := hMw3.kept hbw1
        refine hK.out _ _ hMw1 (fun _ => ?_)
        clear hK K
        refine wpAnyH_ready (rs := [4]) (by kernel_rfl) (by simp) ?_
        refine AllReadyH.cons rfl (fun K hK => ?_) AllReadyH.nil
        go_simp
        refine (fitSolve_any hfit hF HD.out).mono ?_
        rintro e w2 ⟨X, rfl, hO, hbw2⟩
        have hMw2 := hMw1.kept hbw2
        refine hK.out _ _ hMw2 (fun _ => ?_)
        clear hK K
        replace hX0 := (hX0.of_block (hbw1.block w0.heap.size (by simp)))
        replace hX0 := (hX0.of_block (hbw2.block w0.heap.size hX0.lt))
        refine wpAnyH_ready (rs := [6]) (by kernel_rfl) (by simp) ?_
        refine AllReadyH.cons rfl (fun K hK => ?_) AllReadyH.nil
        obtain ⟨old, hxh, hxs⟩ := row_heap hX0
        have hE := hMw2.setRow (x := w0.heap.size) (by omega) (fa 5 X)
        have hX := row_set X hxh
        rw [if_pos (by rfl)]
        refine wp_store_row 23 (.tmp 12) (.tmp 69) rfl (w0.heap.size) (fa 5 X) rfl rfl 23 old hxh (size23 X) (by rw [fa_size]; exact hxs) (fa_one 5 X) ?_
        refine hK.out _ _ hE (fun _ => ?_)
        clear hK K
        refine wpAnyH_done (by kernel_rfl) ?_ _
        have HO : Hid (Out G W X) := hO
        clear hO hX0 hxh hxs hxl hfit hF hbw1 hbw2 hMw0 hMw1 hMw2 hMw3
        go_wp2
        go_loopg [13] 5 (fun g i wi => ∃ k : Nat, k ≤ 5 ∧ g = 5 - k ∧ i = .int .i64 k ∧ Box w wi G M b W ∧ wi.rowIs w0.heap.size 23 5 (fun i => .float .f64 (X i)))
        case atStart => exact ⟨0, by omega, rfl, rfl, hE, hX⟩
        case round =>
          clear hE hX
          obtain ⟨k, hk5, rfl, rfl, hE, hX⟩ := hrel
          by_cases hk : k < 5
          · have hdk : decide ((k : Int) < 5) = true := by simp; omega
            have cx : wr.cell? ⟨w0.heap.size, k, none⟩ = some (.float .f64 (X k)) := hX.cell hk
            have cw : wr.cell? ⟨w.heap.size + 1 + 1 + 1, k, none⟩ = some (.float .f64 (W k)) := hE.rw_.cell hk
            have hne := same_answer HU.out HO.out hk
            go_wp2
            go_quiet (fail)
            go_wp2
            go_roundg (5 - (k + 1))
            case measure => omega
            case rel => exact ⟨k + 1, by omega, rfl, by go_num, hE.drewN _, hX.of_block rfl⟩
          · have HBl : Hid (Below w.heap.size w wr) := hE.below
            go_wp2
            go_ret
            exact ⟨rfl, HBl.out⟩
end Go.Proofs.Qxb6603773a
