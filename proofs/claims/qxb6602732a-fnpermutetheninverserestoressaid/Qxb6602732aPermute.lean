/-
  permute: the walk.
-/
import Derived.Test.Qxb6602732aEnt
namespace Go.Proofs.Qxb6602732a
open Go.RowKit

theorem held_start (w : World) (s : ByteArray) : (w.alloc (.cells #[.string s, .int .u8 0, .bool false, .int .u64 0, .slice none 0 0, .pointer none, .int .u8 0, .bool false, .int .u64 0, .slice none 0 0, .pointer none] 54)).rowIs w.heap.size 54 (1 * 11) (entF fun _ => s) :=
  World.rowIs_alloc w #[.string s, .int .u8 0, .bool false, .int .u64 0, .slice none 0 0, .pointer none, .int .u8 0, .bool false, .int .u64 0, .slice none 0 0, .pointer none] 54 (entF fun _ => s) (fun i hi => by
    simp at hi
    have hm : i = 0 ∨ i = 1 ∨ i = 2 ∨ i = 3 ∨ i = 4 ∨ i = 5 ∨ i = 6 ∨ i = 7 ∨ i = 8 ∨ i = 9 ∨ i = 10 := by omega
    rcases hm with r | r | r | r | r | r | r | r | r | r | r <;> subst r <;> rfl)

/-- What permute leaves: the entries in their new order; nothing below their block has turned. -/
def Permuted (b : Nat) (w : World) (n : Nat) (S : Nat → ByteArray) (e : Ending) (w' : World) : Prop := e = .returned (.tuple #[]) ∧ w'.rowIs b 54 (n * 11) (entF S) ∧ Below b w w'

set_option maxHeartbeats 4000000 in
set_option maxRecDepth 100000 in
theorem permute_any {B : Nat} {w : World} {b n : Nat} {S : Nat → ByteArray} {ov : Value} {m : Nat} {O : Nat → Int} (hn : n ≤ 64) (hnm : n ≤ m) (hP : Perm n O) (hE : w.rowIs b 54 (n * 11) (entF S)) (hov : SliceAt B w ov m (fun i => .int .u8 (O i))) (hB : B ≤ b) :
    Calls Try.prog 27 #[.slice (some ⟨b, 0, none⟩) n n, ov] w (Permuted b w n (fun t => S (O t).toNat)) := by
  obtain ⟨ao, cap, rfl, hm, hc⟩ := hov
  have hr : ∀ t, t < n → (O t).toNat < n := fun t ht => by have := (hP t ht).1; omega
  have hinj : ∀ s t, s < n → t < n → (O s).toNat = (O t).toNat → s = t := fun s t hs ht e => by
    have h1 := (hP s hs).1
    have h2 := (hP t ht).1
    rcases Nat.lt_trichotomy s t with h | h | h
    · exact absurd (by omega) ((hP t ht).2 s h)
    · exact h
    · exact absurd (by omega) ((hP s hs).2 t h)
  obtain ⟨ord, hord⟩ : ∃ ord : Nat → Nat, ∀ t, ord t = (O t).toNat := ⟨fun t => (O t).toNat, fun _ => rfl⟩
  have HR : Hid (∀ t, t < n → ord t < n) := fun t ht => by rw [hord]; exact hr t ht
  have HI : Hid (∀ s t, s < n → t < n → ord s = ord t → s = t) := fun s t hs ht e => hinj s t hs ht (by rw [← hord, ← hord]; exact e)
  have HO : Hid (∀ t, t < n → O t = (ord t : Int)) := fun t ht => by rw [hord]; have := (hP t ht).1; omega
  have HD : Hid (∀ t, ord t = (O t).toNat) := hord
  clear hr hinj hord hP
  go_enter Try.func27, Try.ntmps27
  go_wp2
  go_loopg [4, 11] n (fun g pl i wr => ∃ (k mk : Nat) (S1 : Nat → ByteArray), k ≤ n ∧ g = n - k ∧ i = .int .i64 k ∧ pl = .int .u64 mk ∧ Hid (mk < 18446744073709551616) ∧ Below b w wr ∧ wr.rowIs b 54 (n * 11) (entF S1) ∧
      Hid (Outer n ord S mk.testBit S1 ∧ ∀ t, t < k → mk.testBit t = true ∨ ord t = t))
  case atStart => exact ⟨0, 0, S, Nat.zero_le _, rfl, rfl, rfl, (by show (0 : Nat) < _; omega), Below.refl _ _, hE, ⟨fun t _ h => by simp at h, fun t _ => by simp⟩, fun t ht => absurd ht (Nat.not_lt_zero _)⟩
  case round =>
    clear hE
    obtain ⟨k, mk, S1, hk, rfl, rfl, rfl, HM, hbel, hrow, HQ⟩ := hrel
    obtain ⟨wo, rfl⟩ : ∃ wo : World, wo = wr := ⟨_, rfl⟩
    by_cases hlt : k < n
    · obtain ⟨ob, ooff, ha, hob, hcell⟩ := hc (by omega)
      have ho := HO.out k hlt
      obtain ⟨o, hoo⟩ : ∃ o, o = ord k := ⟨_, rfl⟩
      rw [← hoo] at ho
      have hon : o < n := by rw [hoo]; exact HR.out k hlt
      have hix := run_ix (P := Try.prog) (n := m) (cap := cap) Try.underlying22 Try.size5 ha (show k < m by omega)
      have c0 : wo.cell? ⟨ob, ooff + k, none⟩ = some (.int .u8 (o : Int)) := by rw [← ho]; exact (hbel.cell (p := ⟨ob, ooff + k, none⟩) (by show ob < _; omega)).trans (hcell k (by omega))
      have htst := bit_tested mk k HM.out (by omega)
      have HOO : Hid (o = ord k) := hoo
      clear ho hoo
      cases hbit : mk.testBit k with
      | true =>
        rw [hbit] at htst
        have HB : Hid (mk.testBit k = true) := hbit
        clear hbit
        go_wp2
        go_roundg (n - (k + 1))
        case measure => omega
        case rel => exact ⟨k + 1, mk, S1, by omega, rfl, by go_num, rfl, HM, hbel, hrow, HQ.out.1, fun t ht => by
          by_cases e : t = k
          · subst e; exact Or.inl HB.out
          · exact HQ.out.2 t (by omega)⟩
      | false =>
        rw [hbit] at htst
        have HB : Hid (mk.testBit k = false) := hbit
        clear hbit
        by_cases hok : o = k
        · have hz : ((o : Int) == (k : Int)) = true := by simp [hok]
          have HOK : Hid (o = k) := hok
          clear hok
          go_wp2
          go_roundg (n - (k + 1))
          case measure => omega
          case rel => exact ⟨k + 1, mk, S1, by omega, rfl, by go_num, rfl, HM, hbel, hrow, HQ.out.1, fun t ht => by
            by_cases e : t = k
            · subst e; exact Or.inr (by rw [← HOO.out]; exact HOK.out)
            · exact HQ.out.2 t (by omega)⟩
        · have hz : ((o : Int) == (k : Int)) = false := by rw [beq_eq_false_iff_ne]; omega
          obtain ⟨e0, e1, e2, e3, e4, e5, e6, e7, e8, e9, e10⟩ := ent_cells hrow hlt
          have hSk : S1 k = S k := by have := HQ.out.1.val k hlt; rw [HB.out] at this; simpa using this
          have hbs := hrow.lt
          have hh0 := held_start wo (S k)
          have hb0 := hbel.alloc (by omega) (.cells #[.string (S k), .int .u8 0, .bool false, .int .u64 0, .slice none 0 0, .pointer none, .int .u8 0, .bool false, .int .u64 0, .slice none 0 0, .pointer none] 54)
          have hr0 := hrow.alloc (.cells #[.string (S k), .int .u8 0, .bool false, .int .u64 0, .slice none 0 0, .pointer none, .int .u8 0, .bool false, .int .u64 0, .slice none 0 0, .pointer none] 54)
          have HSk : Hid (S1 k = S k) := hSk
          go_wp2
          clear e0 e1 e2 e3 e4 e5 e6 e7 e8 e9 e10 hix c0 htst hSk
          go_loopg [4, 7] (unpl n mk.testBit) (fun g pl jv wi => ∃ (j mj : Nat) (S2 : Nat → ByteArray), jv = .int .i64 j ∧ pl = .int .u64 mj ∧ Hid (mj < 18446744073709551616) ∧ Hid (g = unpl n mj.testBit) ∧ j < n ∧ Below b w wi ∧ wi.rowIs b 54 (n * 11) (entF S2) ∧
              wi.rowIs wo.heap.size 54 (1 * 11) (entF fun _ => S k) ∧ Hid (Inner n ord S mk.testBit k j mj.testBit S2))
          case atStart => exact ⟨k, mk, S1, rfl, rfl, HM, rfl, hlt, hb0, hr0, hh0, inner_start HQ.out.1 hlt HB.out⟩
          case round =>
            clear hb0 hr0 hh0 hbel hrow
            obtain ⟨j, mj, S2, rfl, rfl, HMj, HG, hjn, hbel, hrow, hheld, HIn⟩ := hrel
            have hoj := HO.out j hjn
            obtain ⟨p, hp⟩ : ∃ p, p = ord j := ⟨_, rfl⟩
            rw [← hp] at hoj
            have hpn : p < n := by rw [hp]; exact HR.out j hjn
            have hix := run_ix (P := Try.prog) (n := m) (cap := cap) Try.underlying22 Try.size5 ha (show j < m by omega)
            have c0 : wr.cell? ⟨ob, ooff + j, none⟩ = some (.int .u8 (p : Int)) := by rw [← hoj]; exact (hbel.cell (p := ⟨ob, ooff + j, none⟩) (by show ob < _; omega)).trans (hcell j (by omega))
            have hor := bit_laid mj j HMj.out (by omega)
            have hbit := laid_bit mj j
            have hltm := laid_lt mj j HMj.out (by omega)
            obtain ⟨mj', hmj'⟩ : ∃ m', m' = mj ||| 2 ^ j := ⟨_, rfl⟩
            rw [← hmj'] at hor hbit hltm
            have HBit : Hid (∀ t, mj'.testBit t = (mj.testBit t || decide (t = j))) := hbit
            have HMj' : Hid (mj' < 18446744073709551616) := hltm
            have HPp : Hid (p = ord j) := hp
            have HUn : Hid (unpl n mj'.testBit < unpl n mj.testBit) := unpl_lt hjn HIn.out.jp (by rw [hbit]; simp) (fun t ht => by rw [hbit, ht]; rfl)
            obtain ⟨e0, e1, e2, e3, e4, e5, e6, e7, e8, e9, e10⟩ := ent_cells hrow hjn
            obtain ⟨f0, f1, f2, f3, f4, f5, f6, f7, f8, f9, f10⟩ := ent_free hrow j
            clear hoj hp hbit hltm hmj'
            by_cases hpk : p = k
            · have hz2 : ((p : Int) == (k : Int)) = true := by simp [hpk]
              have HPK : Hid (p = k) := hpk
              clear hpk
              obtain ⟨g0, g1, g2, g3, g4, g5, g6, g7, g8, g9, g10⟩ := ent_cells hheld (k := 0) (by omega)
              simp only [Nat.zero_mul, Nat.zero_add] at g0 g1 g2 g3 g4 g5 g6 g7 g8 g9 g10
              have hst := ent_store hrow j (S k)
              have hend := inner_end HIn.out HI.out (by rw [← HPp.out]; exact HPK.out) HBit.out
              have HEnd : Hid (Outer n ord S mj'.testBit (fun t => if t = j then S k else S2 t) ∧ mj'.testBit k = true ∧ ∀ t, mk.testBit t = true → mj'.testBit t = true) := hend
              clear hend
              go_wp2
              go_roundg (n - (k + 1))
              case measure => omega
              case rel => exact ⟨k + 1, mj', _, by omega, rfl, by go_num, rfl, HMj', (((((((((((hbel).setCell (Nat.le_refl _) _).setCell (Nat.le_refl _) _).setCell (Nat.le_refl _) _).setCell (Nat.le_refl _) _).setCell (Nat.le_refl _) _).setCell (Nat.le_refl _) _).setCell (Nat.le_refl _) _).setCell (Nat.le_refl _) _).setCell (Nat.le_refl _) _).setCell (Nat.le_refl _) _).setCell (Nat.le_refl _) _, hst, HEnd.out.1, fun t ht => by
                by_cases e : t = k
                · subst e; exact Or.inl HEnd.out.2.1
                · rcases HQ.out.2 t (by omega) with h | h
                  · exact Or.inl (HEnd.out.2.2 t h)
                  · exact Or.inr h⟩
            · have hz2 : ((p : Int) == (k : Int)) = false := by rw [beq_eq_false_iff_ne]; omega
              obtain ⟨g0, g1, g2, g3, g4, g5, g6, g7, g8, g9, g10⟩ := ent_cells hrow hpn
              have hst := ent_store hrow j (S2 p)
              have hholds : (((((((((((wr.setCell ⟨b, j * 11, none⟩ (.string (S2 p))).setCell ⟨b, j * 11 + 1, none⟩ (.int .u8 0)).setCell ⟨b, j * 11 + 2, none⟩ (.bool false)).setCell ⟨b, j * 11 + 3, none⟩ (.int .u64 0)).setCell ⟨b, j * 11 + 4, none⟩ (.slice none 0 0)).setCell ⟨b, j * 11 + 5, none⟩ (.pointer none)).setCell ⟨b, j * 11 + 6, none⟩ (.int .u8 0)).setCell ⟨b, j * 11 + 7, none⟩ (.bool false)).setCell ⟨b, j * 11 + 8, none⟩ (.int .u64 0)).setCell ⟨b, j * 11 + 9, none⟩ (.slice none 0 0)).setCell ⟨b, j * 11 + 10, none⟩ (.pointer none)).rowIs wo.heap.size 54 (1 * 11) (entF fun _ => S k) := (((((((((((hheld).setOther (by show wo.heap.size ≠ b; omega) _).setOther (by show wo.heap.size ≠ b; omega) _).setOther (by show wo.heap.size ≠ b; omega) _).setOther (by show wo.heap.size ≠ b; omega) _).setOther (by show wo.heap.size ≠ b; omega) _).setOther (by show wo.heap.size ≠ b; omega) _).setOther (by show wo.heap.size ≠ b; omega) _).setOther (by show wo.heap.size ≠ b; omega) _).setOther (by show wo.heap.size ≠ b; omega) _).setOther (by show wo.heap.size ≠ b; omega) _).setOther (by show wo.heap.size ≠ b; omega) _
              have HStep : Hid (Inner n ord S mk.testBit k p mj'.testBit (fun t => if t = j then S2 p else S2 t)) := by
                have := inner_step HIn.out HR.out HI.out (by rw [← HPp.out]; exact hpk) HBit.out
                rw [← HPp.out] at this
                exact this
              go_wp2
              go_roundg (unpl n mj'.testBit)
              case measure => rw [HG.out]; exact HUn.out
              case rel => exact ⟨p, mj', _, rfl, rfl, HMj', rfl, hpn, (((((((((((hbel).setCell (Nat.le_refl _) _).setCell (Nat.le_refl _) _).setCell (Nat.le_refl _) _).setCell (Nat.le_refl _) _).setCell (Nat.le_refl _) _).setCell (Nat.le_refl _) _).setCell (Nat.le_refl _) _).setCell (Nat.le_refl _) _).setCell (Nat.le_refl _) _).setCell (Nat.le_refl _) _).setCell (Nat.le_refl _) _, hst, hholds, HStep⟩
    · have hkn : k = n := by omega
      have hres := HQ.out
      rw [hkn] at hres
      have hfin := hrow.congr (g := entF fun t => S (O t).toNat) (fun i hi => by
        unfold entF
        split
        · rw [outer_end hres.1 hres.2 (i / 11) (by omega), HD.out]
        · rfl)
      clear hkn hres
      go_wp2
      go_end0
      exact ⟨rfl, hfin, hbel⟩
end Go.Proofs.Qxb6602732a
