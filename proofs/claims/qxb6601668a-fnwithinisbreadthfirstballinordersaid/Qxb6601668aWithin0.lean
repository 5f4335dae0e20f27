/-
  Within: what holds at its loops' heads, and what each step does to it.
-/
import Derived.Test.Qxb6601668aLaws
import Derived.Test.Qxb6601668aPlain
import Derived.Test.Qxb6601668aIds
namespace Go.Proofs.Qxb6601668a
open Go.RowKit
open Go.Maps (Keyed IsMap)

/-- The call's own memory: what has been found lies in a row of its own; the map holds v and what has been found. -/
structure St (w wr : World) (v : Int) (ao : Option Addr) (cap : Nat) (F : List Int) : Prop where
  below : Below w.heap.size w wr
  size : w.heap.size + 1 ≤ wr.heap.size
  own : wr.ownsRow (w.heap.size + 1) 3 1 (.slice ao F.length cap) F.length (F.map (Value.int .i64))
  nil : F = [] → ao = none ∧ cap = 0
  map : ∃ D : DataW Unit, wr.ownsMap Try.prog 3 (plainElem Try.prog 4) w.heap.size (F.length + 1) D ∧ IsMap D ∧ ∀ x : Int, D.atKey (.int .i64 x) (.lit (.bool false)) = .lit (.bool (decide (x = v ∨ x ∈ F)))

/-- The frontier's cells: in a block of the call's own, no cell of which an append can turn. -/
def Fron (w wr : World) (ao : Option Addr) (F : List Int) (fa : Option Addr) (Fr : List Int) : Prop :=
  0 < Fr.length → ∃ b off, fa = some ⟨b, off, none⟩ ∧ b ≠ w.heap.size ∧ b < wr.heap.size ∧ (∀ i, i < Fr.length → wr.cell? ⟨b, off + i, none⟩ = some (.int .i64 (Fr.getD i 0))) ∧ (ao.map (·.block) ≠ some b ∨ off + Fr.length ≤ F.length)

theorem ownBlock_slice (ao : Option Addr) (n cap : Nat) : (Value.slice ao n cap).ownBlock = ao.map (·.block) := by cases ao <;> rfl

theorem St.ne {w wr : World} {v : Int} {ao : Option Addr} {cap : Nat} {F : List Int} (h : St w wr v ao cap F) : (Value.slice ao F.length cap).ownBlock ≠ some w.heap.size := fun e => by
  have := (h.own.lt _ e).1
  omega

/-- What a new node does: into the map, into a cell of its own, to the end of what has been found. -/
theorem St.new {w wr w1 w2 : World} {v x : Int} {ao : Option Addr} {cap : Nat} {F : List Int} {D : DataW Unit} {v' : Value} (h : St w wr v ao cap F) (hD : IsMap D)
    (hat : ∀ x : Int, D.atKey (.int .i64 x) (.lit (.bool false)) = .lit (.bool (decide (x = v ∨ x ∈ F))))
    (hg1 : wr.grownBy w1 (some w.heap.size)) (ho1 : w1.ownsMap Try.prog 3 (plainElem Try.prog 4) w.heap.size (F.length + 1 + 1) (D.put (.int .i64 x) (.lit (.bool true))))
    (ho2 : w2.ownsRow (w.heap.size + 1) 3 1 v' (F.length + 1) (F.map (Value.int .i64) ++ [.int .i64 x])) (hg2 : (w1.alloc (.cells #[.int .i64 x] 3)).grownBy w2 (Value.slice ao F.length cap).ownBlock) :
    ∃ ao' cap', v' = .slice ao' (F ++ [x]).length cap' ∧ St w w2 v ao' cap' (F ++ [x]) := by
  have hlen : (F ++ [x]).length = F.length + 1 := by simp
  obtain ⟨ao', cap', rfl⟩ : ∃ ao' cap', v' = .slice ao' (F ++ [x]).length cap' := by
    rcases ho2.2 with ⟨_, h0⟩ | ⟨g, cp, cur, hv, _⟩
    · omega
    · exact ⟨_, _, by rw [hv, hlen]⟩
  refine ⟨ao', cap', rfl, ?_, ?_, ?_, fun e => by simp at e, ?_⟩
  · have b1 := h.below.grown hg1 h.below.size (fun j hj => by cases hj; exact Nat.le_refl _)
    have b2 := b1.alloc b1.size (.cells #[.int .i64 x] 3)
    exact b2.grown hg2 b2.size (fun j hj => Nat.le_trans (Nat.le_succ _) (h.own.lt j hj).1)
  · have := hg1.size; have := hg2.size; have := h.size; simp at *; omega
  · rw [hlen, List.map_append]; rw [hlen] at ho2; exact ho2
  · refine ⟨D.put (.int .i64 x) (.lit (.bool true)), ?_, hD.put _ _, fun y => ?_⟩
    · rw [hlen]
      exact (ho1.alloc _).kept hg2 (fun e => h.ne e.symm)
    · by_cases e : y = x
      · subst e
        rw [Maps.atKey_put_same hD (by trivial)]
        simp
      · rw [Maps.atKey_put_other (by simpa using e), hat y]
        simp [e]

theorem Fron.new {w wr w1 w2 : World} {x : Int} {ao ao' : Option Addr} {cap n' cap' : Nat} {F Fr : List Int} {fa : Option Addr} (h : Fron w wr ao F fa Fr)
    (hg1 : wr.grownBy w1 (some w.heap.size))
    (hloc : (Value.slice ao' n' cap').ownBlock = (Value.slice ao F.length cap).ownBlock ∨ (Value.slice ao' n' cap').ownBlock = some (w1.alloc (.cells #[.int .i64 x] 3)).heap.size)
    (hg2 : (w1.alloc (.cells #[.int .i64 x] 3)).grownBy w2 (Value.slice ao F.length cap).ownBlock)
    (hkeep : ∀ b off u, (w1.alloc (.cells #[.int .i64 x] 3)).cell? ⟨b, off, none⟩ = some u → ((Value.slice ao F.length cap).ownBlock ≠ some b ∨ off < F.length) → w2.cell? ⟨b, off, none⟩ = some u) :
    Fron w w2 ao' (F ++ [x]) fa Fr := by
  intro hp
  obtain ⟨b, off, hfa, hne, hlt, hc, hor⟩ := h hp
  have s1 := hg1.size
  have s2 := hg2.size
  have s3 : (w1.alloc (.cells #[.int .i64 x] 3)).heap.size = w1.heap.size + 1 := by simp
  refine ⟨b, off, hfa, hne, by omega, fun i hi => ?_, ?_⟩
  · have c1 := hg1.cell (hc i hi) (fun e => hne (by simpa using e))
    have c2 : (w1.alloc (.cells #[.int .i64 x] 3)).cell? ⟨b, off + i, none⟩ = some (.int .i64 (Fr.getD i 0)) := ((World.grownBy_alloc w1 (.cells #[.int .i64 x] 3) none).cell c1 (by simp))
    refine hkeep b (off + i) _ c2 ?_
    rw [ownBlock_slice]
    rcases hor with hor | hor
    · exact Or.inl hor
    · exact Or.inr (by omega)
  · rw [ownBlock_slice, ownBlock_slice] at hloc
    rcases hloc with e | e
    · rw [e]
      rcases hor with hor | hor
      · exact Or.inl hor
      · exact Or.inr (by simp; omega)
    · left
      rw [e]
      intro e2
      have : (w1.alloc (.cells #[.int .i64 x] 3)).heap.size = b := by simpa using e2
      omega

theorem run_cut (a : Option Addr) (len cap s : Nat) (hs : s ≤ len) (w : World) :
    (Instr.slice 31 (.slice a len cap) (some (.int .i64 (s : Int))) none none).run Try.prog w = .ok (.slice (if cap = s then a else a.map (·.add s)) (len - s) (cap - s)) w := by
  have he : Try.prog.elem 31 = 3 := by simp [Program.elem, Try.underlying31]
  obtain ⟨i, hi, hsz⟩ := Option.map_eq_some_iff.1 Try.size3
  rw [run_slice_l w 31 a len cap (by rw [he]; exact Try.underlying31) .i64 s (by omega) (by omega)]
  simp [he, sizeOf, typeInfo, hi, hsz, sliced]

/-- 'found[start:]': the new frontier. -/
theorem St.cut {w wr : World} {v : Int} {ao : Option Addr} {cap : Nat} {F : List Int} (h : St w wr v ao cap F) (s : Nat) (hs : s ≤ F.length) :
    ∃ fa fc, (∀ w, (Instr.slice 31 (.slice ao F.length cap) (some (.int .i64 (s : Int))) none none).run Try.prog w = .ok (.slice fa (F.drop s).length fc) w) ∧ Fron w wr ao F fa (F.drop s) := by
  have hl : (F.drop s).length = F.length - s := by simp
  refine ⟨_, _, fun w => by rw [hl]; exact run_cut ao F.length cap s hs w, fun hp => ?_⟩
  rw [hl] at hp
  rcases h.own.2 with ⟨hv, h0⟩ | ⟨g, cp, cur, hv, hb, hg, hnc, hcm, hcs, htake⟩
  · omega
  · injection hv with e1 e2 e3
    subst e1; subst e3
    refine ⟨g, s, ?_, by omega, (Array.getElem?_eq_some_iff.1 hg).1, fun i hi => ?_, Or.inr (by omega)⟩
    · rw [if_neg (by omega)]
      simp [Addr.add]
      exact fun h => h.symm
    · have hi' : s + i < F.length := by omega
      have := h.own.cells (g := g) rfl (s + i) (.int .i64 (F[s + i])) (by simp [List.getElem?_eq_getElem hi'])
      have hadd : (⟨g, 0, none⟩ : Addr).add (s + i) = ⟨g, s + i, none⟩ := by unfold Addr.add; split <;> simp_all
      rw [hadd] at this
      rw [this]
      simp [List.getElem?_eq_getElem hi']

/-- The neighbours of a node, as a list. -/
def adjOf (L : Nat → Nat) (Z : Nat → Nat → Int) (u : Int) : List Int := (List.range (L u.toNat)).map (Z u.toNat)

/-- What Within leaves: a slice that holds what was found; nil where nothing was. -/
def Found (w : World) (F : List Int) (e : Ending) (w' : World) : Prop :=
  ∃ ao cap, e = .returned (.slice ao F.length cap) ∧ IntsAt w'.heap.size w' (.slice ao F.length cap) F.length (fun i => F.getD i 0) ∧ (F = [] ↔ ao = none) ∧ Below w.heap.size w w'

theorem St.found {w wr : World} {v : Int} {ao : Option Addr} {cap : Nat} {F : List Int} (h : St w wr v ao cap F) (hn : F.length ≤ 65536) : Found w F (.returned (.slice ao F.length cap)) wr := by
  refine ⟨ao, cap, rfl, ⟨ao, cap, rfl, by omega, fun hp => ?_⟩, ⟨fun e => (h.nil e).1, fun e => ?_⟩, h.below⟩
  · rcases h.own.2 with ⟨hv, h0⟩ | ⟨g, cp, cur, hv, hb, hg, hnc, hcm, hcs, htake⟩
    · omega
    · injection hv with e1 e2 e3
      subst e1; subst e3
      refine ⟨g, 0, rfl, (Array.getElem?_eq_some_iff.1 hg).1, fun i hi => ?_⟩
      have := h.own.cells (g := g) rfl i (.int .i64 (F[i])) (by simp [List.getElem?_eq_getElem hi])
      have hadd : (⟨g, 0, none⟩ : Addr).add i = ⟨g, i, none⟩ := by unfold Addr.add; split <;> simp_all
      rw [hadd] at this
      rw [Nat.zero_add, this]
      simp [List.getElem?_eq_getElem hi]
  · rcases h.own.2 with ⟨hv, h0⟩ | ⟨g, cp, cur, hv, _⟩
    · exact List.eq_nil_of_length_eq_zero h0
    · injection hv with e1
      rw [e] at e1
      cases e1

theorem st_start {w wm : World} {v : Int} (hg : (w.alloc (.map #[] 0)).grownBy wm (some w.heap.size)) (ho : wm.ownsMap Try.prog 3 (plainElem (H := Unit) Try.prog 4) w.heap.size (0 + 1) ((DataW.map []).put (.int .i64 v) (.lit (.bool true)))) :
    St w (wm.alloc (.cells #[.int .i64 v] 3)) v none 0 [] := by
  have b1 := ((Below.refl w.heap.size w).alloc (Nat.le_refl _) (.map #[] 0)).grown hg (by simp) (fun j hj => by cases hj; exact Nat.le_refl _)
  have hs := hg.size
  refine ⟨b1.alloc b1.size _, by simp at hs ⊢; omega, World.ownsRow_nil _ _ _ _, fun _ => ⟨rfl, rfl⟩, _, ho.alloc _, Maps.isMap_empty.put _ _, fun x => ?_⟩
  by_cases e : x = v
  · subst e
    rw [Maps.atKey_put_same Maps.isMap_empty (by trivial)]
    simp
  · rw [Maps.atKey_put_other (by simpa using e)]
    simp [e, DataW.atKey]

theorem fron_start {w wm : World} {v : Int} (hs : w.heap.size + 1 ≤ wm.heap.size) : Fron w (wm.alloc (.cells #[.int .i64 v] 3)) none [] (some ⟨wm.heap.size, 0, none⟩) [v] := fun _ =>
  ⟨wm.heap.size, 0, rfl, by omega, by simp, fun i hi => by
    have : i = 0 := by simp at hi; omega
    subst this
    simp, Or.inl (by simp)⟩
end Go.Proofs.Qxb6601668a
