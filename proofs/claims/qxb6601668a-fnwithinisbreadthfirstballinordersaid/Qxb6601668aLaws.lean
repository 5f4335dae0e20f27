/-
  Two laws that this road wants beside the library's: an append that tells which cells it has left alone; a look-up in a map of bools.
-/
import Derived.Test.Qxb6601668aMem
import Derived.Maps.AppendAt
import Derived.Maps.OwnSet
namespace Go.Proofs.Qxb6601668a
open Go.RowKit
open Go.Maps (Keyed IsMap)

/-- Behind an append: a cell of another block, and a cell of the slice's own elements, holds what it held. -/
theorem run_append_keep {P : Program} (w : World) (base : Nat) (t ty e : TypeId) (i : TypeInfo) (z : Value) (bytes : Nat) (ht : P.underlying t = some (.slice e)) (hi : P.info? e = some i) (hz : i.zero = some z)
    (hsize : i.size = 1) (hby : i.bytes = bytes) (hzs : z.cells.size = 1)
    (v : Value) (n : Nat) (xs : List Value) (hown : w.ownsRow base e 1 v n xs)
    (a : Addr) (m c : Nat) (news : List Value) (hl : news.length = m * 1) (hnews : ∀ j u, news[j]? = some u → w.cell? (a.add j) = some u) (h1 : ∀ u ∈ news, u.oneCell' = true)
    (h63 : n + m ≤ maxLen) (hbytes : (n + m) * bytes ≤ 140737488355328) (hbase : base ≤ w.heap.size) :
    ∃ v' w', (Builtin.append_ #[t, t] ty #[v, .slice (some a) m c]).run P w = .ok v' w' ∧ w'.ownsRow base e 1 v' (n + m) (xs ++ news) ∧ w.grownBy w' v.ownBlock ∧
      (v' = .slice none 0 0 ↔ v = .slice none 0 0 ∧ m = 0) ∧ (v'.ownBlock = v.ownBlock ∨ v'.ownBlock = some w.heap.size) ∧
      ∀ b off u, w.cell? ⟨b, off, none⟩ = some u → (v.ownBlock ≠ some b ∨ off < n) → w'.cell? ⟨b, off, none⟩ = some u := by
  obtain ⟨v', w', hr, h2, h3, h4, h5⟩ := run_append_own_at (P := P) w base t ty e i z 1 bytes ht hi hz hsize hby hzs (by decide) v n xs hown a m c news hl hnews h1 h63 hbytes hbase
  refine ⟨v', w', hr, h2, h3, h4, h5, fun b off u hc hor => ?_⟩
  by_cases hb : v.ownBlock = some b
  · have hoff : off < n := by
      rcases hor with hor | hor
      · exact absurd hb hor
      · exact hor
    have hlen : xs.length = n := by simpa using hown.1
    have hxo := hown.cells hb off (xs[off]'(by omega)) (by simp)
    have hadd : ∀ g, (⟨g, 0, none⟩ : Addr).add off = ⟨g, off, none⟩ := fun g => by unfold Addr.add; split <;> simp_all
    rw [hadd, hc] at hxo
    have hu : u = xs[off]'(by omega) := by simpa using hxo
    have same : v'.ownBlock = some b → w'.cell? ⟨b, off, none⟩ = some u := fun hv' => by
      have := h2.cells hv' off u (by rw [List.getElem?_append_left (by omega), List.getElem?_eq_getElem (by omega), hu])
      rwa [hadd] at this
    rcases hown.2 with ⟨rfl, _⟩ | ⟨g, cap, cur, rfl, hbg, hg, hnc, hcm, hcs, htake⟩
    · simp [Value.ownBlock] at hb
    · have hgb : g = b := by simpa [Value.ownBlock] using hb
      subst hgb
      by_cases hroom : n + m ≤ cap
      · have hr2 := run_append_room (P := P) w t ty e i ht hi g n cap cur hg a m c news (by rw [hl, hsize]) hnews h1 hroom (by rw [hl, hcs, hsize]; omega)
        rw [hr2] at hr
        have hv' : .slice (some ⟨g, 0, none⟩) (n + m) cap = v' := by injection hr
        exact same (by rw [← hv']; rfl)
      · have hr2 := run_append_grow (P := P) w t ty e i z ht hi hz ⟨g, 0, none⟩ n cap xs (by rw [hsize]; exact hown.1) (hown.cells (g := g) rfl) a m c news (by rw [hl, hsize]) hnews (by omega) (by simp only [maxLen] at h63; omega) (growslice_fits (by omega) (by rw [hby]; exact hbytes))
        rw [hr2] at hr
        have hw' : (w.drew.alloc (.cells (xs.toArray ++ news.toArray ++ Builtin.zeroCells z.cells (grownCap w (n + m) cap e - (n + m))) e)) = w' := by injection hr
        rw [← hw']
        have hlt := World.block_lt_of_cell? w ⟨g, off, none⟩ hc
        exact (World.cell?_of_block (w := w) (a := ⟨g, off, none⟩) (Below.heap_alloc w.drew _ g hlt)).trans hc
  · exact h3.cell hc (fun e => hb e.symm)

/-- The same at the operation, for the walk. -/
theorem wpList_append_keep {P : Program} (w : World) {ops : Array Oper} {rest : List Oper} {o : Oper} {a : Act} {Q : Exit → Act → World → Prop} (hgd : o.guard = none) (s x : Operand) (t : TypeId)
    (ho : o.op = .call { callee := .builtin .append, args := #[s, x], argTypes := #[t, t] })
    (base : Nat) (e : TypeId) (i : TypeInfo) (z : Value) (bytes : Nat) (ht : P.underlying t = some (.slice e)) (hi : P.info? e = some i) (hz : i.zero = some z)
    (hsize : i.size = 1) (hby : i.bytes = bytes) (hzs : z.cells.size = 1)
    (v : Value) (n : Nat) (xs : List Value) (hs : a.eval s = v) (hown : w.ownsRow base e 1 v n xs)
    (ad : Addr) (m c : Nat) (news : List Value) (hx : a.eval x = .slice (some ad) m c) (hl : news.length = m * 1) (hnews : ∀ j u, news[j]? = some u → w.cell? (ad.add j) = some u) (h1 : ∀ u ∈ news, u.oneCell' = true)
    (h63 : n + m ≤ maxLen) (hbytes : (n + m) * bytes ≤ 140737488355328) (hbase : base ≤ w.heap.size)
    (h : ∀ v' w', w'.ownsRow base e 1 v' (n + m) (xs ++ news) → w.grownBy w' v.ownBlock → (v' = .slice none 0 0 ↔ v = .slice none 0 0 ∧ m = 0) → (v'.ownBlock = v.ownBlock ∨ v'.ownBlock = some w.heap.size) →
      (∀ b off u, w.cell? ⟨b, off, none⟩ = some u → (v.ownBlock ≠ some b ∨ off < n) → w'.cell? ⟨b, off, none⟩ = some u) → wpList P ops Q rest (a.put o.dst v') w') :
    wpList P ops Q (o :: rest) a w := by
  refine wpList_plain hgd fun K hK => ?_
  obtain ⟨v', w', hr, h2, h3, h4, h5, h6⟩ := run_append_keep (P := P) w base t o.type e i z bytes ht hi hz hsize hby hzs v n xs hown ad m c news hl hnews h1 h63 hbytes hbase
  unfold Oper.wp execOp
  simp only [ho, resolve, invoke, builtin, Sem.run_bind, Sem.run_pure, Result.andThen_ok, List.map_toArray, List.map_cons, List.map_nil, hs, hx, hr]
  exact hK _ _ (h v' w' h2 h3 h4 h5 h6)

/-- 'm[k]' in a map of bools whose content at the key is known. -/
theorem look_bool {H : Type} {P : Program} {k : TypeId} {w : World} {b n : Nat} {D : DataW H} {t e : TypeId} (h : w.ownsMap P k (plainElem P e) b n D) (K : Keyed P k) (ht : P.underlying t = some (.map k e)) (he : P.underlying e = some .bool)
    (hz : (zeroValue e).run P w = .ok (.bool false) w) {key : Value} {kl : Lit} (hkey : keyOf P k key = some kl) {c : Bool} (hat : D.atKey kl (.lit (.bool false)) = .lit (.bool c)) :
    (Instr.lookup t (.map (some b)) key false).run P w = .ok (.bool c) w := by
  obtain ⟨v, ps, hrun, hv⟩ := h.lookup K ht hz (plainElem_bool he false) hkey
  rw [hat] at hv
  unfold plainElem at hv
  rw [he] at hv
  cases v <;> simp at hv
  rw [hrun, hv.1]

theorem Try.info3' : (Try.prog.info? 3).map (fun i => (i.zero, i.size, i.bytes)) = some (some (.int .i64 0), 1, 8) := by kernel_rfl
theorem law3 : Keyed Try.prog 3 := Maps.int_keyed Try.underlying3
theorem zero4 (w : World) : (zeroValue 4).run Try.prog w = .ok (.bool false) w := by kernel_rfl
end Go.Proofs.Qxb6601668a
