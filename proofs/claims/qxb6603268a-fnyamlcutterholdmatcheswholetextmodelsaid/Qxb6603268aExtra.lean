import Derived.Test.Qxb6603268aHoldB
namespace Go.Proofs.Qxb6603268a
open Go.RowKit
set_option linter.unusedSimpArgs false

theorem exCells_cons (e : Int × Int × Bool) (l : List (Int × Int × Bool)) : exCells (e :: l) = Value.int .i64 e.1 :: Value.int .i64 e.2.1 :: Value.bool e.2.2 :: exCells l := rfl

theorem exCells_at0 : ∀ (l : List (Int × Int × Bool)) (r : Nat) (h : r < l.length), (exCells l)[r * 3]? = some (.int .i64 l[r].1)
  | e :: l, 0, _ => rfl
  | e :: l, r + 1, h => by
    rw [exCells_cons, show (r + 1) * 3 = r * 3 + 1 + 1 + 1 by omega]
    simp only [List.getElem?_cons_succ, List.getElem_cons_succ]
    exact exCells_at0 l r (by simpa using h)
theorem exCells_at1 : ∀ (l : List (Int × Int × Bool)) (r : Nat) (h : r < l.length), (exCells l)[r * 3 + 1]? = some (.int .i64 l[r].2.1)
  | e :: l, 0, _ => rfl
  | e :: l, r + 1, h => by
    rw [exCells_cons, show (r + 1) * 3 + 1 = (r * 3 + 1) + 1 + 1 + 1 by omega]
    simp only [List.getElem?_cons_succ, List.getElem_cons_succ]
    exact exCells_at1 l r (by simpa using h)
theorem exCells_at2 : ∀ (l : List (Int × Int × Bool)) (r : Nat) (h : r < l.length), (exCells l)[r * 3 + 2]? = some (.bool l[r].2.2)
  | e :: l, 0, _ => rfl
  | e :: l, r + 1, h => by
    rw [exCells_cons, show (r + 1) * 3 + 2 = (r * 3 + 2) + 1 + 1 + 1 by omega]
    simp only [List.getElem?_cons_succ, List.getElem_cons_succ]
    exact exCells_at2 l r (by simpa using h)
theorem exCells_set : ∀ (l : List (Int × Int × Bool)) (r : Nat) (h : r < l.length) (x : Int) (y : Bool),
    ((exCells l).set (r * 3 + 1) (.int .i64 x)).set (r * 3 + 2) (.bool y) = exCells (l.set r (l[r].1, x, y))
  | e :: l, 0, _, x, y => rfl
  | e :: l, r + 1, h, x, y => by
    rw [exCells_cons, show (r + 1) * 3 + 1 = (r * 3 + 1) + 1 + 1 + 1 by omega, show (r + 1) * 3 + 2 = (r * 3 + 2) + 1 + 1 + 1 by omega]
    simp only [List.set_cons_succ, List.getElem_cons_succ]
    rw [exCells_set l r (by simpa using h) x y, exCells_cons]

section
variable {w0 w : World} {B p : Nat} {dv0 ev0 dv ev : Value} {s : St}

/-- the cells of the r-th repeat -/
theorem CutAt.exForm (h : CutAt w B p dv ev s) {r : Nat} (hr : r < s.extra.length) : ∃ g c, ev = .slice (some ⟨g, 0, none⟩) s.extra.length c ∧ w.cell? ⟨g, r * 3, none⟩ = some (.int .i64 s.extra[r].1) ∧ w.cell? ⟨g, r * 3 + 1, none⟩ = some (.int .i64 s.extra[r].2.1) ∧
    w.cell? ⟨g, r * 3 + 2, none⟩ = some (.bool s.extra[r].2.2) ∧ (∀ j, w.frozen? ⟨g, j, none⟩ = false) ∧ g ≠ p := by
  obtain ⟨g, cap, hv, _, _⟩ := h.extra.form (by omega)
  have hd := h.extra
  have hne := h.ne_extra
  subst hv
  refine ⟨g, cap, rfl, ?_, ?_, ?_, fun j => hd.frozenAt j, fun e => hne (by rw [e]; rfl)⟩
  · rw [hd.cellAt (r * 3) (by omega)]; exact exCells_at0 _ _ hr
  · rw [hd.cellAt (r * 3 + 1) (by omega)]; exact exCells_at1 _ _ hr
  · rw [hd.cellAt (r * 3 + 2) (by omega)]; exact exCells_at2 _ _ hr

theorem Mid.set_ex {g m c : Nat} (h : Mid w0 w B p dv0 ev0 dv (.slice (some ⟨g, 0, none⟩) m c) s) {r : Nat} (hr : r < s.extra.length) (x : Int) (y : Bool) :
    Mid w0 ((w.setCell ⟨g, r * 3 + 1, none⟩ (.int .i64 x)).setCell ⟨g, r * 3 + 2, none⟩ (.bool y)) B p dv0 ev0 dv (.slice (some ⟨g, 0, none⟩) m c) { s with extra := s.extra.set r (s.extra[r].1, x, y) } := by
  have hm : m = s.extra.length := by
    rcases h.cut.extra.2 with ⟨h', _⟩ | ⟨_, _, _, h', _⟩
    · cases h'
    · injection h'
  subst hm
  have hnp : p ≠ g := fun e => h.cut.ne_extra (by simp [Value.ownBlock, e])
  obtain ⟨s1, g1⟩ := h.cut.extra.stored (r * 3 + 1) (.int .i64 x)
  obtain ⟨s2, g2⟩ := s1.stored (r * 3 + 2) (.bool y)
  rw [exCells_set _ _ hr] at s2
  have hnd : ∀ k, dv.ownBlock = some k → k ≠ g := fun k hk e => h.cut.ne_de hk (by rw [e]; rfl)
  refine ⟨⟨h.cut.le, ?_, ?_, by simpa using s2⟩, (h.keep.grown g1 ?_).grown g2 ?_, h.fresh⟩
  · refine h.cut.blk.of_block ?_
    rw [heap_setCell_other _ _ _ _ (by exact hnp), heap_setCell_other _ _ _ _ (by exact hnp)]
  · refine owns_of_block h.cut.data (fun k hk => ?_)
    rw [heap_setCell_other _ _ _ _ (by exact hnd k hk), heap_setCell_other _ _ _ _ (by exact hnd k hk)]
  · intro k hk; exact h.fresh k (Or.inr (Or.inr hk))
  · intro k hk; exact h.fresh k (Or.inr (Or.inr hk))

/-- 'c.data = c.data[:r+1]' -/
theorem Mid.cutTo {g q c : Nat} (h : Mid w0 w B p dv0 ev0 (.slice (some ⟨g, 0, none⟩) q c) ev s) {r : Nat} (hr : r + 1 ≤ q) :
    Mid w0 (w.setCell ⟨p, 0, none⟩ (.slice (some ⟨g, 0, none⟩) (r + 1) c)) B p dv0 ev0 (.slice (some ⟨g, 0, none⟩) (r + 1) c) ev { s with data := s.data.take (r + 1) } := by
  have hq : q = s.data.length := by
    rcases h.cut.data.2 with ⟨h', _⟩ | ⟨_, _, _, h', _⟩
    · cases h'
    · injection h'
  subst hq
  have hown : w.ownsRow B 5 1 (.slice (some ⟨g, 0, none⟩) (r + 1) c) (s.data.take (r + 1)).length ((s.data.take (r + 1)).map (Value.int .u8)) := by
    rcases h.cut.data.2 with ⟨h', _⟩ | ⟨g', c', cur, h', hb, hg, hnc, hcm, hcs, htake⟩
    · cases h'
    · simp only [Value.slice.injEq, Option.some.injEq, Addr.mk.injEq, and_true, true_and] at h'
      obtain ⟨rfl, rfl⟩ := h'
      have hl : (s.data.take (r + 1)).length = r + 1 := by simp; omega
      rw [hl]
      refine ⟨by simp; omega, Or.inr ⟨g, c, cur, rfl, hb, hg, by omega, hcm, hcs, ?_⟩⟩
      rw [List.map_take, ← htake, List.take_take, Nat.min_eq_left (by omega), Nat.mul_one]
  have hne : (Value.slice (some ⟨g, 0, none⟩) (r + 1) c).ownBlock ≠ some p := h.cut.ne_data
  exact ⟨⟨h.cut.le, h.cut.blk.set0 _, ownsRow_setCell_other hown hne _, ownsRow_setCell_other h.cut.extra h.cut.ne_extra _⟩, h.keep.setCell (Or.inl (Or.inl rfl)) _, h.fresh⟩

/-- behind an append to the repeats: the world w1 ahead of the store -/
structure GrewE (w0 w1 : World) (B p : Nat) (dv0 ev0 dv ev ev' : Value) (s : St) (ys : List (Int × Int × Bool)) : Prop where
  le : B ≤ p
  blk : Blk w1 p dv ev s.ra s.rr s.rp
  data : w1.ownsRow B 5 1 dv s.data.length (s.data.map (Value.int .u8))
  extra : w1.ownsRow B 69 3 ev' ys.length (exCells ys)
  keep : Keep w0 w1 (Foot p dv0 ev0)
  fresh : ∀ k, Foot p dv ev' k → Foot p dv0 ev0 k ∨ w0.heap.size ≤ k

theorem Mid.grewE (h : Mid w0 w B p dv0 ev0 dv ev s) {w1 : World} {g m cap : Nat} {ys : List (Int × Int × Bool)} {xs : List Value} (hown : w1.ownsRow B 69 3 (.slice (some ⟨g, 0, none⟩) m cap) m xs) (hm : m = ys.length) (hx : xs = exCells ys)
    (hg : w.grownBy w1 ev.ownBlock) (hat : ev.ownBlock = some g ∨ g = w.heap.size) : GrewE w0 w1 B p dv0 ev0 dv ev (.slice (some ⟨g, 0, none⟩) m cap) s ys := by
  subst hm
  subst hx
  refine ⟨h.cut.le, h.cut.blk.of_block (hg.block p h.cut.blk.lt (fun e => h.cut.ne_extra e.symm)),
    owns_of_block h.cut.data (fun k hk => hg.block k (h.cut.data.lt k hk).2 (fun e => h.cut.ne_de hk e.symm)), hown,
    h.keep.grown hg (fun k hk => h.fresh k (Or.inr (Or.inr hk))), fun k hk => ?_⟩
  rcases hk with rfl | hk | hk
  · exact h.fresh _ (Or.inl rfl)
  · exact h.fresh _ (Or.inr (Or.inl hk))
  · cases hk
    rcases hat with hat | hat
    · exact h.fresh _ (Or.inr (Or.inr hat))
    · have := h.keep.size; right; subst hat; exact this
theorem GrewE.store {w1 : World} {ev' : Value} {ys : List (Int × Int × Bool)} (h : GrewE w0 w1 B p dv0 ev0 dv ev ev' s ys) : Mid w0 (w1.setCell ⟨p, 2, none⟩ ev') B p dv0 ev0 dv ev' { s with extra := ys } := by
  have n1 : dv.ownBlock ≠ some p := fun e => by
    obtain ⟨cur, hc⟩ := owns_ty h.data e
    obtain ⟨arr, ha, _⟩ := h.blk
    rw [hc] at ha; simp at ha
  have n2 : ev'.ownBlock ≠ some p := fun e => by
    obtain ⟨cur, hc⟩ := owns_ty h.extra e
    obtain ⟨arr, ha, _⟩ := h.blk
    rw [hc] at ha; simp at ha
  exact ⟨⟨h.le, h.blk.set2 _, ownsRow_setCell_other h.data n1 _, ownsRow_setCell_other h.extra n2 _⟩, h.keep.setCell (Or.inl (Or.inl rfl)) _, h.fresh⟩
end
end Go.Proofs.Qxb6603268a
