import Derived.Test.Qxb6603268aRepeat
import Derived.OneCell
import Derived.Deep.AppendLies
namespace Go.Proofs.Qxb6603268a
open Go.RowKit

/-- what a cutter holds, as plain data: the bytes, the repeats (at, count, padding), the last run -/
structure St where
  data : List Int
  extra : List (Int × Int × Bool)
  ra : Int
  rr : Int
  rp : Bool

def St.zero : St := ⟨[], [], 0, 0, false⟩

def exCells (l : List (Int × Int × Bool)) : List Value := l.flatMap fun e => [.int .i64 e.1, .int .i64 e.2.1, .bool e.2.2]
theorem exCells_length (l : List (Int × Int × Bool)) : (exCells l).length = l.length * 3 := by
  induction l with
  | nil => rfl
  | cons a l ih =>
    have e : exCells (a :: l) = [Value.int .i64 a.1, .int .i64 a.2.1, .bool a.2.2] ++ exCells l := rfl
    rw [e, List.length_append, ih]; simp; omega
theorem exCells_append (l m : List (Int × Int × Bool)) : exCells (l ++ m) = exCells l ++ exCells m := by simp [exCells]

/-- between w and w' nothing has turned but the blocks of S and new ones -/
structure Keep (w w' : World) (S : Nat → Prop) : Prop where
  os : w'.os = w.os
  tape : w'.tape = w.tape
  output : w'.output = w.output
  size : w.heap.size ≤ w'.heap.size
  block : ∀ k, k < w.heap.size → ¬ S k → w'.heap[k]? = w.heap[k]?

theorem Keep.refl (w : World) (S : Nat → Prop) : Keep w w S := ⟨rfl, rfl, rfl, Nat.le_refl _, fun _ _ _ => rfl⟩
theorem Keep.trans {a b c : World} {S T : Nat → Prop} (h : Keep a b S) (k : Keep b c T) (hT : ∀ i, T i → S i ∨ a.heap.size ≤ i) : Keep a c S :=
  ⟨k.os.trans h.os, k.tape.trans h.tape, k.output.trans h.output, Nat.le_trans h.size k.size, fun i hi hn =>
    (k.block i (Nat.lt_of_lt_of_le hi h.size) (fun ht => by rcases hT i ht with h' | h'; exact hn h'; omega)).trans (h.block i hi hn)⟩
theorem Keep.drew {a w : World} {S : Nat → Prop} (h : Keep a w S) : Keep a w.drew S := ⟨h.os, h.tape, h.output, h.size, h.block⟩
theorem Keep.alloc {a w : World} {S : Nat → Prop} (h : Keep a w S) (o : Obj) : Keep a (w.alloc o) S :=
  h.trans (T := fun _ => False) ⟨rfl, rfl, rfl, by simp, fun k hk _ => Below.heap_alloc _ _ _ hk⟩ (fun _ h => h.elim)
theorem Keep.setCell {a w : World} {S : Nat → Prop} (h : Keep a w S) {p : Addr} (hp : S p.block ∨ a.heap.size ≤ p.block) (u : Value) : Keep a (w.setCell p u) S :=
  h.trans (T := fun i => i = p.block) ⟨rfl, rfl, rfl, by simp [World.setCell], fun k _ hn => Below.heap_setCell _ _ _ _ hn⟩ (fun i hi => by rw [hi]; exact hp)
theorem Keep.grown {a w w' : World} {S : Nat → Prop} {row : Option Nat} (h : Keep a w S) (hg : w.grownBy w' row) (hr : ∀ k, row = some k → S k ∨ a.heap.size ≤ k) : Keep a w' S :=
  h.trans (T := fun i => row = some i) ⟨hg.os, hg.tape, hg.output, hg.size, fun k hk hn => hg.block k hk (fun e => hn e.symm)⟩ hr
theorem Keep.of_below {w w' : World} (h : Below w.heap.size w w') (S : Nat → Prop) : Keep w w' S := ⟨h.os, h.tape, h.output, h.size, fun k hk _ => h.block k hk⟩
theorem Keep.below {w w' : World} {S : Nat → Prop} (h : Keep w w' S) {B : Nat} (hB : B ≤ w.heap.size) (hS : ∀ k, S k → B ≤ k) : Below B w w' :=
  ⟨h.os, h.tape, h.output, h.size, fun k hk => h.block k (by omega) (fun hs => by have := hS k hs; omega)⟩
theorem Keep.cell {w w' : World} {S : Nat → Prop} (h : Keep w w' S) {p : Addr} (hp : p.block < w.heap.size) (hn : ¬ S p.block) : w'.cell? p = w.cell? p := World.cell?_of_block (w := w) (h.block p.block hp hn)
theorem Keep.weaken {w w' : World} {S T : Nat → Prop} (h : Keep w w' S) (hST : ∀ k, S k → T k) : Keep w w' T := ⟨h.os, h.tape, h.output, h.size, fun k hk hn => h.block k hk (fun hs => hn (hST k hs))⟩

/-- an owned row stays where its block stays -/
theorem owns_of_block {w w' : World} {base : Nat} {e : TypeId} {size : Nat} {v : Value} {n : Nat} {xs : List Value} (h : w.ownsRow base e size v n xs) (hb : ∀ g, v.ownBlock = some g → w'.heap[g]? = w.heap[g]?) : w'.ownsRow base e size v n xs := by
  obtain ⟨h1, h2⟩ := h
  refine ⟨h1, ?_⟩
  rcases h2 with h2 | ⟨g, cap, cur, hv, hg, hh, r⟩
  · exact Or.inl h2
  · subst hv
    exact Or.inr ⟨g, cap, cur, rfl, hg, by rw [hb g rfl]; exact hh, r⟩
theorem owns_ty {w : World} {base : Nat} {e : TypeId} {size : Nat} {v : Value} {n : Nat} {xs : List Value} (h : w.ownsRow base e size v n xs) {g : Nat} (hg : v.ownBlock = some g) : ∃ cur, w.heap[g]? = some (.cells cur e (0, 0)) := by
  rcases h.2 with ⟨rfl, _⟩ | ⟨g', cap, cur, rfl, _, hh, _⟩
  · cases hg
  · cases hg; exact ⟨cur, hh⟩

/-- the cutter's own block -/
def Blk (w : World) (p : Nat) (dv ev : Value) (ra rr : Int) (rp : Bool) : Prop :=
  ∃ arr : Array Value, w.heap[p]? = some (.cells arr 56 (0, 0)) ∧ arr.size = 26 ∧ arr[0]? = some dv ∧ arr[2]? = some ev ∧ arr[5]? = some (.int .i64 ra) ∧ arr[6]? = some (.int .i64 rr) ∧ arr[7]? = some (.bool rp)

section
variable {w : World} {p : Nat} {dv ev : Value} {ra rr : Int} {rp : Bool}
theorem Blk.of_block {w' : World} (h : Blk w p dv ev ra rr rp) (hb : w'.heap[p]? = w.heap[p]?) : Blk w' p dv ev ra rr rp := by
  obtain ⟨arr, h1, h2⟩ := h
  exact ⟨arr, hb.trans h1, h2⟩
theorem Blk.c0 (h : Blk w p dv ev ra rr rp) : w.cell? ⟨p, 0, none⟩ = some dv := by
  obtain ⟨arr, h1, _, h2, _⟩ := h; rw [cell_of_row w p 0 arr 56 _ h1]; exact h2
theorem Blk.c2 (h : Blk w p dv ev ra rr rp) : w.cell? ⟨p, 2, none⟩ = some ev := by
  obtain ⟨arr, h1, _, _, h2, _⟩ := h; rw [cell_of_row w p 2 arr 56 _ h1]; exact h2
theorem Blk.c5 (h : Blk w p dv ev ra rr rp) : w.cell? ⟨p, 5, none⟩ = some (.int .i64 ra) := by
  obtain ⟨arr, h1, _, _, _, h2, _⟩ := h; rw [cell_of_row w p 5 arr 56 _ h1]; exact h2
theorem Blk.c6 (h : Blk w p dv ev ra rr rp) : w.cell? ⟨p, 6, none⟩ = some (.int .i64 rr) := by
  obtain ⟨arr, h1, _, _, _, _, h2, _⟩ := h; rw [cell_of_row w p 6 arr 56 _ h1]; exact h2
theorem Blk.c7 (h : Blk w p dv ev ra rr rp) : w.cell? ⟨p, 7, none⟩ = some (.bool rp) := by
  obtain ⟨arr, h1, _, _, _, _, _, h2⟩ := h; rw [cell_of_row w p 7 arr 56 _ h1]; exact h2
theorem Blk.fz (h : Blk w p dv ev ra rr rp) (j : Nat) : w.frozen? ⟨p, j, none⟩ = false := by
  obtain ⟨arr, h1, _⟩ := h; exact frozen_of_row w p j arr 56 h1
theorem Blk.lt (h : Blk w p dv ev ra rr rp) : p < w.heap.size := by obtain ⟨arr, h1, _⟩ := h; exact lt_of_block h1
theorem Blk.set0 (h : Blk w p dv ev ra rr rp) (x : Value) : Blk (w.setCell ⟨p, 0, none⟩ x) p x ev ra rr rp := by
  obtain ⟨arr, h1, h2, h3, h4, h5, h6, h7⟩ := h
  exact ⟨_, heap_setCell_same w p 0 arr 56 x h1, by simp [h2], by simp [h2], by simpa using h4, by simpa using h5, by simpa using h6, by simpa using h7⟩
theorem Blk.set2 (h : Blk w p dv ev ra rr rp) (x : Value) : Blk (w.setCell ⟨p, 2, none⟩ x) p dv x ra rr rp := by
  obtain ⟨arr, h1, h2, h3, h4, h5, h6, h7⟩ := h
  exact ⟨_, heap_setCell_same w p 2 arr 56 x h1, by simp [h2], by simpa using h3, by simp [h2], by simpa using h5, by simpa using h6, by simpa using h7⟩
theorem Blk.set5 (h : Blk w p dv ev ra rr rp) (x : Int) : Blk (w.setCell ⟨p, 5, none⟩ (.int .i64 x)) p dv ev x rr rp := by
  obtain ⟨arr, h1, h2, h3, h4, h5, h6, h7⟩ := h
  exact ⟨_, heap_setCell_same w p 5 arr 56 _ h1, by simp [h2], by simpa using h3, by simpa using h4, by simp [h2], by simpa using h6, by simpa using h7⟩
theorem Blk.set6 (h : Blk w p dv ev ra rr rp) (x : Int) : Blk (w.setCell ⟨p, 6, none⟩ (.int .i64 x)) p dv ev ra x rp := by
  obtain ⟨arr, h1, h2, h3, h4, h5, h6, h7⟩ := h
  exact ⟨_, heap_setCell_same w p 6 arr 56 _ h1, by simp [h2], by simpa using h3, by simpa using h4, by simpa using h5, by simp [h2], by simpa using h7⟩
theorem Blk.set7 (h : Blk w p dv ev ra rr rp) (x : Bool) : Blk (w.setCell ⟨p, 7, none⟩ (.bool x)) p dv ev ra rr x := by
  obtain ⟨arr, h1, h2, h3, h4, h5, h6, h7⟩ := h
  exact ⟨_, heap_setCell_same w p 7 arr 56 _ h1, by simp [h2], by simpa using h3, by simpa using h4, by simpa using h5, by simpa using h6, by simp [h2]⟩
end

/-- a cutter at p: its block, its bytes, its repeats -/
structure CutAt (w : World) (B p : Nat) (dv ev : Value) (s : St) : Prop where
  le : B ≤ p
  blk : Blk w p dv ev s.ra s.rr s.rp
  data : w.ownsRow B 5 1 dv s.data.length (s.data.map (Value.int .u8))
  extra : w.ownsRow B 69 3 ev s.extra.length (exCells s.extra)

/-- the blocks of a cutter -/
def Foot (p : Nat) (dv ev : Value) (k : Nat) : Prop := k = p ∨ dv.ownBlock = some k ∨ ev.ownBlock = some k

section
variable {w : World} {B p : Nat} {dv ev : Value} {s : St}
theorem CutAt.foot (h : CutAt w B p dv ev s) {k : Nat} (hk : Foot p dv ev k) : B ≤ k ∧ k < w.heap.size := by
  rcases hk with rfl | hk | hk
  · exact ⟨h.le, h.blk.lt⟩
  · exact h.data.lt k hk
  · exact h.extra.lt k hk
theorem CutAt.ne_data (h : CutAt w B p dv ev s) : dv.ownBlock ≠ some p := fun e => by
  obtain ⟨cur, hc⟩ := owns_ty h.data e
  obtain ⟨arr, ha, _⟩ := h.blk
  rw [hc] at ha; simp at ha
theorem CutAt.ne_extra (h : CutAt w B p dv ev s) : ev.ownBlock ≠ some p := fun e => by
  obtain ⟨cur, hc⟩ := owns_ty h.extra e
  obtain ⟨arr, ha, _⟩ := h.blk
  rw [hc] at ha; simp at ha
theorem CutAt.ne_de (h : CutAt w B p dv ev s) {g : Nat} (hd : dv.ownBlock = some g) : ev.ownBlock ≠ some g := fun e => by
  obtain ⟨cur, hc⟩ := owns_ty h.extra e
  obtain ⟨arr, ha⟩ := owns_ty h.data hd
  rw [hc] at ha; simp at ha
theorem CutAt.kept {w' : World} (h : CutAt w B p dv ev s) (hb : ∀ k, Foot p dv ev k → w'.heap[k]? = w.heap[k]?) : CutAt w' B p dv ev s :=
  ⟨h.le, h.blk.of_block (hb p (Or.inl rfl)), owns_of_block h.data (fun g hg => hb g (Or.inr (Or.inl hg))), owns_of_block h.extra (fun g hg => hb g (Or.inr (Or.inr hg)))⟩
theorem CutAt.keep {w' : World} {S : Nat → Prop} (h : CutAt w B p dv ev s) (hk : Keep w w' S) (hS : ∀ k, Foot p dv ev k → ¬ S k) : CutAt w' B p dv ev s :=
  h.kept fun k hf => hk.block k (h.foot hf).2 (hS k hf)
end

/-- in the midst of hold: the cutter began as (dv0, ev0) in w0 and is now (dv, ev) with the state s in w -/
structure Mid (w0 w : World) (B p : Nat) (dv0 ev0 dv ev : Value) (s : St) : Prop where
  cut : CutAt w B p dv ev s
  keep : Keep w0 w (Foot p dv0 ev0)
  fresh : ∀ k, Foot p dv ev k → Foot p dv0 ev0 k ∨ w0.heap.size ≤ k

theorem Mid.start {w : World} {B p : Nat} {dv ev : Value} {s : St} (h : CutAt w B p dv ev s) : Mid w w B p dv ev dv ev s := ⟨h, Keep.refl _ _, fun _ h => Or.inl h⟩

section
variable {w0 w : World} {B p : Nat} {dv0 ev0 dv ev : Value} {s : St}
theorem Mid.drew (h : Mid w0 w B p dv0 ev0 dv ev s) : Mid w0 w.drew B p dv0 ev0 dv ev s := ⟨h.cut.kept (fun _ _ => rfl), h.keep.drew, h.fresh⟩
theorem Mid.alloc (h : Mid w0 w B p dv0 ev0 dv ev s) (o : Obj) : Mid w0 (w.alloc o) B p dv0 ev0 dv ev s := ⟨h.cut.kept (fun _ hk => Below.heap_alloc _ _ _ (h.cut.foot hk).2), h.keep.alloc o, h.fresh⟩
theorem Mid.below {w' : World} (h : Mid w0 w B p dv0 ev0 dv ev s) (hb : Below w.heap.size w w') : Mid w0 w' B p dv0 ev0 dv ev s :=
  ⟨h.cut.kept (fun k hk => hb.block k (h.cut.foot hk).2), h.keep.trans (Keep.of_below hb (fun _ => False)) (fun _ h => h.elim), h.fresh⟩
theorem Mid.set5 (h : Mid w0 w B p dv0 ev0 dv ev s) (x : Int) : Mid w0 (w.setCell ⟨p, 5, none⟩ (.int .i64 x)) B p dv0 ev0 dv ev { s with ra := x } :=
  ⟨⟨h.cut.le, h.cut.blk.set5 x, ownsRow_setCell_other h.cut.data h.cut.ne_data _, ownsRow_setCell_other h.cut.extra h.cut.ne_extra _⟩, h.keep.setCell (Or.inl (Or.inl rfl)) _, h.fresh⟩
theorem Mid.set6 (h : Mid w0 w B p dv0 ev0 dv ev s) (x : Int) : Mid w0 (w.setCell ⟨p, 6, none⟩ (.int .i64 x)) B p dv0 ev0 dv ev { s with rr := x } :=
  ⟨⟨h.cut.le, h.cut.blk.set6 x, ownsRow_setCell_other h.cut.data h.cut.ne_data _, ownsRow_setCell_other h.cut.extra h.cut.ne_extra _⟩, h.keep.setCell (Or.inl (Or.inl rfl)) _, h.fresh⟩
theorem Mid.set7 (h : Mid w0 w B p dv0 ev0 dv ev s) (x : Bool) : Mid w0 (w.setCell ⟨p, 7, none⟩ (.bool x)) B p dv0 ev0 dv ev { s with rp := x } :=
  ⟨⟨h.cut.le, h.cut.blk.set7 x, ownsRow_setCell_other h.cut.data h.cut.ne_data _, ownsRow_setCell_other h.cut.extra h.cut.ne_extra _⟩, h.keep.setCell (Or.inl (Or.inl rfl)) _, h.fresh⟩

/-- behind an append to the bytes: the world w1 ahead of the store -/
structure Grew (w0 w1 : World) (B p : Nat) (dv0 ev0 dv ev dv' : Value) (s : St) (ys : List Int) : Prop where
  le : B ≤ p
  blk : Blk w1 p dv ev s.ra s.rr s.rp
  data : w1.ownsRow B 5 1 dv' ys.length (ys.map (Value.int .u8))
  extra : w1.ownsRow B 69 3 ev s.extra.length (exCells s.extra)
  keep : Keep w0 w1 (Foot p dv0 ev0)
  fresh : ∀ k, Foot p dv' ev k → Foot p dv0 ev0 k ∨ w0.heap.size ≤ k

theorem Mid.grew (h : Mid w0 w B p dv0 ev0 dv ev s) {w1 : World} {g m cap : Nat} {ys : List Int} {xs : List Value} (hown : w1.ownsRow B 5 1 (.slice (some ⟨g, 0, none⟩) m cap) m xs) (hm : m = ys.length) (hx : xs = ys.map (Value.int .u8))
    (hg : w.grownBy w1 dv.ownBlock) (hat : dv.ownBlock = some g ∨ g = w.heap.size) : Grew w0 w1 B p dv0 ev0 dv ev (.slice (some ⟨g, 0, none⟩) m cap) s ys := by
  subst hm
  subst hx
  refine ⟨h.cut.le, h.cut.blk.of_block (hg.block p h.cut.blk.lt (fun e => h.cut.ne_data e.symm)), hown,
    owns_of_block h.cut.extra (fun k hk => hg.block k (h.cut.extra.lt k hk).2 (fun e => h.cut.ne_de e.symm hk)),
    h.keep.grown hg (fun k hk => h.fresh k (Or.inr (Or.inl hk))), fun k hk => ?_⟩
  rcases hk with rfl | hk | hk
  · exact h.fresh _ (Or.inl rfl)
  · cases hk
    rcases hat with hat | hat
    · exact h.fresh _ (Or.inr (Or.inl hat))
    · have := h.keep.size; right; subst hat; exact this
  · exact h.fresh _ (Or.inr (Or.inr hk))
theorem Grew.store {w1 : World} {dv' : Value} {ys : List Int} (h : Grew w0 w1 B p dv0 ev0 dv ev dv' s ys) : Mid w0 (w1.setCell ⟨p, 0, none⟩ dv') B p dv0 ev0 dv' ev { s with data := ys } := by
  have n1 : dv'.ownBlock ≠ some p := fun e => by
    obtain ⟨cur, hc⟩ := owns_ty h.data e
    obtain ⟨arr, ha, _⟩ := h.blk
    rw [hc] at ha; simp at ha
  have n2 : ev.ownBlock ≠ some p := fun e => by
    obtain ⟨cur, hc⟩ := owns_ty h.extra e
    obtain ⟨arr, ha, _⟩ := h.blk
    rw [hc] at ha; simp at ha
  exact ⟨⟨h.le, h.blk.set0 _, ownsRow_setCell_other h.data n1 _, ownsRow_setCell_other h.extra n2 _⟩, h.keep.setCell (Or.inl (Or.inl rfl)) _, h.fresh⟩
end

/-- what hold leaves -/
def Held (w0 w : World) (B p : Nat) (dv0 ev0 : Value) (s : St) : Prop := ∃ dv ev, Mid w0 w B p dv0 ev0 dv ev s
theorem Mid.held {w0 w : World} {B p : Nat} {dv0 ev0 dv ev : Value} {s : St} (h : Mid w0 w B p dv0 ev0 dv ev s) : Held w0 w B p dv0 ev0 s := ⟨dv, ev, h⟩
theorem Mid.trans {w0 w1 w2 : World} {B p : Nat} {dv0 ev0 dv1 ev1 dv2 ev2 : Value} {s1 s2 : St} (h : Mid w0 w1 B p dv0 ev0 dv1 ev1 s1) (k : Mid w1 w2 B p dv1 ev1 dv2 ev2 s2) : Mid w0 w2 B p dv0 ev0 dv2 ev2 s2 :=
  ⟨k.cut, h.keep.trans k.keep h.fresh, fun i hi => by
    rcases k.fresh i hi with h' | h'
    · exact h.fresh i h'
    · have := h.keep.size; right; omega⟩
end Go.Proofs.Qxb6603268a
