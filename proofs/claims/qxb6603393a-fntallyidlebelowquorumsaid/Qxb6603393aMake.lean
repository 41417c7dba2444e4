import Derived.Test.Qxb6603393aRead
namespace Go.Proofs.Qxb6603393a
open Go.RowKit
set_option linter.unusedSimpArgs false
set_option linter.unusedVariables false

/-- the first k values laid, the others still zero -/
def half {α : Type} (f : α → Value) (z : Value) (zs : List α) (k : Nat) : List Value := (zs.take k).map f ++ List.replicate (zs.length - k) z
theorem half_zero {α : Type} (f : α → Value) (z : Value) (zs : List α) : half f z zs 0 = List.replicate zs.length z := by simp [half]
theorem half_full {α : Type} (f : α → Value) (z : Value) (zs : List α) : half f z zs zs.length = zs.map f := by simp [half]
theorem half_length {α : Type} (f : α → Value) (z : Value) (zs : List α) (k : Nat) (h : k ≤ zs.length) : (half f z zs k).length = zs.length := by simp [half]; omega
theorem half_succ {α : Type} (f : α → Value) (z : Value) (zs : List α) (k : Nat) (h : k < zs.length) : (half f z zs k).set k (f zs[k]) = half f z zs (k + 1) := by
  unfold half
  have h1 : ((zs.take k).map f).length = k := by simp; omega
  rw [List.set_append_right _ _ (by omega), h1, Nat.sub_self]
  obtain ⟨m, hm⟩ : ∃ m, zs.length - k = m + 1 := ⟨zs.length - k - 1, by omega⟩
  have hm' : zs.length - (k + 1) = m := by omega
  rw [hm, hm', List.replicate_succ, List.set_cons_zero, List.take_succ_eq_append_getElem h, List.map_append, List.append_assoc]
  rfl

theorem info4 : (Try.prog.info? 4).map (fun i => (i.zero, i.size, i.bytes)) = some (some (.bool false), 1, 1) := by kernel_rfl

def CloneAt (zs : List Bool) (w wr : World) (k : Nat) : Prop :=
  wr.ownsRow w.heap.size 4 1 (.slice (some ⟨w.heap.size, 0, none⟩) zs.length zs.length) zs.length (half Value.bool (.bool false) zs k) ∧ Below w.heap.size w wr
theorem CloneAt.start (zs : List Bool) {w w1 : World} (h : w1.ownsRow w.heap.size 4 1 (.slice (some ⟨w.heap.size, 0, none⟩) zs.length zs.length) zs.length (madeCells #[.bool false] (zs.length * 1)).toList)
    (hg : w.grownBy w1 none) : CloneAt zs w w1 0 := by
  refine ⟨?_, (Below.refl _ _).grown hg (Nat.le_refl _) (fun k hk => by cases hk)⟩
  rw [half_zero]
  rw [toList_madeCells_one, Nat.mul_one] at h
  exact h
theorem CloneAt.step {zs : List Bool} {w wr : World} {k : Nat} (h : CloneAt zs w wr k) (hk : k < zs.length) : CloneAt zs w (wr.setCell ⟨w.heap.size, k, none⟩ (.bool zs[k])) (k + 1) := by
  obtain ⟨h1, h2⟩ := h
  obtain ⟨s1, s2⟩ := h1.stored k (.bool zs[k])
  rw [half_succ _ _ _ _ hk] at s1
  exact ⟨s1, h2.grown s2 h2.size (fun k hk => by cases hk; exact Nat.le_refl _)⟩
/-- what the clone gives -/
def Cloned (w w' : World) (zs : List Bool) (e : Ending) : Prop := e = .returned (.slice (some ⟨w.heap.size, 0, none⟩) zs.length zs.length) ∧ w'.ownsRow w.heap.size 4 1 (.slice (some ⟨w.heap.size, 0, none⟩) zs.length zs.length) zs.length (zs.map Value.bool) ∧ Below w.heap.size w w'
theorem CloneAt.done {zs : List Bool} {w wr : World} (h : CloneAt zs w wr zs.length) : Cloned w wr zs (.returned (.slice (some ⟨w.heap.size, 0, none⟩) zs.length zs.length)) := by
  obtain ⟨h1, h2⟩ := h
  rw [half_full] at h1
  exact ⟨rfl, h1, h2⟩

set_option maxHeartbeats 1000000 in
theorem clone_any (a : Addr) (c : Nat) (zs : List Bool) (w : World) (hlen : zs.length ≤ 1048576) (hc : Src w (some a) (zs.map Value.bool)) :
    Calls Try.prog 16 #[.slice (some a) zs.length c] w fun e w' => Cloned w w' zs e := by
  have hnil := fun (w : World) (a : Option Addr) (n c : Nat) => Lib.run_eql_slice_nil (P := Try.prog) w 24 4 a n c 0 0 Try.underlying24
  obtain ⟨i0, hi, hz0, hz1, hz2⟩ := info_parts info4
  have HC := hide hc
  clear hc
  go_enter Try.func16, Try.ntmps16
  go_wp2_with (at_make; refine wpList_make_full _ rfl _ _ 24 rfl w.heap.size 4 i0 (.bool false) 1 Try.underlying24 hi hz0 hz1 _ _ _ _ zs.length rfl rfl rfl rfl (by rw [hz2]; omega) (by unfold maxLen; omega) (Nat.le_refl _) ?_; intro w1 hown hgr)
  have hst := CloneAt.start zs hown hgr
  clear hown hgr
  go_loopw [12] (fun i wr => ∃ k : Nat, k ≤ zs.length ∧ i = .int .i64 k ∧ CloneAt zs w wr k) (fun i _ => zs.length - (intOf i).toNat)
  case atStart => exact ⟨0, Nat.zero_le _, rfl, hst⟩
  case round =>
    obtain ⟨k, hk, rfl, hat⟩ := hrel
    by_cases hlt : k < zs.length
    · obtain ⟨b, off, ha, hcw⟩ := unhide HC k (Value.bool zs[k]) (by simp [hlt])
      obtain rfl : a = ⟨b, off, none⟩ := by simpa using ha
      have hcell := (hat.2.cell (p := ⟨b, off + k, none⟩) (World.block_lt_of_cell? w _ hcw)).trans hcw
      obtain ⟨u, hu⟩ : ∃ u, wr.cell? ⟨w.heap.size, k, none⟩ = some u := ⟨_, (hat.1.cellAt k (by omega)).trans (List.getElem?_eq_getElem (by rw [half_length _ _ _ _ hk]; exact hlt))⟩
      have hfz := hat.1.frozenAt k
      have R := hat.step hlt
      clear hat HC hst ha hcw
      go_wp2
      go_roundw
      case rel => exact ⟨k + 1, by omega, by go_num, R⟩
      case measure => simp [intOf]; omega
    · obtain rfl : k = zs.length := by omega
      have R := hat.done
      clear hat hst
      go_wp2
      go_ret
      exact R

def zeroMsg : Array Value := #[.int .i64 0, .int .i64 0, .string ⟨#[]⟩, .int .i64 0, .slice none 0 0, .int .i64 0, .int .i64 0, .bool false, .bool false, .slice none 0 0, .slice none 0 0, .pointer none, .int .i64 0, .slice none 0 0]
theorem info66 : (Try.prog.info? 66).map (fun i => (i.zero, i.size, i.bytes)) = some (some (.agg zeroMsg), 14, 176) := by kernel_rfl

/-- the first k messages are laid in the row g -/
def MsgRow (w wr : World) (g : Nat) (ms : List CM) (k : Nat) : Prop :=
  (∃ cur : Array Value, wr.heap[g]? = some (.cells cur 66 (0, 0)) ∧ cur.size = ms.length * 14 ∧ ∀ i (h : i < ms.length), i < k → cur[i * 14 + 1]? = some (.int .i64 ms[i].sender) ∧ cur[i * 14 + 4]? = some (.slice ms[i].o ms[i].halt.length ms[i].cap)) ∧
  Below w.heap.size w wr ∧ w.heap.size ≤ g

theorem MsgRow.drew {w wr : World} {g : Nat} {ms : List CM} {k : Nat} (h : MsgRow w wr g ms k) : MsgRow w wr.drew g ms k := by
  obtain ⟨⟨c3, h1, h2, h3⟩, h4, h5⟩ := h
  exact ⟨⟨c3, h1, h2, h3⟩, h4.drew, h5⟩
theorem rowSet {w : World} {g : Nat} {cur : Array Value} (h : w.heap[g]? = some (.cells cur 66 (0, 0))) (i : Nat) (v : Value) : (w.setCell ⟨g, i, none⟩ v).heap[g]? = some (.cells (cur.setIfInBounds i v) 66 (0, 0)) := heap_setCell_same w g i cur 66 v h
theorem rowSet14 {w0 w : World} {B g o : Nat} {cur : Array Value} (a0 a1 a2 a3 a4 a5 a6 a7 a8 a9 a10 a11 a12 a13 : Value) (hg : w.heap[g]? = some (.cells cur 66 (0, 0))) (hs : o + 14 ≤ cur.size) (hb : Below B w0 w) (hg0 : B ≤ g) :
    ∃ cur' : Array Value, ((((((((((((((w.setCell ⟨g, o, none⟩ a0).setCell ⟨g, o + 1, none⟩ a1).setCell ⟨g, o + 2, none⟩ a2).setCell ⟨g, o + 3, none⟩ a3).setCell ⟨g, o + 4, none⟩ a4).setCell ⟨g, o + 5, none⟩ a5).setCell ⟨g, o + 6, none⟩ a6).setCell ⟨g, o + 7, none⟩ a7).setCell ⟨g, o + 8, none⟩ a8).setCell ⟨g, o + 9, none⟩ a9).setCell ⟨g, o + 10, none⟩ a10).setCell ⟨g, o + 11, none⟩ a11).setCell ⟨g, o + 12, none⟩ a12).setCell ⟨g, o + 13, none⟩ a13).heap[g]? = some (.cells cur' 66 (0, 0)) ∧ cur'.size = cur.size ∧ cur'[o + 1]? = some a1 ∧ cur'[o + 3]? = some a3 ∧ cur'[o + 4]? = some a4 ∧ cur'[o + 5]? = some a5 ∧ cur'[o + 6]? = some a6 ∧ cur'[o + 7]? = some a7 ∧
      (∀ j, j < o → cur'[j]? = cur[j]?) ∧ Below B w0 ((((((((((((((w.setCell ⟨g, o, none⟩ a0).setCell ⟨g, o + 1, none⟩ a1).setCell ⟨g, o + 2, none⟩ a2).setCell ⟨g, o + 3, none⟩ a3).setCell ⟨g, o + 4, none⟩ a4).setCell ⟨g, o + 5, none⟩ a5).setCell ⟨g, o + 6, none⟩ a6).setCell ⟨g, o + 7, none⟩ a7).setCell ⟨g, o + 8, none⟩ a8).setCell ⟨g, o + 9, none⟩ a9).setCell ⟨g, o + 10, none⟩ a10).setCell ⟨g, o + 11, none⟩ a11).setCell ⟨g, o + 12, none⟩ a12).setCell ⟨g, o + 13, none⟩ a13) := by
  refine ⟨((((((((((((((cur.setIfInBounds o a0).setIfInBounds (o + 1) a1).setIfInBounds (o + 2) a2).setIfInBounds (o + 3) a3).setIfInBounds (o + 4) a4).setIfInBounds (o + 5) a5).setIfInBounds (o + 6) a6).setIfInBounds (o + 7) a7).setIfInBounds (o + 8) a8).setIfInBounds (o + 9) a9).setIfInBounds (o + 10) a10).setIfInBounds (o + 11) a11).setIfInBounds (o + 12) a12).setIfInBounds (o + 13) a13), (rowSet (rowSet (rowSet (rowSet (rowSet (rowSet (rowSet (rowSet (rowSet (rowSet (rowSet (rowSet (rowSet (rowSet hg _ _) _ _) _ _) _ _) _ _) _ _) _ _) _ _) _ _) _ _) _ _) _ _) _ _) _ _), by simp, ?_, ?_, ?_, ?_, ?_, ?_, fun j hj => ?_, ((((((((((((((hb.setCell (by exact hg0) _).setCell (by exact hg0) _).setCell (by exact hg0) _).setCell (by exact hg0) _).setCell (by exact hg0) _).setCell (by exact hg0) _).setCell (by exact hg0) _).setCell (by exact hg0) _).setCell (by exact hg0) _).setCell (by exact hg0) _).setCell (by exact hg0) _).setCell (by exact hg0) _).setCell (by exact hg0) _).setCell (by exact hg0) _)⟩
  · simp only [Array.getElem?_setIfInBounds, Array.size_setIfInBounds]
    simp; omega
  · simp only [Array.getElem?_setIfInBounds, Array.size_setIfInBounds]
    simp; omega
  · simp only [Array.getElem?_setIfInBounds, Array.size_setIfInBounds]
    simp; omega
  · simp only [Array.getElem?_setIfInBounds, Array.size_setIfInBounds]
    simp; omega
  · simp only [Array.getElem?_setIfInBounds, Array.size_setIfInBounds]
    simp; omega
  · simp only [Array.getElem?_setIfInBounds, Array.size_setIfInBounds]
    simp; omega
  · simp only [Array.getElem?_setIfInBounds, Array.size_setIfInBounds]
    repeat rw [if_neg (by omega)]

set_option maxHeartbeats 2000000 in
theorem messages_any (o : Option Addr) (c : Nat) (ms : List CM) (w : World) (hlen : ms.length ≤ 65536) (hm : MsgsAt w o ms) :
    Calls Try.prog 15 #[.slice o ms.length c] w fun e w' => e = .returned (.slice (some ⟨w.heap.size, 0, none⟩) ms.length ms.length) ∧ MsgRow w w' w.heap.size ms ms.length := by
  obtain ⟨i0, hi, hz0, hz1, hz2⟩ := info_parts info66
  have HM := hide hm
  clear hm
  go_enter Try.func15, Try.ntmps15
  go_wp2_with (at_make; refine wpList_make_full _ rfl _ _ 33 rfl w.heap.size 66 i0 (.agg zeroMsg) 14 Try.underlying33 hi hz0 hz1 _ _ _ _ ms.length rfl rfl rfl rfl (by rw [hz2]; omega) (by unfold maxLen; omega) (Nat.le_refl _) ?_; intro w1 hown hgr)
  have hst : MsgRow w w1 w.heap.size ms 0 := by
    refine ⟨?_, (Below.refl _ _).grown hgr (Nat.le_refl _) (fun k hk => by cases hk), Nat.le_refl _⟩
    rcases hown.2 with ⟨h', _⟩ | ⟨g', cap', cur, h', _, hg, _, _, hcs, _⟩
    · cases h'
    · simp only [Value.slice.injEq, Option.some.injEq, Addr.mk.injEq, and_true, true_and] at h'
      obtain ⟨h1, h2⟩ := h'
      subst h1; subst h2
      exact ⟨cur, hg, hcs, fun i h h' => by omega⟩
  have HST := hide hst
  clear hown hgr hst
  go_loopw [10] (fun i wr => ∃ k : Nat, k ≤ ms.length ∧ i = .int .i64 k ∧ MsgRow w wr w.heap.size ms k) (fun i _ => ms.length - (intOf i).toNat)
  case atStart => exact ⟨0, Nat.zero_le _, rfl, unhide HST⟩
  case round =>
    obtain ⟨k, hk, rfl, hrow⟩ := hrel
    clear HST
    by_cases hlt : k < ms.length
    · have hb := hrow.2.1
      obtain ⟨b, off, e, q1, q2, _, hl⟩ := unhide HM k hlt
      have r1 := (hb.cell (World.block_lt_of_cell? w _ q1)).trans q1
      have r2 := (hb.cell (World.block_lt_of_cell? w _ q2)).trans q2
      subst e
      have HR := hide hrow
      have hkl : (k : Int) < (ms.length : Int) := by omega
      obtain ⟨cur, hg, hsz, hcur⟩ := hrow.1
      have hc : ∀ j, j < 14 → ∃ v, wr.cell? ⟨w.heap.size, k * 14 + j, none⟩ = some v := fun j hj => by
        rw [cell_of_row wr _ (k * 14 + j) cur 66 _ hg]
        exact ⟨_, Array.getElem?_eq_getElem (by omega)⟩
      have hf : ∀ j, wr.frozen? ⟨w.heap.size, j, none⟩ = false := fun j => frozen_of_row wr _ j cur 66 hg
      obtain ⟨v0, x0⟩ := hc 0 (by decide)
      obtain ⟨v1, x1⟩ := hc 1 (by decide)
      obtain ⟨v2, x2⟩ := hc 2 (by decide)
      obtain ⟨v3, x3⟩ := hc 3 (by decide)
      obtain ⟨v4, x4⟩ := hc 4 (by decide)
      obtain ⟨v5, x5⟩ := hc 5 (by decide)
      obtain ⟨v6, x6⟩ := hc 6 (by decide)
      obtain ⟨v7, x7⟩ := hc 7 (by decide)
      obtain ⟨v8, x8⟩ := hc 8 (by decide)
      obtain ⟨v9, x9⟩ := hc 9 (by decide)
      obtain ⟨v10, x10⟩ := hc 10 (by decide)
      obtain ⟨v11, x11⟩ := hc 11 (by decide)
      obtain ⟨v12, x12⟩ := hc 12 (by decide)
      obtain ⟨v13, x13⟩ := hc 13 (by decide)
      rw [Nat.add_zero] at x0
      clear hc hcur hrow hb q1 q2
      go_wp2
      go_region
      have hb2 := (unhide HR).2.1
      obtain ⟨cur', g1, g2, g3, _, g4, _, _, _, g5, g6⟩ := rowSet14 (B := w.heap.size) (o := k * 14) (.int .i64 0) (.int .i64 ms[k].sender) (.string ⟨#[]⟩) (.int .i64 0) (.slice ms[k].o ms[k].halt.length ms[k].cap) (.int .i64 0) (.int .i64 0) (.bool false) (.bool false) (.slice none 0 0) (.slice none 0 0) (.pointer none) (.int .i64 0) (.slice none 0 0) hg (by omega) hb2 (Nat.le_refl _)
      have hnew : MsgRow w _ w.heap.size ms (k + 1) := ⟨⟨cur', g1, g2.trans hsz, fun i h hi => by
        obtain ⟨cur2, hg2, hs2, hc2⟩ := (unhide HR).1
        rw [hg] at hg2
        simp only [Option.some.injEq, Obj.cells.injEq, and_true] at hg2
        subst hg2
        by_cases e : i = k
        · subst e; exact ⟨g3, g4⟩
        · rw [g5 _ (by omega), g5 _ (by omega)]
          exact hc2 i h (by omega)⟩, g6, Nat.le_refl _⟩
      have HN := hide hnew
      clear hnew g1 g2 g3 g4 g5 g6 hb2 HR hg hf x0 x1 x2 x3 x4 x5 x6 x7 x8 x9 x10 x11 x12 x13
      generalize ((((((((((((((wr.setCell ⟨w.heap.size, k * 14, none⟩ (.int .i64 0)).setCell ⟨w.heap.size, k * 14 + 1, none⟩ (.int .i64 ms[k].sender)).setCell ⟨w.heap.size, k * 14 + 2, none⟩ (.string ⟨#[]⟩)).setCell ⟨w.heap.size, k * 14 + 3, none⟩ (.int .i64 0)).setCell ⟨w.heap.size, k * 14 + 4, none⟩ (.slice ms[k].o ms[k].halt.length ms[k].cap)).setCell ⟨w.heap.size, k * 14 + 5, none⟩ (.int .i64 0)).setCell ⟨w.heap.size, k * 14 + 6, none⟩ (.int .i64 0)).setCell ⟨w.heap.size, k * 14 + 7, none⟩ (.bool false)).setCell ⟨w.heap.size, k * 14 + 8, none⟩ (.bool false)).setCell ⟨w.heap.size, k * 14 + 9, none⟩ (.slice none 0 0)).setCell ⟨w.heap.size, k * 14 + 10, none⟩ (.slice none 0 0)).setCell ⟨w.heap.size, k * 14 + 11, none⟩ (.pointer none)).setCell ⟨w.heap.size, k * 14 + 12, none⟩ (.int .i64 0)).setCell ⟨w.heap.size, k * 14 + 13, none⟩ (.slice none 0 0)) = X at HN ⊢
      go_wp2
      go_roundw
      case rel => exact ⟨k + 1, by omega, by go_num, (unhide HN).drew⟩
      case measure => simp [intOf]; omega
    · obtain rfl : k = ms.length := by omega
      have HR := hide hrow
      clear hrow
      go_wp2
      go_ret
      exact ⟨rfl, unhide HR⟩
end Go.Proofs.Qxb6603393a
