import Derived.Test.Qxb6603393aMake
namespace Go.Proofs.Qxb6603393a
open Go.RowKit
set_option linter.unusedSimpArgs false
set_option linter.unusedVariables false

theorem cntTo_set (xs : List Bool) (q : Nat) (hq : q < xs.length) (hx : xs.getD q false = false) : ∀ k, cntTo (xs.set q true) k = cntTo xs k + (if q < k then 1 else 0)
  | 0 => rfl
  | k + 1 => by
    simp only [cntTo]
    rw [cntTo_set xs q hq hx k]
    by_cases e : q = k
    · subst e
      have h1 : (xs.set q true).getD q false = true := by simp [hq]
      rw [h1, hx]
      simp
    · have h1 : (xs.set q true).getD k false = xs.getD k false := by simp [List.getD, List.getElem?_set, e]
      rw [h1]
      by_cases h2 : q < k
      · rw [if_pos h2, if_pos (show q < k + 1 by omega)]; omega
      · rw [if_neg h2, if_neg (show ¬ q < k + 1 by omega)]; omega
theorem cnt_set (xs : List Bool) (q : Nat) (hq : q < xs.length) (hx : xs.getD q false = false) : cnt (xs.set q true) = cnt xs + 1 := by
  unfold cnt
  rw [List.length_set, cntTo_set xs q hq hx, if_pos hq]
theorem cnt_le (xs : List Bool) : cnt xs ≤ xs.length := cntTo_le _ _

/-- nothing has turned but the blocks p and gc, and new ones -/
structure Kept (w w' : World) (p gc : Nat) : Prop where
  os : w'.os = w.os
  tape : w'.tape = w.tape
  output : w'.output = w.output
  size : w.heap.size ≤ w'.heap.size
  block : ∀ k, k < w.heap.size → k ≠ p → k ≠ gc → w'.heap[k]? = w.heap[k]?
theorem Kept.refl (w : World) (p gc : Nat) : Kept w w p gc := ⟨rfl, rfl, rfl, Nat.le_refl _, fun _ _ _ _ => rfl⟩
theorem Kept.trans {a b c : World} {p gc : Nat} (h : Kept a b p gc) (k : Kept b c p gc) : Kept a c p gc :=
  ⟨k.os.trans h.os, k.tape.trans h.tape, k.output.trans h.output, Nat.le_trans h.size k.size, fun i hi h1 h2 => (k.block i (Nat.lt_of_lt_of_le hi h.size) h1 h2).trans (h.block i hi h1 h2)⟩
theorem Kept.setCell {a w : World} {p gc : Nat} (h : Kept a w p gc) {x : Addr} (hx : x.block = p ∨ x.block = gc) (u : Value) : Kept a (w.setCell x u) p gc :=
  h.trans ⟨rfl, rfl, rfl, by simp [World.setCell], fun k _ h1 h2 => Below.heap_setCell _ _ _ _ (fun e => by rcases hx with hx | hx <;> omega)⟩
theorem Kept.below {w w' : World} {p gc B : Nat} (h : Kept w w' p gc) (hB : B ≤ w.heap.size) (h1 : B ≤ p) (h2 : B ≤ gc) : Below B w w' := ⟨h.os, h.tape, h.output, h.size, fun k hk => h.block k (by omega) (by omega) (by omega)⟩
theorem Kept.of_below {w w' : World} (p gc : Nat) (h : Below w.heap.size w w') : Kept w w' p gc := ⟨h.os, h.tape, h.output, h.size, fun k hk _ _ => h.block k hk⟩

/-- the process at p, its marks at gc; the count is the marks' number -/
structure NC (w : World) (p gc L : Nat) (n : Int) (xs : List Bool) : Prop where
  blk : ∃ arr : Array Value, w.heap[p]? = some (.cells arr 78 (0, 0)) ∧ arr[1]? = some (.int .i64 n) ∧ arr[12]? = some (.slice (some ⟨gc, 0, none⟩) L L) ∧ arr[13]? = some (.int .i64 (cnt xs))
  row : ∃ cur : Array Value, w.heap[gc]? = some (.cells cur 4 (0, 0)) ∧ cur.toList = xs.map Value.bool
  len : xs.length = L
section
variable {w : World} {p gc L : Nat} {n : Int} {xs : List Bool}
theorem NC.ne (h : NC w p gc L n xs) : p ≠ gc := fun e => by
  obtain ⟨a, ha, _⟩ := h.blk
  obtain ⟨c, hc, _⟩ := h.row
  rw [e, hc] at ha; simp at ha
theorem NC.c1 (h : NC w p gc L n xs) : w.cell? ⟨p, 1, none⟩ = some (.int .i64 n) := by obtain ⟨a, ha, h1, _⟩ := h.blk; rw [cell_of_row w p 1 a 78 _ ha]; exact h1
theorem NC.c12 (h : NC w p gc L n xs) : w.cell? ⟨p, 12, none⟩ = some (.slice (some ⟨gc, 0, none⟩) L L) := by obtain ⟨a, ha, _, h1, _⟩ := h.blk; rw [cell_of_row w p 12 a 78 _ ha]; exact h1
theorem NC.c13 (h : NC w p gc L n xs) : w.cell? ⟨p, 13, none⟩ = some (.int .i64 (cnt xs)) := by obtain ⟨a, ha, _, _, h1⟩ := h.blk; rw [cell_of_row w p 13 a 78 _ ha]; exact h1
theorem NC.fz (h : NC w p gc L n xs) (j : Nat) : w.frozen? ⟨p, j, none⟩ = false := by obtain ⟨a, ha, _⟩ := h.blk; exact frozen_of_row w p j a 78 ha
theorem NC.fzr (h : NC w p gc L n xs) (j : Nat) : w.frozen? ⟨gc, j, none⟩ = false := by obtain ⟨a, ha, _⟩ := h.row; exact frozen_of_row w gc j a 4 ha
theorem NC.at (h : NC w p gc L n xs) {q : Nat} (hq : q < L) : w.cell? ⟨gc, q, none⟩ = some (.bool (xs.getD q false)) := by
  obtain ⟨a, ha, h1⟩ := h.row
  have hl := h.len
  have hql : q < xs.length := by omega
  rw [cell_of_row w gc q a 4 _ ha, ← Array.getElem?_toList, h1, List.getElem?_map, List.getElem?_eq_getElem hql]
  simp [hql]
theorem NC.lt (h : NC w p gc L n xs) : p < w.heap.size ∧ gc < w.heap.size := by
  obtain ⟨a, ha, _⟩ := h.blk
  obtain ⟨c, hc, _⟩ := h.row
  exact ⟨lt_of_block ha, lt_of_block hc⟩
theorem NC.kept {w' : World} (h : NC w p gc L n xs) (h1 : w'.heap[p]? = w.heap[p]?) (h2 : w'.heap[gc]? = w.heap[gc]?) : NC w' p gc L n xs := by
  obtain ⟨a, ha, hr⟩ := h.blk
  obtain ⟨c, hc, hr2⟩ := h.row
  exact ⟨⟨a, h1.trans ha, hr⟩, ⟨c, h2.trans hc, hr2⟩, h.len⟩
theorem NC.mark (h : NC w p gc L n xs) {q : Nat} (hq : q < L) (hx : xs.getD q false = false) : NC ((w.setCell ⟨gc, q, none⟩ (.bool true)).setCell ⟨p, 13, none⟩ (.int .i64 ((cnt xs : Int) + 1))) p gc L n (xs.set q true) := by
  have hne := h.ne
  have hl := h.len
  obtain ⟨a, ha, h1, h2, h3⟩ := h.blk
  obtain ⟨c, hc, hr⟩ := h.row
  have hsz : 13 < a.size := (Array.getElem?_eq_some_iff.1 h3).1
  have hc' : ((cnt xs : Int) + 1) = ((cnt (xs.set q true) : Nat) : Int) := by rw [cnt_set xs q (by omega) hx]; omega
  refine ⟨⟨a.setIfInBounds 13 _, heap_setCell_same _ p 13 a 78 _ (by rw [heap_setCell_other _ _ _ _ (by exact hne)]; exact ha), ?_, ?_, ?_⟩, ⟨c.setIfInBounds q (.bool true), ?_, ?_⟩, by simpa using h.len⟩
  · simpa using h1
  · simpa using h2
  · rw [← hc']; simp [hsz]
  · rw [heap_setCell_other _ _ _ _ (by exact fun e => hne e.symm)]
    exact heap_setCell_same w gc q c 4 _ hc
  · rw [Array.toList_setIfInBounds, hr, List.map_set]
end

/-- behind a mark: some marks, the count in step -/
def Noted (w w' : World) (p gc L : Nat) (n : Int) : Prop := (∃ xs, NC w' p gc L n xs) ∧ Kept w w' p gc

set_option maxHeartbeats 1000000 in
theorem noteCrash_any (p gc L : Nat) (n : Int) (xs : List Bool) (q : Nat) (w : World) (h : NC w p gc L n xs) (hL : L ≤ 1048576) (hq : q < L) :
    Calls Try.prog 36 #[.pointer (some ⟨p, 0, none⟩), .int .i64 q] w fun e w' => e = .returned (.tuple #[]) ∧ Noted w w' p gc L n := by
  have c12 := h.c12
  have c13 := h.c13
  have f13 := h.fz 13
  have fq := h.fzr q
  have hat := h.at hq
  have hne := h.ne
  have hcl := cnt_le xs
  have hl := h.len
  have hcb : cnt xs ≤ 1048576 := by omega
  have hql : (q : Int) < (L : Int) := by omega
  have far : ∀ (X : World) (v : Value) (j : Nat), (X.setCell ⟨gc, q, none⟩ v).cell? ⟨p, j, none⟩ = X.cell? ⟨p, j, none⟩ := fun X v j => World.cell?_of_block (heap_setCell_other X _ p v (by exact hne))
  have HC := hide h
  clear h hl hcl
  cases hx : xs.getD q false with
  | false =>
    rw [hx] at hat
    have HX := hide hx
    clear hx
    generalize hcn : cnt xs = cn at *
    have HCN := hide hcn
    clear hcn
    go_enter Try.func36, Try.ntmps36
    go_wp2
    go_end0
    have hmk := (unhide HC).mark hq (unhide HX)
    rw [unhide HCN] at hmk
    exact ⟨rfl, ⟨xs.set q true, hmk⟩, ((Kept.refl w p gc).setCell (Or.inr rfl) _).setCell (Or.inl rfl) _⟩
  | true =>
    rw [hx] at hat
    clear hx
    go_enter Try.func36, Try.ntmps36
    go_wp2
    go_end0
    exact ⟨rfl, ⟨xs, unhide HC⟩, Kept.refl _ _ _⟩

/-- the cells of a slice that lies below B -/
def SrcB (w : World) (B : Nat) (o : Option Addr) (xs : List Value) : Prop := ∀ j u, xs[j]? = some u → ∃ b off, o = some ⟨b, off, none⟩ ∧ b < B ∧ w.cell? ⟨b, off + j, none⟩ = some u

/-- in the midst of noteCrashes: the process, its marks; the row of those heard at h -/
structure NH (w wr : World) (B p gc h L : Nat) (n : Int) (N : Nat) : Prop where
  nc : ∃ xs, NC wr p gc L n xs
  heard : ∃ hc : Array Value, wr.heap[h]? = some (.cells hc 4 (0, 0)) ∧ hc.size = N ∧ ∀ j, j < N → ∃ b, hc[j]? = some (.bool b)
  kept : Kept w wr p gc
  hp : h ≠ p
  hg : h ≠ gc
  lp : B ≤ p
  lg : B ≤ gc
  lw : B ≤ w.heap.size
section
variable {w wr : World} {B p gc h L : Nat} {n : Int} {N : Nat}
theorem NH.below (H : NH w wr B p gc h L n N) : Below B w wr := H.kept.below H.lw H.lp H.lg
theorem NH.note {w2 : World} (H : NH w wr B p gc h L n N) (hn : Noted wr w2 p gc L n) : NH w w2 B p gc h L n N := by
  obtain ⟨hc, h1, h2, h3⟩ := H.heard
  exact ⟨hn.1, ⟨hc, (hn.2.block h (lt_of_block h1) H.hp H.hg).trans h1, h2, h3⟩, H.kept.trans hn.2, H.hp, H.hg, H.lp, H.lg, H.lw⟩
theorem NH.cell (H : NH w wr B p gc h L n N) {j : Nat} (hj : j < N) : ∃ b, wr.cell? ⟨h, j, none⟩ = some (.bool b) := by
  obtain ⟨hc, h1, h2, h3⟩ := H.heard
  obtain ⟨b, hb⟩ := h3 j hj
  exact ⟨b, by rw [cell_of_row wr h j hc 4 _ h1]; exact hb⟩
theorem NH.fz (H : NH w wr B p gc h L n N) (j : Nat) : wr.frozen? ⟨h, j, none⟩ = false := by
  obtain ⟨hc, h1, _⟩ := H.heard
  exact frozen_of_row wr h j hc 4 h1
theorem NH.set (H : NH w wr B p gc h L n N) (hh : w.heap.size ≤ h) (j : Nat) : NH w (wr.setCell ⟨h, j, none⟩ (.bool true)) B p gc h L n N := by
  obtain ⟨hc, h1, h2, h3⟩ := H.heard
  obtain ⟨xs, hx⟩ := H.nc
  refine ⟨⟨xs, hx.kept (heap_setCell_other _ _ _ _ (by exact fun e => H.hp e.symm)) (heap_setCell_other _ _ _ _ (by exact fun e => H.hg e.symm))⟩, ⟨hc.setIfInBounds j (.bool true), heap_setCell_same wr h j hc 4 _ h1, by simpa using h2, fun i hi => ?_⟩,
    ⟨H.kept.os, H.kept.tape, H.kept.output, by simpa [World.setCell] using H.kept.size, fun k hk h4 h5 => (heap_setCell_other _ _ _ _ (by exact (show k ≠ h by omega))).trans (H.kept.block k hk h4 h5)⟩, H.hp, H.hg, H.lp, H.lg, H.lw⟩
  · by_cases e : i = j
    · subst e; exact ⟨true, by simp [show i < hc.size by omega]⟩
    · obtain ⟨b, hb⟩ := h3 i hi
      exact ⟨b, by rw [Array.getElem?_setIfInBounds, if_neg (fun e' => e e'.symm)]; exact hb⟩
end

set_option maxHeartbeats 4000000 in
theorem noteCrashes_any (B p gc L g : Nat) (n : Nat) (xs : List Bool) (r : Int) (ms : List CM) (w : World) (h : NC w p gc L n xs) (hL : L ≤ 1048576) (hn : n ≤ 65536) (hnL : n + 1 ≤ L) (hms : ms.length ≤ 65536) (hlp : B ≤ p) (hlg : B ≤ gc) (hlw : B ≤ w.heap.size)
    (hg : ∃ cur : Array Value, w.heap[g]? = some (.cells cur 66 (0, 0)) ∧ ∀ i (h : i < ms.length), cur[i * 14 + 1]? = some (.int .i64 ms[i].sender) ∧ cur[i * 14 + 4]? = some (.slice ms[i].o ms[i].halt.length ms[i].cap))
    (hh : ∀ i (h : i < ms.length), SrcB w B ms[i].o (ms[i].halt.map (Value.int .i64)) ∧ ms[i].halt.length ≤ maxLen ∧ MsgOk n L ms[i]) :
    Calls Try.prog 30 #[.pointer (some ⟨p, 0, none⟩), .int .i64 r, .slice (some ⟨g, 0, none⟩) ms.length ms.length] w fun e w' => e = .returned (.tuple #[]) ∧ Noted w w' p gc L n := by
  obtain ⟨i0, hi, hz0, hz1, hz2⟩ := info_parts info4
  have c1 := h.c1
  have hlt := h.lt
  have hgp : g ≠ p ∧ g ≠ gc := by
    obtain ⟨cur, hg1, _⟩ := hg
    obtain ⟨a, ha, _⟩ := h.blk
    obtain ⟨c, hc, _⟩ := h.row
    exact ⟨fun e => (by rw [e, ha] at hg1; simp at hg1), fun e => (by rw [e, hc] at hg1; simp at hg1)⟩
  have HC := hide h
  have HG := hide hg
  have HH := hide hh
  clear h hg hh
  go_enter Try.func30, Try.ntmps30
  go_wp2_with (at_make; go_must (refine wpList_make_full _ rfl _ _ 24 rfl w.heap.size 4 i0 (.bool false) 1 Try.underlying24 hi hz0 hz1 _ _ _ _ (n + 1) rfl rfl (by omega) (by omega) (by rw [hz2]; omega) (by unfold maxLen; omega) (Nat.le_refl _) ?_); intro w1 hown hgr)
  have hst : NH w w1 B p gc w.heap.size L n (n + 1) := by
    have hk : ∀ k, k < w.heap.size → w1.heap[k]? = w.heap[k]? := fun k hk => hgr.block k hk (by simp)
    refine ⟨⟨xs, (unhide HC).kept (hk p hlt.1) (hk gc hlt.2)⟩, ?_, ⟨hgr.os, hgr.tape, hgr.output, hgr.size, fun k hk' _ _ => hk k hk'⟩, by omega, by omega, hlp, hlg, hlw⟩
    rcases hown.2 with ⟨h', _⟩ | ⟨g', cap', cur, h', _, hg, _, _, hcs, htk⟩
    · cases h'
    · simp only [Value.slice.injEq, Option.some.injEq, Addr.mk.injEq, and_true, true_and] at h'
      obtain ⟨h1, h2⟩ := h'
      subst h1; subst h2
      have hsz : cur.size = n + 1 := by omega
      rw [Nat.mul_one, List.take_of_length_le (by simp; omega)] at htk
      refine ⟨cur, hg, hsz, fun j hj => ⟨false, ?_⟩⟩
      rw [← Array.getElem?_toList, htk]
      have e1 : (madeCells (Value.bool false).cells (n + 1)).toList = List.replicate (n + 1) (.bool false) := toList_madeCells_one _ _
      rw [e1, List.getElem?_replicate, if_pos hj]
  have HS := hide hst
  have hgl : g < w.heap.size := by obtain ⟨cur, hg1, _⟩ := unhide HG; exact lt_of_block hg1
  obtain ⟨h, hh⟩ : ∃ h, h = w.heap.size := ⟨_, rfl⟩
  rw [← hh] at HS ⊢
  have hgh : g ≠ h := by omega
  have hwh : w.heap.size ≤ h := by omega
  clear hown hgr hst hh
  have far : ∀ (X : World) (v : Value) (i j : Nat), (X.setCell ⟨h, i, none⟩ v).cell? ⟨g, j, none⟩ = X.cell? ⟨g, j, none⟩ := fun X v i j => World.cell?_of_block (heap_setCell_other X _ g v (by exact hgh))
  go_loopw [20] (fun i wr => ∃ k : Nat, k ≤ ms.length ∧ i = .int .i64 k ∧ NH w wr B p gc h L n (n + 1)) (fun i _ => ms.length - (intOf i).toNat)
  case atStart => exact ⟨0, Nat.zero_le _, rfl, unhide HS⟩
  case round =>
    obtain ⟨k, hk, rfl, hnh⟩ := hrel
    clear HS
    by_cases hlt1 : k < ms.length
    · obtain ⟨hsrc, hml, hs0, hs1, hq⟩ := unhide HH k hlt1
      obtain ⟨cur, hg1, hg2⟩ := unhide HG
      have hg1' := (hnh.kept.block g hgl hgp.1 hgp.2).trans hg1
      have r1 : wr.cell? ⟨g, k * 14 + 1, none⟩ = some (.int .i64 ms[k].sender) := by rw [cell_of_row wr g _ cur 66 _ hg1']; exact (hg2 k hlt1).1
      have r4 : wr.cell? ⟨g, k * 14 + 4, none⟩ = some (.slice ms[k].o ms[k].halt.length ms[k].cap) := by rw [cell_of_row wr g _ cur 66 _ hg1']; exact (hg2 k hlt1).2
      have HSRC := hide hsrc
      have HQ := hide hq
      clear hsrc hq hg1 hg2 hg1' cur
      unfold maxLen at hml
      generalize ms[k].halt = hs at *
      generalize ms[k].o = oh at *
      generalize ms[k].cap = ch at *
      obtain ⟨sn, hsn⟩ := Int.eq_ofNat_of_zero_le hs0
      rw [hsn] at r1 hs0 hs1
      clear hsn
      have hsl : sn < n + 1 := by omega
      have hsI : (sn : Int) < (n : Int) + 1 := by omega
      obtain ⟨b0, hb0⟩ := hnh.cell hsl
      have hf0 := hnh.fz sn
      have hkl : (k : Int) < (ms.length : Int) := by omega
      have HN := hide (hnh.set hwh sn)
      clear hnh
      go_wp2
      clear hb0 hf0 r1 r4
      generalize wr.setCell ⟨h, sn, none⟩ (.bool true) = wo at HN ⊢
      go_loopw [37] (fun i wr => ∃ j : Nat, j ≤ hs.length ∧ i = .int .i64 j ∧ NH w wr B p gc h L n (n + 1)) (fun i _ => hs.length - (intOf i).toNat)
      case atStart => exact ⟨0, Nat.zero_le _, rfl, unhide HN⟩
      case round =>
        obtain ⟨j, hj, rfl, hnh⟩ := hrel
        clear HN
        by_cases hlt2 : j < hs.length
        · obtain ⟨bb, ff, e, hbb, k3⟩ := unhide HSRC j (.int .i64 (hs.getD j 0)) (by simp [hlt2])
          have k4 := (hnh.below.cell (p := ⟨bb, ff + j, none⟩) hbb).trans k3
          subst e
          have hjl : (j : Int) < (hs.length : Int) := by omega
          obtain ⟨q0, q1⟩ := unhide HQ (hs.getD j 0) (by simp [hlt2])
          generalize hs.getD j 0 = q at *
          obtain ⟨qn, rfl⟩ := Int.eq_ofNat_of_zero_le q0
          have hqn : qn < L := by omega
          obtain ⟨ys, hys⟩ := hnh.nc
          have HY := hide hys
          have HN := hide hnh
          clear hys hnh k3
          go_wp2_with (go_at_call 36; go_must (refine (noteCrash_any p gc L n ys qn _ (unhide HY) hL hqn).mono ?_); rintro e w3 ⟨rfl, hnt⟩; have HN2 := hide ((unhide HN).note hnt); clear hnt)
          go_roundw
          case rel => exact ⟨j + 1, by omega, by go_num, unhide HN2⟩
          case measure => simp [intOf]; omega
        · have HN := hide hnh
          clear hnh
          go_wp2
          go_roundw
          case rel => exact ⟨k + 1, by omega, by go_num, unhide HN⟩
          case measure => simp [intOf]; omega
    · have HN := hide hnh
      clear hnh
      by_cases hr : 2 < r
      · go_wp2
        refine bodyPost_ret (results_none rfl _ _ _) rfl ⟨rfl, (unhide HN).nc, (unhide HN).kept⟩
      · go_wp2
        obtain ⟨wo, hwo⟩ : ∃ wo : World, wo = wr := ⟨_, rfl⟩
        rw [← hwo] at HN ⊢
        clear hwo
        go_loopw [11] (fun i wr => ∃ j : Nat, 1 ≤ j ∧ j ≤ n + 1 ∧ i = .int .i64 j ∧ NH w wr B p gc h L n (n + 1)) (fun i _ => n + 1 - (intOf i).toNat)
        case atStart => exact ⟨1, Nat.le_refl _, by omega, rfl, unhide HN⟩
        case round =>
          obtain ⟨j, hj0, hj, rfl, hnh⟩ := hrel
          clear HN
          obtain ⟨ys, hys⟩ := hnh.nc
          have cc1 := hys.c1
          have HY := hide hys
          by_cases hlt2 : j ≤ n
          · obtain ⟨b0, hb0⟩ := hnh.cell (j := j) (by omega)
            have HN := hide hnh
            have hjI : (j : Int) < (n : Int) + 1 := by omega
            have hjl : j < L := by omega
            clear hnh hys
            cases b0
            · go_wp2_with (go_at_call 36; go_must (refine (noteCrash_any p gc L n ys j _ (unhide HY) hL hjl).mono ?_); rintro e w3 ⟨rfl, hnt⟩; have HN2 := hide ((unhide HN).note hnt); clear hnt)
              go_roundw
              case rel => exact ⟨j + 1, by omega, by omega, by go_num, unhide HN2⟩
              case measure => simp [intOf]; omega
            · go_wp2
              go_roundw
              case rel => exact ⟨j + 1, by omega, by omega, by go_num, unhide HN⟩
              case measure => simp [intOf]; omega
          · have HN := hide hnh
            clear hnh hys
            go_wp2
            refine bodyPost_end (results_none rfl _ _ _) rfl ⟨rfl, (unhide HN).nc, (unhide HN).kept⟩
end Go.Proofs.Qxb6603393a
