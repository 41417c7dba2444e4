import Derived.Test.Qxb6603268aRunS
namespace Go.Proofs.Qxb6603268a
open Go.RowKit
set_option linter.unusedSimpArgs false
set_option linter.unusedVariables false

theorem data_any (p : Nat) (dv : Value) (w : World) (c0 : w.cell? ⟨p, 0, none⟩ = some dv) : Calls Try.prog 27 #[.pointer (some ⟨p, 0, none⟩)] w fun e w' => e = .returned dv ∧ w = w' := by
  go_enter Try.func27, Try.ntmps27
  go_wp2
  go_ret
  exact ⟨rfl, rfl⟩
theorem exlen_any (p : Nat) (o : Option Addr) (E c : Nat) (w : World) (c2 : w.cell? ⟨p, 2, none⟩ = some (.slice o E c)) : Calls Try.prog 28 #[.pointer (some ⟨p, 0, none⟩)] w fun e w' => e = .returned (.int .i64 E) ∧ w = w' := by
  go_enter Try.func28, Try.ntmps28
  go_wp2
  go_ret
  exact ⟨rfl, rfl⟩
theorem run_any (p : Nat) (ra rr : Int) (rp : Bool) (w : World) (c5 : w.cell? ⟨p, 5, none⟩ = some (.int .i64 ra)) (c6 : w.cell? ⟨p, 6, none⟩ = some (.int .i64 rr)) (c7 : w.cell? ⟨p, 7, none⟩ = some (.bool rp)) :
    Calls Try.prog 30 #[.pointer (some ⟨p, 0, none⟩)] w fun e w' => e = .returned (.tuple #[.int .i64 ra, .int .i64 rr, .bool rp]) ∧ Below w.heap.size w w' := by
  go_enter Try.func30, Try.ntmps30
  go_wp2
  go_quiet (fail)
  go_wp2
  go_ret3
  exact ⟨rfl, below_drewN (Below.refl _ _) _⟩
theorem extra_any (p g c E r : Nat) (x y : Int) (z : Bool) (w : World) (c2 : w.cell? ⟨p, 2, none⟩ = some (.slice (some ⟨g, 0, none⟩) E c)) (hr : r < E) (e0 : w.cell? ⟨g, r * 3, none⟩ = some (.int .i64 x)) (e1 : w.cell? ⟨g, r * 3 + 1, none⟩ = some (.int .i64 y)) (e2 : w.cell? ⟨g, r * 3 + 2, none⟩ = some (.bool z)) :
    Calls Try.prog 29 #[.pointer (some ⟨p, 0, none⟩), .int .i64 r] w fun e w' => e = .returned (.tuple #[.int .i64 x, .int .i64 y, .bool z]) ∧ Below w.heap.size w w' := by
  have hr1 : (r : Int) < (E : Int) := by omega
  go_enter Try.func29, Try.ntmps29
  go_wp2
  go_quiet (fail)
  go_wp2
  go_ret3
  exact ⟨rfl, below_drewN ((Below.refl _ _).alloc (Nat.le_refl _) _) _⟩

theorem CutAt.below {w w' : World} {B p : Nat} {dv ev : Value} {s : St} (h : CutAt w B p dv ev s) (hb : Below w.heap.size w w') : CutAt w' B p dv ev s := h.kept fun k hk => hb.block k (h.foot hk).2

/-- the i-th byte that a cutter holds -/
theorem CutAt.byte {w : World} {B p : Nat} {dv ev : Value} {s : St} (h : CutAt w B p dv ev s) {i : Nat} (hi : i < s.data.length) : ∃ g c, dv = .slice (some ⟨g, 0, none⟩) s.data.length c ∧ w.cell? ⟨g, i, none⟩ = some (.int .u8 (s.data.getD i 0)) := by
  obtain ⟨g, cap, hv, _, _⟩ := h.data.form (by omega)
  have hd := h.data
  rw [hv] at hd
  refine ⟨g, cap, hv, ?_⟩
  rw [hd.cellAt i (by omega), List.getElem?_map, List.getElem?_eq_getElem hi]
  simp [hi]

set_option maxRecDepth 100000 in
set_option maxHeartbeats 4000000 in
theorem sameState_any (B p1 p2 : Nat) (dv1 ev1 dv2 ev2 : Value) (s : St) (w : World) (h1 : CutAt w B p1 dv1 ev1 s) (h2 : CutAt w B p2 dv2 ev2 s) (hd : s.data.length ≤ 16777216) (hx : s.extra.length ≤ 16777216) :
    Calls Try.prog 20 #[.pointer (some ⟨p1, 0, none⟩), .pointer (some ⟨p2, 0, none⟩)] w fun e w' => e = .returned (.bool true) ∧ Below w.heap.size w w' := by
  obtain ⟨o1, c1, hv1⟩ := h1.slice
  obtain ⟨o2, c2, hv2⟩ := h2.slice
  obtain ⟨oe1, ce1, hx1⟩ := h1.exSlice
  obtain ⟨oe2, ce2, hx2⟩ := h2.exSlice
  subst hv1; subst hv2; subst hx1; subst hx2
  have H1 := hide h1
  have H2 := hide h2
  have a0 := h1.blk.c0
  have b0 := h2.blk.c0
  clear h1 h2
  go_enter Try.func20, Try.ntmps20
  go_wp2_with (first
    | (go_at_call_of 27 p1; go_must (refine (data_any p1 _ _ a0).mono ?_); rintro e w' ⟨rfl, rfl⟩)
    | (go_at_call_of 27 p2; go_must (refine (data_any p2 _ _ b0).mono ?_); rintro e w' ⟨rfl, rfl⟩))
  go_loopw [7] (fun i wr => ∃ j : Nat, j ≤ s.data.length ∧ i = .int .i64 j ∧ Below w.heap.size w wr) (fun i _ => s.data.length - (intOf i).toNat)
  case atStart => exact ⟨0, Nat.zero_le _, rfl, Below.refl _ _⟩
  case round =>
    obtain ⟨j, hj, rfl, hb⟩ := hrel
    by_cases hlt : j < s.data.length
    · obtain ⟨g1, c1', e1, k1⟩ := ((unhide H1).below hb).byte hlt
      obtain ⟨g2, c2', e2, k2⟩ := ((unhide H2).below hb).byte hlt
      simp only [Value.slice.injEq, true_and] at e1 e2
      obtain ⟨rfl, rfl⟩ := e1
      obtain ⟨rfl, rfl⟩ := e2
      generalize s.data.getD j 0 = x at k1 k2
      have hxx : (x != x) = false := by simp
      have hjl : (j : Int) < (s.data.length : Int) := by omega
      have HB := hide hb
      clear hb a0 b0
      go_wp2
      go_quiet (fail)
      go_wp2
      go_roundw
      case rel => exact ⟨j + 1, by omega, by go_num, below_drewN (unhide HB) _⟩
      case measure => simp [intOf]; omega
    · obtain ⟨J, hJ⟩ : ∃ J, J = s.data.length := ⟨_, rfl⟩
      have a2 := ((unhide H1).below hb).blk.c2
      have b2 := ((unhide H2).below hb).blk.c2
      have HB := hide hb
      clear hb a0 b0
      go_wp2_with (first
        | (go_at_call_of 28 p1; go_must (refine (exlen_any p1 _ _ _ _ a2).mono ?_); rintro e w' ⟨rfl, rfl⟩)
        | (go_at_call_of 28 p2; go_must (refine (exlen_any p2 _ _ _ _ b2).mono ?_); rintro e w' ⟨rfl, rfl⟩))
      clear a2 b2
      obtain ⟨wo, rfl⟩ : ∃ wo : World, wo = wr := ⟨_, rfl⟩
      go_loopw [8] (fun i wr => ∃ j : Nat, j ≤ s.extra.length ∧ i = .int .i64 j ∧ Below w.heap.size w wr) (fun i _ => s.extra.length - (intOf i).toNat)
      case atStart => exact ⟨0, Nat.zero_le _, rfl, unhide HB⟩
      case round =>
        obtain ⟨i, hi, rfl, hb⟩ := hrel
        have a2 := ((unhide H1).below hb).blk.c2
        by_cases hlt2 : i < s.extra.length
        · obtain ⟨g1, c1', e1, x0, x1, x2, _, _⟩ := ((unhide H1).below hb).exForm hlt2
          obtain ⟨g2, c2', e2, y0, y1, y2, _, _⟩ := ((unhide H2).below hb).exForm hlt2
          simp only [Value.slice.injEq, true_and] at e1 e2
          obtain ⟨rfl, rfl⟩ := e1
          obtain ⟨rfl, rfl⟩ := e2
          have b2 := ((unhide H2).below hb).blk.c2
          have HB2 := hide hb
          clear HB
          generalize s.extra[i].1 = xx at x0 y0
          generalize s.extra[i].2.1 = yy at x1 y1
          generalize s.extra[i].2.2 = zz at x2 y2
          have hxx : (xx != xx) = false := by simp
          have hyy : (yy != yy) = false := by simp
          have hzz : (zz != zz) = false := by simp
          go_wp2_with (first
            | (go_at_call 28; go_must (refine (exlen_any p1 _ _ _ _ a2).mono ?_); rintro e w' ⟨rfl, rfl⟩)
            | (go_at_call_of 29 p1; go_must (refine (extra_any p1 g1 _ _ i xx yy zz _ a2 hlt2 x0 x1 x2).mono ?_); rintro e w2 ⟨rfl, hb2⟩; have HB3 := hide ((unhide HB2).trans (hb2.mono (unhide HB2).size)); have b2' := ((unhide H2).below (unhide HB3)).blk.c2; have y0' := (hb2.cell (World.block_lt_of_cell? _ _ y0)).trans y0; have y1' := (hb2.cell (World.block_lt_of_cell? _ _ y1)).trans y1; have y2' := (hb2.cell (World.block_lt_of_cell? _ _ y2)).trans y2; clear hb2)
            | (go_at_call_of 29 p2; go_must (refine (extra_any p2 g2 _ _ i xx yy zz _ b2' hlt2 y0' y1' y2').mono ?_); rintro e w3 ⟨rfl, hb3⟩; have HB4 := hide ((unhide HB3).trans (hb3.mono (unhide HB3).size)); clear hb3))
          go_roundw
          case rel => exact ⟨i + 1, by omega, by go_num, unhide HB4⟩
          case measure => simp [intOf]; omega
        · have a5 := ((unhide H1).below hb).blk.c5
          have a6 := ((unhide H1).below hb).blk.c6
          have a7 := ((unhide H1).below hb).blk.c7
          have HB2 := hide hb
          generalize hra : s.ra = ra at a5
          generalize hrr : s.rr = rr at a6
          generalize hrp : s.rp = rp at a7
          have HRA := hide hra
          have HRR := hide hrr
          have HRP := hide hrp
          have q1 : (ra == ra) = true := by simp
          have q2 : (rr == rr) = true := by simp
          have q3 : (rp == rp) = true := by simp
          clear HB hra hrr hrp hb
          go_wp2_with (first
            | (go_at_call 28; go_must (refine (exlen_any p1 _ _ _ _ a2).mono ?_); rintro e w' ⟨rfl, rfl⟩)
            | (go_at_call_of 30 p1; go_must (refine (run_any p1 ra rr rp _ a5 a6 a7).mono ?_); rintro e w2 ⟨rfl, hb2⟩; have HB3 := hide ((unhide HB2).trans (hb2.mono (unhide HB2).size)); have b5 := ((unhide H2).below (unhide HB3)).blk.c5; have b6 := ((unhide H2).below (unhide HB3)).blk.c6; have b7 := ((unhide H2).below (unhide HB3)).blk.c7; rw [unhide HRA] at b5; rw [unhide HRR] at b6; rw [unhide HRP] at b7; clear hb2)
            | (go_at_call_of 30 p2; go_must (refine (run_any p2 ra rr rp _ b5 b6 b7).mono ?_); rintro e w3 ⟨rfl, hb3⟩; have HB4 := hide ((unhide HB3).trans (hb3.mono (unhide HB3).size)); clear hb3))
          go_ret
          exact ⟨rfl, unhide HB4⟩
end Go.Proofs.Qxb6603268a
