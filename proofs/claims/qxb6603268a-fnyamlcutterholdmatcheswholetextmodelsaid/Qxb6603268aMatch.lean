import Derived.Test.Qxb6603268aModel
namespace Go.Proofs.Qxb6603268a
open Go.RowKit
set_option linter.unusedSimpArgs false
set_option linter.unusedVariables false

theorem MR.below' {w wr w2 : World} {B : Nat} {dv av cv pv : Value} {ds ats cs : List Int} {ps : List Bool} (h : MR w wr B dv av cv pv ds ats cs ps) (hb : Below wr.heap.size wr w2) : MR w w2 B dv av cv pv ds ats cs ps :=
  ⟨owns_of_block h.d (fun g hg => hb.block g (h.d.lt g hg).2), owns_of_block h.a (fun g hg => hb.block g (h.a.lt g hg).2), owns_of_block h.c (fun g hg => hb.block g (h.c.lt g hg).2), owns_of_block h.p (fun g hg => hb.block g (h.p.lt g hg).2), h.below.trans (hb.mono h.le), h.base⟩

/-- the i-th cell of an owned row -/
theorem owns_at {w : World} {base : Nat} {e : TypeId} {o : Option Addr} {n c : Nat} {xs : List Value} (h : w.ownsRow base e 1 (.slice o n c) n xs) {i : Nat} {u : Value} (hi : xs[i]? = some u) (hn : i < n) : ∃ g, o = some ⟨g, 0, none⟩ ∧ w.cell? ⟨g, i, none⟩ = some u := by
  obtain ⟨g, cap, hv, _, _⟩ := h.form (by omega)
  simp only [Value.slice.injEq, true_and] at hv
  obtain ⟨rfl, rfl⟩ := hv
  exact ⟨g, rfl, by rw [h.cellAt i (by omega)]; exact hi⟩

set_option maxRecDepth 100000 in
set_option maxHeartbeats 4000000 in
theorem matches_any (B p : Nat) (dv ev : Value) (ot ofl : Option Addr) (ct cf : Nat) (ts : List Int) (fs : List Bool) (w : World) (hl : ts.length = fs.length) (hsz : ts.length ≤ 4194304) (ht : SrcB w w.heap.size ot (ts.map (Value.int .u8))) (hf : SrcB w w.heap.size ofl (fs.map Value.bool))
    (hcut : CutAt w B p dv ev (stTo ts fs ts.length)) :
    Calls Try.prog 17 #[.pointer (some ⟨p, 0, none⟩), .slice ot ts.length ct, .slice ofl fs.length cf] w fun e w' => LawEnd w e w' := by
  have hgood := stTo_good ts fs ts.length
  have hdl := hgood.dl
  have hxl := hgood.xl
  have hmod := model_any ot ofl ct cf ts fs w hl hsz ht hf
  have HMOD := hide hmod
  clear hmod ht hf hgood hl
  generalize stTo ts fs ts.length = s at *
  obtain ⟨o1, c1, hv1⟩ := hcut.slice
  obtain ⟨oe1, ce1, hx1⟩ := hcut.exSlice
  subst hv1; subst hx1
  have HC := hide hcut
  clear hcut
  go_enter Try.func17, Try.ntmps17
  go_wp2_with fail
  refine (unhide HMOD).mono ?_
  rintro e w1 ⟨dv1, av1, cv1, pv1, rfl, hms⟩
  obtain ⟨od, cd, hdv, _⟩ := own_slice hms.d
  obtain ⟨oa, ca, hav, _⟩ := own_slice hms.a
  obtain ⟨oc, cc, hcv, _⟩ := own_slice hms.c
  obtain ⟨op, cp, hpv, _⟩ := own_slice hms.p
  rw [List.length_map] at hav hcv hpv
  subst hdv; subst hav; subst hcv; subst hpv
  have HM := hide hms
  have hb1 : Below w.heap.size w w1 := hms.below
  have HB1 := hide hb1
  have a0 := ((unhide HC).below hb1).blk.c0
  clear hms hb1 HMOD
  go_wp2_with (go_at_call 27; go_must (refine (data_any p _ _ a0).mono ?_); rintro e w' ⟨rfl, rfl⟩)
  go_loopw [15] (fun i wr => ∃ j : Nat, j ≤ s.data.length ∧ i = .int .i64 j ∧ Below w1.heap.size w1 wr) (fun i _ => s.data.length - (intOf i).toNat)
  case atStart => exact ⟨0, Nat.zero_le _, rfl, Below.refl _ _⟩
  case round =>
    obtain ⟨j, hj, rfl, hb⟩ := hrel
    have HC2 := hide (((unhide HC).below (unhide HB1)).below hb)
    have HM2 := hide (MR.below' (unhide HM) hb)
    by_cases hlt : j < s.data.length
    · obtain ⟨g1, c1', e1, k1⟩ := (unhide HC2).byte hlt
      obtain ⟨g2, e2, k2⟩ := owns_at (unhide HM2).d (i := j) (u := .int .u8 (s.data.getD j 0)) (by simp [hlt]) hlt
      simp only [Value.slice.injEq, true_and] at e1
      obtain ⟨rfl, rfl⟩ := e1
      subst e2
      generalize s.data.getD j 0 = x at k1 k2
      have hxx : (x != x) = false := by simp
      have hjl : (j : Int) < (s.data.length : Int) := by omega
      have HB := hide hb
      clear hb a0
      go_wp2
      go_quiet (fail)
      go_wp2
      go_roundw
      case rel => exact ⟨j + 1, by omega, by go_num, below_drewN (unhide HB) _⟩
      case measure => simp [intOf]; omega
    · have a2 := (unhide HC2).blk.c2
      have HB := hide hb
      clear hb a0
      go_wp2_with (go_at_call 28; go_must (refine (exlen_any p _ _ _ _ a2).mono ?_); rintro e w' ⟨rfl, rfl⟩)
      clear a2
      obtain ⟨wo, hwo⟩ : ∃ wo : World, wo = wr := ⟨_, rfl⟩
      rw [← hwo] at HB ⊢
      clear hwo HC2 HM2
      go_loopw [16] (fun i wr => ∃ j : Nat, j ≤ s.extra.length ∧ i = .int .i64 j ∧ Below w1.heap.size w1 wr) (fun i _ => s.extra.length - (intOf i).toNat)
      case atStart => exact ⟨0, Nat.zero_le _, rfl, unhide HB⟩
      case round =>
        obtain ⟨i, hi, rfl, hb⟩ := hrel
        have HC3 := hide (((unhide HC).below (unhide HB1)).below hb)
        have HM3 := hide (MR.below' (unhide HM) hb)
        by_cases hlt2 : i < s.extra.length
        · obtain ⟨g1, c1', e1, x0, x1, x2, _, _⟩ := (unhide HC3).exForm hlt2
          simp only [Value.slice.injEq, true_and] at e1
          obtain ⟨rfl, rfl⟩ := e1
          have hA := (unhide HM3).a
          have hCc := (unhide HM3).c
          have hP := (unhide HM3).p
          rw [List.length_map] at hA hCc hP
          obtain ⟨ga, ea, y0⟩ := owns_at hA (i := i) (u := .int .i64 s.extra[i].1) (by simp [hlt2]) hlt2
          obtain ⟨gc, ec, y1⟩ := owns_at hCc (i := i) (u := .int .i64 s.extra[i].2.1) (by simp [hlt2]) hlt2
          obtain ⟨gp, ep, y2⟩ := owns_at hP (i := i) (u := .bool s.extra[i].2.2) (by simp [hlt2]) hlt2
          subst ea; subst ec; subst ep
          have a2 := (unhide HC3).blk.c2
          have HB2 := hide hb
          clear HB hb hA hCc hP HC3 HM3
          generalize s.extra[i].1 = xx at x0 y0
          generalize s.extra[i].2.1 = yy at x1 y1
          generalize s.extra[i].2.2 = zz at x2 y2
          have hxx : (xx != xx) = false := by simp
          have hyy : (yy != yy) = false := by simp
          have hzz : (zz != zz) = false := by simp
          have hil : (i : Int) < (s.extra.length : Int) := by omega
          go_wp2_with (go_at_call 29; go_must (refine (extra_any p g1 _ _ i xx yy zz _ a2 hlt2 x0 x1 x2).mono ?_); rintro e w2 ⟨rfl, hb2⟩; have HB3 := hide ((unhide HB2).trans (hb2.mono (unhide HB2).size)); have y0' := (hb2.cell (World.block_lt_of_cell? _ _ y0)).trans y0; have y1' := (hb2.cell (World.block_lt_of_cell? _ _ y1)).trans y1; have y2' := (hb2.cell (World.block_lt_of_cell? _ _ y2)).trans y2; clear hb2)
          go_roundw
          case rel => exact ⟨i + 1, by omega, by go_num, unhide HB3⟩
          case measure => simp [intOf]; omega
        · have a5 := (unhide HC3).blk.c5
          have a6 := (unhide HC3).blk.c6
          have a7 := (unhide HC3).blk.c7
          have HB2 := hide hb
          clear HB hb HC3 HM3
          generalize s.ra = ra at *
          generalize s.rr = rr at *
          generalize s.rp = rp at *
          have q1 : (ra == ra) = true := by simp
          have q2 : (rr == rr) = true := by simp
          have q3 : (rp == rp) = true := by simp
          go_wp2_with (go_at_call 30; go_must (refine (run_any p ra rr rp _ a5 a6 a7).mono ?_); rintro e w2 ⟨rfl, hb2⟩; have HB3 := hide ((unhide HB2).trans (hb2.mono (unhide HB2).size)); clear hb2)
          go_ret
          exact ⟨rfl, (unhide HB1).trans ((unhide HB3).mono (unhide HB1).size)⟩
end Go.Proofs.Qxb6603268a
