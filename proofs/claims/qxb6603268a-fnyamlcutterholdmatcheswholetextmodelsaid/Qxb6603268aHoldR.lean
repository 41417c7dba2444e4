import Derived.Test.Qxb6603268aExtra
import Derived.Deep.QuietTactic
import Derived.BigQuiet
import Derived.Deep.DeepCutAuto
import Derived.Deep.DeepMust
import Derived.Outline
import Derived.RegionTactic
import Derived.BigRegion
import Derived.ChangeAlike
namespace Go.Proofs.Qxb6603268a
open Go.RowKit
set_option linter.unusedSimpArgs false
set_option linter.unusedVariables false

theorem Mid.drewN {w0 w : World} {B p : Nat} {dv0 ev0 dv ev : Value} {s : St} (h : Mid w0 w B p dv0 ev0 dv ev s) (n : Nat) : Mid w0 (w.drewN n) B p dv0 ev0 dv ev s := ⟨h.cut.kept (fun _ _ => rfl), ⟨h.keep.os, h.keep.tape, h.keep.output, h.keep.size, h.keep.block⟩, h.fresh⟩

theorem CutAt.slice {w : World} {B p : Nat} {dv ev : Value} {s : St} (h : CutAt w B p dv ev s) : ∃ o c, dv = .slice o s.data.length c := by
  rcases h.data.2 with ⟨h, h0⟩ | ⟨g, cap, cur, h, _⟩
  · exact ⟨_, _, by rw [h0]; exact h⟩
  · exact ⟨_, _, h⟩

theorem CutAt.exSlice {w : World} {B p : Nat} {dv ev : Value} {s : St} (h : CutAt w B p dv ev s) : ∃ o c, ev = .slice o s.extra.length c := by
  rcases h.extra.2 with ⟨h, h0⟩ | ⟨g, cap, cur, h, _⟩
  · exact ⟨_, _, by rw [h0]; exact h⟩
  · exact ⟨_, _, h⟩
theorem CutAt.last {w : World} {B p : Nat} {dv ev : Value} {s : St} (h : CutAt w B p dv ev s) {q : Nat} (hq : s.data.length = q + 1) : ∃ g c, dv = .slice (some ⟨g, 0, none⟩) (q + 1) c ∧ w.cell? ⟨g, q, none⟩ = some (.int .u8 (s.data.getD q 0)) := by
  obtain ⟨g, cap, hv, _, _⟩ := h.data.form (by omega)
  have hd := h.data
  rw [hv] at hd
  refine ⟨g, cap, by rw [← hq]; exact hv, ?_⟩
  rw [hd.cellAt q (by omega)]
  have hlt : q < s.data.length := by omega
  rw [List.getElem?_map, List.getElem?_eq_getElem hlt]
  simp [hlt]

/-- the one new byte lies in the block that was made for it -/
theorem cell_one_u8 (b : Int) (w : World) (H : Nat) (hH : w.heap.size = H) : ∀ j u, [Value.int .u8 b][j]? = some u → (w.alloc (.cells #[.int .u8 b] 5)).cell? ((⟨H, 0, none⟩ : Addr).add j) = some u := fun j u hu => by
  subst hH
  match j, hu with
  | 0, hu => simp at hu; subst hu; simp [Addr.add]
theorem one_one (b : Int) : ∀ u ∈ [Value.int .u8 b], u.oneCell' = true := fun u hu => by simp at hu; subst hu; rfl
theorem cell_new_u8 (b : Int) (w : World) (H : Nat) (hH : w.heap.size = H) : (w.alloc (.cells #[.int .u8 b] 5)).cell? ⟨H, 0, none⟩ = some (.int .u8 b) := by
  subst hH; simp
theorem Mid.filled {w0 w X w2 : World} {B p : Nat} {dv0 ev0 dv ev : Value} {s : St} (h : Mid w0 w B p dv0 ev0 dv ev s) {o : Obj} {n H : Nat} {b : Int} (hf : Filled X H H n b n w2) (hH : X.heap.size = H)
    (e1 : X.heap = (w.alloc o).heap) (e2 : X.os = w.os) (e3 : X.tape = w.tape) (e4 : X.output = w.output) : Mid w0 w2 B p dv0 ev0 dv ev s := by
  subst hH
  obtain ⟨_, _, _, _, hb, _⟩ := hf
  have hX : Below w.heap.size w X := ⟨e2, e3, e4, by rw [e1]; simp, fun k hk => by rw [e1]; exact Below.heap_alloc w o k hk⟩
  exact h.below (hX.trans (hb.mono hX.size))

/-- a new block, whatever the draws -/
theorem Mid.new {w0 X Y : World} {B p : Nat} {dv0 ev0 dv ev : Value} {s : St} (h : Mid w0 X B p dv0 ev0 dv ev s) (o : Obj) {H : Nat} (hH : X.heap.size = H)
    (e1 : Y.heap = (X.alloc o).heap) (e2 : Y.os = X.os) (e3 : Y.tape = X.tape) (e4 : Y.output = X.output) : Mid w0 Y B p dv0 ev0 dv ev s ∧ Y.heap[H]? = some o := by
  subst hH
  refine ⟨h.below ⟨e2, e3, e4, by rw [e1]; simp, fun k hk => by rw [e1]; exact Below.heap_alloc X o k hk⟩, ?_⟩
  rw [e1]
  exact heap_alloc_new X o

theorem Mid.newGrewE {w0 X Y w1 : World} {B p : Nat} {dv0 ev0 dv ev : Value} {s : St} (h : Mid w0 X B p dv0 ev0 dv ev s) (o : Obj) {g m cap : Nat} {ys : List (Int × Int × Bool)} {xs : List Value} (hg : Y.grownBy w1 ev.ownBlock)
    (hown : w1.ownsRow B 69 3 (.slice (some ⟨g, 0, none⟩) m cap) m xs) (hat : ev.ownBlock = some g ∨ g = Y.heap.size) (hm : m = ys.length) (hx : xs = exCells ys)
    (e1 : Y.heap = (X.alloc o).heap) (e2 : Y.os = X.os) (e3 : Y.tape = X.tape) (e4 : Y.output = X.output) : GrewE w0 w1 B p dv0 ev0 dv ev (.slice (some ⟨g, 0, none⟩) m cap) s ys :=
  (h.new o rfl e1 e2 e3 e4).1.grewE hown hm hx hg hat

/-- does a new run begin? -/
def St.isNew (s : St) (b : Int) : Bool := (s.data.length == 0) || (s.data.getD (s.data.length - 1) 0 != b)
def St.begin (s : St) (b : Int) : St := { s with data := s.data ++ [b], ra := s.data.length, rr := -1, rp := true }
/-- the state's last run is in order -/
def St.Ok (s : St) : Prop := ∃ q : Nat, s.data.length = q + 1 ∧ q < 16777216 ∧ 0 ≤ s.ra ∧ s.ra ≤ q ∧ -1 ≤ s.rr ∧ s.rr < s.extra.length
def St.Small (s : St) : Prop := s.data.length < 16777216 ∧ s.extra.length ≤ 16777216 ∧ ∀ e ∈ s.extra, 0 ≤ e.2.1 ∧ e.2.1 ≤ 1099511627776

/-- m copies more of the run's byte -/
def St.more (s : St) (b : Int) (m : Nat) (pd : Bool) : St :=
  if 0 ≤ s.rr then { s with rp := s.rp && pd, extra := s.extra.set s.rr.toNat ((s.extra.getD s.rr.toNat (0, 0, false)).1, (s.extra.getD s.rr.toNat (0, 0, false)).2.1 + m, s.rp && pd) }
  else if 24 < (s.data.length : Int) - 1 - s.ra + m then { data := s.data.take (s.ra.toNat + 1), extra := s.extra ++ [(s.ra, (s.data.length : Int) - 1 - s.ra + m, s.rp && pd)], ra := s.ra, rr := s.extra.length, rp := s.rp && pd }
  else { s with data := s.data ++ List.replicate m b, rp := s.rp && pd }
/-- where the walk comes to line 488: the state s', m copies left -/
def St.At488 (s : St) (b : Int) (n : Nat) (s' : St) (m : Nat) : Prop := (s.isNew b = true ∧ s' = s.begin b ∧ n = m + 1) ∨ (s.isNew b = false ∧ s' = s ∧ m = n)
def St.run (s : St) (b : Int) (n : Nat) (pd : Bool) : St :=
  if s.isNew b then (if n = 1 then s.begin b else (s.begin b).more b (n - 1) pd) else s.more b n pd
theorem St.more_rep {s : St} {b : Int} {m : Nat} {pd : Bool} {r : Nat} (hr : s.rr = r) (hrl : r < s.extra.length) : s.more b m pd = { s with rp := s.rp && pd, extra := s.extra.set r (s.extra[r].1, s.extra[r].2.1 + m, s.rp && pd) } := by
  unfold St.more
  rw [if_pos (by omega)]
  have e : s.rr.toNat = r := by omega
  have e2 : s.extra.getD r (0, 0, false) = s.extra[r] := by simp [hrl]
  rw [e, e2]
theorem St.more_cut {s : St} {b : Int} {m : Nat} {pd : Bool} {q r : Nat} (hrr : ¬ 0 ≤ s.rr) (hq : s.data.length = q + 1) (hr : s.ra = r) (h : 24 < (q : Int) - s.ra + m) :
    s.more b m pd = { data := s.data.take (r + 1), extra := s.extra ++ [(s.ra, (q : Int) - s.ra + m, s.rp && pd)], ra := s.ra, rr := s.extra.length, rp := s.rp && pd } := by
  have e : s.ra.toNat = r := by omega
  have e2 : (s.data.length : Int) - 1 - s.ra + m = (q : Int) - s.ra + m := by omega
  unfold St.more
  rw [if_neg hrr, e2, if_pos h, e]
theorem St.more_add {s : St} {b : Int} {m : Nat} {pd : Bool} {q : Nat} (hrr : ¬ 0 ≤ s.rr) (hq : s.data.length = q + 1) (h : ¬ 24 < (q : Int) - s.ra + m) :
    s.more b m pd = { s with data := s.data ++ List.replicate m b, rp := s.rp && pd } := by
  have e2 : (s.data.length : Int) - 1 - s.ra + m = (q : Int) - s.ra + m := by omega
  unfold St.more
  rw [if_neg hrr, e2, if_neg h]
theorem info69 : (Try.prog.info? 69).map (fun i => (i.zero, i.size, i.bytes)) = some (some (.agg #[.int .i64 0, .int .i64 0, .bool false]), 3, 24) := by kernel_rfl
theorem cell_one_rep (x y : Int) (z : Bool) (w : World) (H : Nat) (hH : w.heap[H]? = some (.cells #[.int .i64 x, .int .i64 y, .bool z] 69 (0, 0))) : ∀ j u, [Value.int .i64 x, .int .i64 y, .bool z][j]? = some u → w.cell? ((⟨H, 0, none⟩ : Addr).add j) = some u :=
  World.news_of_block hH
theorem one_rep (x y : Int) (z : Bool) : ∀ u ∈ [Value.int .i64 x, .int .i64 y, .bool z], u.oneCell' = true := fun u hu => by
  simp at hu; rcases hu with rfl | rfl | rfl <;> rfl

theorem St.At488.ok {s s' : St} {b : Int} {n m : Nat} (h : s.At488 b n s' m) (hok : s.isNew b = false → s.Ok) (hs : s.Small) : s'.Ok := by
  rcases h with ⟨h1, rfl, rfl⟩ | ⟨h1, rfl, rfl⟩
  · exact ⟨s.data.length, by simp [St.begin], hs.1, by simp [St.begin], by simp [St.begin], by simp [St.begin], by simp [St.begin]; omega⟩
  · exact hok h1
theorem St.At488.ex {s s' : St} {b : Int} {n m : Nat} (h : s.At488 b n s' m) : s'.extra = s.extra ∧ m ≤ n := by
  rcases h with ⟨h1, rfl, rfl⟩ | ⟨h1, rfl, rfl⟩
  · exact ⟨rfl, by omega⟩
  · exact ⟨rfl, Nat.le_refl _⟩
theorem St.run_at {s s' : St} {b : Int} {n m : Nat} {pd : Bool} (h : s.At488 b n s' m) (hm : 0 < m) : s.run b n pd = s'.more b m pd := by
  unfold St.run
  rcases h with ⟨h1, rfl, rfl⟩ | ⟨h1, rfl, rfl⟩
  · rw [if_pos h1, if_neg (by omega)]; rfl
  · rw [if_neg (by rw [h1]; decide)]

set_option maxRecDepth 100000 in
set_option maxHeartbeats 8000000 in
theorem hold_run (B p : Nat) (dv ev : Value) (s : St) (b : Int) (n : Nat) (pd : Bool) (w : World) (hcut0 : CutAt w B p dv ev s) (hB : B ≤ w.heap.size) (hn0 : 0 < n) (hn : n ≤ 16777216) (hsm : s.Small) (hok : s.isNew b = false → s.Ok)
    (h1 : (b != 32) = false ∨ ((b != 32) = true ∧ (b != 10) = false)) :
    Calls Try.prog 31 #[.pointer (some ⟨p, 0, none⟩), .int .u8 b, .int .i64 n, .bool pd] w fun e w' => e = .returned (.tuple #[]) ∧ Held w w' B p dv ev (s.run b n pd) := by
  have hz : ((n : Int) == 0) = false := by simp; omega
  obtain ⟨i0, hi, hz0, hz1, hz2⟩ := info_parts info5
  have HM := hide (Mid.start hcut0)
  have hsz := hsm.1
  have HS := hide hsm
  have HO := hide hok
  clear hsm hok
  go_enter Try.func31, Try.ntmps31
  go_upto_region 1 with fail
  go_cut [16] from 9 to 16 (fun t wc => t = .bool false ∧ w = wc)
  case first =>
    rcases h1 with h1 | ⟨h1, h1b⟩
    · go_wp2
      go_meet
      case rel => exact ⟨rfl, rfl⟩
    · go_wp2
      go_meet
      case rel => exact ⟨rfl, rfl⟩
  case rest =>
  obtain ⟨rfl, rfl⟩ := hcut
  clear h1
  go_upto_region 3 with fail
  go_cut [55] from 31 to 55 (fun t wc => t = .bool (s.isNew b) ∧ ∃ k, wc = w.drewN k)
  case first =>
    have c0 := hcut0.blk.c0
    by_cases hL0 : s.data.length = 0
    · obtain ⟨o, c, hdv⟩ := hcut0.slice
      have hnew : s.isNew b = true := by simp [St.isNew, hL0]
      rw [hL0] at hdv
      have HN := hide hnew
      clear hcut0 HM hL0 hnew
      subst hdv
      go_quiet (fail)
      go_wp2
      go_meet
      case rel => exact ⟨congrArg Value.bool (unhide HN).symm, _, rfl⟩
    · obtain ⟨q, hq⟩ : ∃ q, s.data.length = q + 1 := ⟨s.data.length - 1, by omega⟩
      obtain ⟨g, c, hdv, hcell⟩ := hcut0.last hq
      have hnew : s.isNew b = (s.data.getD q 0 != b) := by simp [St.isNew, hq]
      generalize s.data.getD q 0 = x at hcell hnew
      have HN := hide hnew
      have hq1 : ((q : Int) + 1 == 0) = false := by simp; omega
      have hw1 : IntKind.i64.wrap (q : Int) = (q : Int) := by rw [IntKind.wrap_i64]; omega
      have hw2 : IntKind.i64.wrap ((q : Int) + 1 - 1) = (q : Int) := by rw [IntKind.wrap_i64]; omega
      have hq2 : (q : Int) < (q : Int) + 1 := by omega
      have hq3 : (0 : Int) ≤ (q : Int) := by omega
      clear hcut0 HM hL0 hnew hq
      subst hdv
      go_quiet (fail)
      go_wp2
      go_meet
      case rel => exact ⟨congrArg Value.bool (unhide HN).symm, _, rfl⟩
  case rest =>
  obtain ⟨rfl, nq, rfl⟩ := hcut
  go_upto_if 55 with fail
  go_cut [2] from 55 to 86 (fun v wc => ∃ (dv' ev' : Value) (s' : St) (m : Nat), v = .int .i64 m ∧ 0 < m ∧ Mid w wc B p dv ev dv' ev' s' ∧ s.At488 b n s' m)
  case first =>
    by_cases hnew : s.isNew b = true
    · rw [hnew]
      have c0 := hcut0.blk.c0
      have c5 := hcut0.blk.c5
      have c6 := hcut0.blk.c6
      have c7 := hcut0.blk.c7
      have f0 := hcut0.blk.fz 0
      have f5 := hcut0.blk.fz 5
      have f6 := hcut0.blk.fz 6
      have f7 := hcut0.blk.fz 7
      have hpl := hcut0.blk.lt
      obtain ⟨o, c, hdv⟩ := hcut0.slice
      obtain ⟨L, hL⟩ : ∃ L, L = s.data.length := ⟨_, rfl⟩
      rw [← hL] at hdv hsz
      have HL := hide hL
      have HN := hide hnew
      clear hnew
      subst hdv
      obtain ⟨m, rfl⟩ : ∃ m, n = m + 1 := ⟨n - 1, by omega⟩
      clear hcut0 hL
      by_cases hm : m = 0
      · subst hm
        go_wp2_with (at_builtin; go_must (refine wpList_append_lies _ rfl (.tmp 76) (.tmp 78) 25 rfl B 5 i0 (.int .u8 0) 1 1 Try.underlying25 hi hz0 hz1 hz2 rfl (by decide) (.slice o L c) L (s.data.map (Value.int .u8)) rfl (by have := (((((unhide HM).drewN nq).set5 (L : Int)).set6 (-1)).set7 true).cut.data; rw [← unhide HL] at this; exact this.alloc _) ⟨w.heap.size, 0, none⟩ 1 1 [.int .u8 b] rfl rfl (cell_one_u8 b _ w.heap.size (by simp)) (one_one b) (by decide) (by unfold maxLen; omega) (by omega) (by simp; omega) _ rfl ?_); intro g cap w3 hown hgrow hat hlt; have HG := hide (((((((unhide HM).drewN nq).set5 (L : Int)).set6 (-1)).set7 true).alloc _).grew (ys := s.data ++ [b]) hown (by rw [unhide HL]; simp) (by simp) hgrow hat); have c3 := (unhide HG).blk.c0; have f3 := (unhide HG).blk.fz 0; clear hown hgrow hat hlt)
        refine bodyPost_ret (results_none rfl _ _ _) rfl ⟨rfl, ?_⟩
        have hr : s.run b (0 + 1) pd = s.begin b := by unfold St.run; rw [if_pos (unhide HN), if_pos rfl]
        have hbeg : s.begin b = { data := s.data ++ [b], extra := s.extra, ra := (L : Int), rr := -1, rp := true } := by unfold St.begin; rw [← unhide HL]
        rw [hr, hbeg]
        exact (unhide HG).store.held
      · have hmz : ((m : Int) == 0) = false := by simp; omega
        go_wp2_with (at_builtin; go_must (refine wpList_append_lies _ rfl (.tmp 76) (.tmp 78) 25 rfl B 5 i0 (.int .u8 0) 1 1 Try.underlying25 hi hz0 hz1 hz2 rfl (by decide) (.slice o L c) L (s.data.map (Value.int .u8)) rfl (by have := (((((unhide HM).drewN nq).set5 (L : Int)).set6 (-1)).set7 true).cut.data; rw [← unhide HL] at this; exact this.alloc _) ⟨w.heap.size, 0, none⟩ 1 1 [.int .u8 b] rfl rfl (cell_one_u8 b _ w.heap.size (by simp)) (one_one b) (by decide) (by unfold maxLen; omega) (by omega) (by simp; omega) _ rfl ?_); intro g cap w3 hown hgrow hat hlt; have HG := hide (((((((unhide HM).drewN nq).set5 (L : Int)).set6 (-1)).set7 true).alloc _).grew (ys := s.data ++ [b]) hown (by rw [unhide HL]; simp) (by simp) hgrow hat); have c3 := (unhide HG).blk.c0; have f3 := (unhide HG).blk.fz 0; clear hown hgrow hat hlt)
        go_meet
        case rel =>
          have hbeg : s.begin b = { data := s.data ++ [b], extra := s.extra, ra := (L : Int), rr := -1, rp := true } := by unfold St.begin; rw [← unhide HL]
          have hS : Mid w (w3.setCell ⟨p, 0, none⟩ (.slice (some ⟨g, 0, none⟩) (L + 1) cap)) B p (.slice o L c) ev (.slice (some ⟨g, 0, none⟩) (L + 1) cap) ev (s.begin b) := by rw [hbeg]; exact (unhide HG).store
          exact ⟨_, _, s.begin b, m, by go_num, by omega, hS, Or.inl ⟨unhide HN, rfl, rfl⟩⟩
    · have hnew' : s.isNew b = false := by simpa using hnew
      rw [hnew']
      go_wp2
      go_meet
      case rel => exact ⟨dv, ev, s, n, rfl, hn0, (unhide HM).drewN nq, Or.inr ⟨hnew', rfl, rfl⟩⟩
  case rest =>
  obtain ⟨dv', ev', s', m, rfl, hm0, HM', hat⟩ := hcut
  have HA := hide hat
  clear HM hcut0 hat
  obtain ⟨q, hq, hq16, hra0, hra, hrr0, hrr⟩ := (unhide HA).ok (unhide HO) (unhide HS)
  obtain ⟨g, c, hdv, _⟩ := HM'.cut.last hq
  subst hdv
  have HM1 := hide HM'
  clear HM'
  go_upto_region 8 with fail
  go_cut [94] from 87 to 96 (fun t wd => t = .bool (s'.rp && pd) ∧ Mid w wd B p dv ev (.slice (some ⟨g, 0, none⟩) (q + 1) c) ev' { s' with rp := s'.rp && pd })
  case first =>
    have c7 := (unhide HM1).cut.blk.c7
    have f7 := (unhide HM1).cut.blk.fz 7
    generalize hrp : s'.rp = rp at c7
    have HRP := hide hrp
    clear hrp
    cases rp
    · go_wp2
      go_meet
      case rel => rw [unhide HRP]; exact ⟨rfl, (unhide HM1).set7 _⟩
    · go_wp2
      go_meet
      case rel => rw [unhide HRP]; exact ⟨rfl, (unhide HM1).set7 _⟩
  case rest =>
  obtain ⟨rfl, HM2'⟩ := hcut
  have HM2 := hide HM2'
  have c0 := HM2'.cut.blk.c0
  have c2 := HM2'.cut.blk.c2
  have c5 := HM2'.cut.blk.c5
  have c6 := HM2'.cut.blk.c6
  have c7 := HM2'.cut.blk.c7
  have f0 := HM2'.cut.blk.fz 0
  have f2 := HM2'.cut.blk.fz 2
  have f6 := HM2'.cut.blk.fz 6
  clear HM1 HM2'
  dsimp only at c5 c6 c7
  have hxl := (unhide HA).ex.1
  have hmn := (unhide HA).ex.2
  have hsm := unhide HS
  have HR := hide (St.run_at (pd := pd) (unhide HA) hm0)
  obtain ⟨ra, hra'⟩ : ∃ ra, ra = s'.ra := ⟨_, rfl⟩
  obtain ⟨r2, hr2'⟩ : ∃ r2, r2 = (s'.rp && pd) := ⟨_, rfl⟩
  rw [← hra'] at c5 hra0 hra
  rw [← hr2'] at c7
  have hml : m ≤ 16777216 := by omega
  have hxl2 : s'.extra.length ≤ 16777216 := by rw [hxl]; exact hsm.2.1
  have hw1 : IntKind.i64.wrap (q : Int) = (q : Int) := by rw [IntKind.wrap_i64]; omega
  have hw2 : IntKind.i64.wrap ((q : Int) + 1 - 1) = (q : Int) := by rw [IntKind.wrap_i64]; omega
  have hw3 : IntKind.i64.wrap ((q : Int) - ra) = (q : Int) - ra := by rw [IntKind.wrap_i64]; omega
  have hw4 : IntKind.i64.wrap ((q : Int) - ra + (m : Int)) = (q : Int) - ra + (m : Int) := by rw [IntKind.wrap_i64]; omega
  by_cases h0 : 0 ≤ s'.rr
  · obtain ⟨r, hr⟩ := Int.eq_ofNat_of_zero_le h0
    have hrl : r < s'.extra.length := by omega
    obtain ⟨ge, ce, hev, e0, e1, e2, fe, hnep⟩ := (unhide HM2).cut.exForm (r := r) hrl
    dsimp only at hev e0 e1 e2
    have hcnt := hsm.2.2 s'.extra[r] (by rw [← hxl]; exact List.getElem_mem hrl)
    obtain ⟨cnt, hcnt'⟩ : ∃ cnt, cnt = s'.extra[r].2.1 := ⟨_, rfl⟩
    obtain ⟨pdr, hpdr'⟩ : ∃ pdr, pdr = s'.extra[r].2.2 := ⟨_, rfl⟩
    rw [← hcnt'] at e1 hcnt
    rw [← hpdr'] at e2
    have HC := hide hcnt'
    clear hcnt' hpdr'
    have fe1 := fe (r * 3 + 1)
    have fe2 := fe (r * 3 + 2)
    have hrE : (r : Int) < (s'.extra.length : Int) := by omega
    have hr0 : (0 : Int) ≤ (r : Int) := by omega
    have hw5 : IntKind.i64.wrap (cnt + (m : Int)) = cnt + (m : Int) := by rw [IntKind.wrap_i64]; omega
    rw [hr] at c6
    subst hev
    clear e0
    have HX := hide hr
    have HP := hide hr2'
    clear fe hsm hxl hr2' hra' h0 hrr hrr0 hr hw4
    go_wp2_with fail
    go_quiet (fail)
    go_wp2_with fail
    go_region
    have far : ∀ (X : World) (v : Value) (j : Nat), (X.setCell ⟨ge, r * 3 + 1, none⟩ v).cell? ⟨p, j, none⟩ = X.cell? ⟨p, j, none⟩ := fun X v j => World.cell?_of_block (heap_setCell_other X _ p v (fun e => hnep e.symm))
    go_wp2_with fail
    go_region
    go_wp2_with fail
    refine bodyPost_end (results_none rfl _ _ _) rfl ⟨rfl, ?_⟩
    rw [unhide HR, St.more_rep (unhide HX) hrl, ← unhide HC, ← unhide HP]
    have hfin := (((unhide HM2).drewN (nq + 1)).set_ex (r := r) hrl (cnt + m) r2).drew.held
    rw [← unhide HP] at hfin
    exact hfin
  · obtain ⟨r, hr⟩ := Int.eq_ofNat_of_zero_le hra0
    have hrm : s'.rr = -1 := by omega
    have hqc : q + 1 ≤ c := by
      rcases (unhide HM2).cut.data.2 with ⟨h', _⟩ | ⟨_, _, _, h', _, _, hnc, _⟩
      · cases h'
      · injection h' with _ h2 h3; dsimp only at h2 hnc; omega
    rw [hrm] at c6
    subst hr
    have HQ := hide hq
    have HH := hide h0
    have HP := hide hr2'
    have HRA := hide hra'
    clear hrr hrr0 hrm hxl hsm h0 hr2' hra' hq
    by_cases hbig : 24 < (q : Int) - (r : Int) + (m : Int)
    · have hw6 : IntKind.i64.wrap ((r : Int) + 1) = (r : Int) + 1 := by rw [IntKind.wrap_i64]; omega
      have hk1 : (r : Int) + 1 ≤ (c : Int) := by omega
      have hk2 : (0 : Int) ≤ (r : Int) + 1 := by omega
      obtain ⟨j0, ji, jz0, jz1, jz2⟩ := info_parts info69
      obtain ⟨oe, ce, hev⟩ := (unhide HM2).cut.exSlice
      dsimp only at hev
      subst hev
      go_wp2_with fail
      go_quiet (fail)
      go_wp2_with fail
      go_region
      go_wp2_with fail
      have HM3 := hide (((((unhide HM2).drewN (nq + 1)).cutTo (r := r) (by omega)).set6 (s'.extra.length : Int)))
      have hBX : B ≤ wc.heap.size := by have := (unhide HM2).keep.size; omega
      clear HM2
      generalize hX : ((wc.drewN (nq + 1)).setCell ⟨p, 0, none⟩ (.slice (some ⟨g, 0, none⟩) (r + 1) c)).setCell ⟨p, 6, none⟩ (.int .i64 (s'.extra.length : Int)) = X at HM3 ⊢
      have hBc : B ≤ X.heap.size := by rw [← hX]; simpa using hBX
      clear hX hBX c0 c2 c5 c6 c7 f0 f2 f6
      have hpl := (unhide HM3).cut.blk.lt
      have x2 := (unhide HM3).cut.blk.c2
      have x5 := (unhide HM3).cut.blk.c5
      have x7 := (unhide HM3).cut.blk.c7
      dsimp only at x2 x5 x7
      rw [← unhide HRA] at x5
      rw [← unhide HP] at x7
      go_region_law (
        (refine step_append_lies _ rfl (.tmp 194) (.tmp 207) 50 rfl B 69 j0 (.agg #[.int .i64 0, .int .i64 0, .bool false]) 3 24 Try.underlying50 ji jz0 jz1 jz2 rfl (by decide) (.slice oe s'.extra.length ce) s'.extra.length (exCells s'.extra) (by simp [Act.eval, Act.put]) (by exact ((unhide HM3).new (.cells #[.int .i64 (r : Int), .int .i64 ((q : Int) - (r : Int) + (m : Int)), .bool r2] 69) (H := X.heap.size) (by simp) rfl rfl rfl rfl).1.cut.extra) ⟨X.heap.size, 0, none⟩ 1 1 [.int .i64 (r : Int), .int .i64 ((q : Int) - (r : Int) + (m : Int)), .bool r2] (by simp [Act.eval, Act.put]) (by rfl) (cell_one_rep _ _ _ _ _ (by exact ((unhide HM3).new (.cells #[.int .i64 (r : Int), .int .i64 ((q : Int) - (r : Int) + (m : Int)), .bool r2] 69) (H := X.heap.size) (by simp) rfl rfl rfl rfl).2)) (one_rep _ _ _) (by decide) (by unfold maxLen; omega) (by omega) (by simp; omega) _ rfl ?_
         intro g3 cap w3 hown hgrow hat hlt
         have HG := hide ((unhide HM3).newGrewE (.cells #[.int .i64 (r : Int), .int .i64 ((q : Int) - (r : Int) + (m : Int)), .bool r2] 69) (ys := s'.extra ++ [((r : Int), (q : Int) - (r : Int) + (m : Int), r2)]) hgrow hown hat (by simp) (by rw [exCells_append]; rfl) rfl rfl rfl rfl)
         have k3 := (unhide HG).blk.c2
         have f3 := (unhide HG).blk.fz 2
         clear hown hgrow hat hlt
         simp only [Act.put, List.setIfInBounds_toArray]))
      all_goals
        go_wp2
        refine bodyPost_end (results_none rfl _ _ _) rfl ⟨rfl, ?_⟩
        have hra2 : s'.ra = (r : Int) := (unhide HRA).symm
        rw [unhide HR, St.more_cut (by have := unhide HH; omega) (unhide HQ) hra2 (by rw [hra2]; exact hbig), ← unhide HP, hra2]
        have hfin := (unhide HG).store.held
        dsimp only at hfin
        rw [← unhide HP, hra2] at hfin
        exact hfin
    · have HB := hide hbig
      go_wp2_with fail
      go_quiet (fail)
      go_wp2_with fail
      have HM3 := hide ((unhide HM2).drewN nq)
      have hBX : B ≤ wc.heap.size := by have := (unhide HM2).keep.size; omega
      clear HM2
      generalize hX : wc.drewN nq = X at HM3 ⊢
      have hBc : B ≤ X.heap.size := by rw [← hX]; simpa using hBX
      clear hX hBX c0 c2 c5 c6 c7 f0 f2 f6
      have hpl := (unhide HM3).cut.blk.lt
      have x0 := (unhide HM3).cut.blk.c0
      go_region_law (first
        | (go_simp
           go_at_call 34
           go_must (refine (repeat_at X.heap.size m b _ (X.heap.size + 1) hm0 hml (by simp) (by first | exact cell_new_u8 b _ _ (by simp) | simp)).mono ?_)
           rintro e w2 ⟨rfl, hf⟩
           have HF := hide hf
           go_must (have HM4 := hide ((unhide HM3).filled (o := .cells #[.int .u8 b] 5) hf (by simp) rfl rfl rfl rfl))
           have c2 := (unhide HM4).cut.blk.c0
           clear hf)
        | (refine step_append_lies _ rfl (.tmp 114) (.tmp 118) 25 rfl B 5 i0 (.int .u8 0) 1 1 Try.underlying25 hi hz0 hz1 hz2 rfl (by decide) (.slice (some ⟨g, 0, none⟩) (q + 1) c) (q + 1) (s'.data.map (Value.int .u8)) (by simp [Act.eval, Act.put]) (by have := (unhide HM4).cut.data; dsimp only at this; rw [unhide HQ] at this; exact this) ⟨X.heap.size + 1, 0, none⟩ m m (List.replicate m (.int .u8 b)) (by simp [Act.eval, Act.put]) (by simp) (cells_replicate m b _ _ (fun j hj => (unhide HF).cell hj)) (one_replicate m b) hm0 (by unfold maxLen; omega) (by omega) (by have := (unhide HM4).keep.size; omega) _ rfl ?_
           intro g3 cap w3 hown hgrow hat hlt
           have HG := hide ((unhide HM4).grew (ys := s'.data ++ List.replicate m b) hown (by rw [List.length_append, unhide HQ]; simp) (map_app_replicate _ _ _) hgrow hat)
           have c3 := (unhide HG).blk.c0
           have f3 := (unhide HG).blk.fz 0
           clear hown hgrow hat hlt
           simp only [Act.put, List.setIfInBounds_toArray]))
      all_goals
        go_wp2
        refine bodyPost_end (results_none rfl _ _ _) rfl ⟨rfl, ?_⟩
        have hra2 : s'.ra = (r : Int) := (unhide HRA).symm
        rw [unhide HR, St.more_add (by have := unhide HH; omega) (unhide HQ) (by rw [hra2]; have := unhide HB; omega)]
        exact (unhide HG).store.held
end Go.Proofs.Qxb6603268a
