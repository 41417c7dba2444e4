import Derived.Test.Qxb6604552aEq
import Derived.Test.Qxb6604552aSmall
import Derived.Deep.RegionHeld3
namespace Go.Proofs.Qxb6604552a
open Go.RowKit
open Extern.Stop (cell)
set_option linter.unusedSimpArgs false
set_option linter.unusedVariables false

theorem isz28 : (Try.prog.info? 28).map (·.size) = some 1 := by kernel_rfl
theorem isz29 : (Try.prog.info? 29).map (·.size) = some 1 := by kernel_rfl
theorem isz33 : (Try.prog.info? 33).map (·.size) = some 1 := by kernel_rfl
theorem isz26 : (Try.prog.info? 26).map (·.size) = some 1 := by kernel_rfl
theorem isz35 : (Try.prog.info? 35).map (·.size) = some 38 := by kernel_rfl
theorem zv35 : ∀ w, (zeroValue 35).run Try.prog w = .ok (.agg (status (.slice none 0 0)).toArray) w := Try.zeroValue35
theorem build35 (o : Option Addr) (l c : Nat) (w : World) : (Instr.build 35 #[(5, .slice o l c)]).run Try.prog w = .ok (.agg (status (.slice o l c)).toArray) w := by
  have hf : Instr.fill (fun x => [(0, 1), (1, 1), (2, 33), (35, 1), (36, 1), (37, 1)][x]?) (status (.slice none 0 0)).toArray [(5, Value.slice o l c)] = some (status (.slice o l c)).toArray := by
    have e0 : (status (.slice none 0 0)).toArray = ((Value.int .u64 0 :: Value.pointer none :: (zero32 ++ [Value.pointer none, Value.slice none 0 0])) ++ [Value.slice none 0 0] ++ []).toArray := by simp [status]
    rw [e0, fill_step _ 5 37 1 _ [Value.slice o l c] _ _ _ _ rfl rfl rfl rfl rfl]
    simp [Instr.fill, status]
  unfold Instr.build
  simp only [Sem.run_bind, zv35, Result.andThen_ok, run_underlying Try.underlying35, Value.cells]
  simp [size_of isz28, size_of isz29, size_of isz32, size_of isz33, size_of isz26]
  rw [hf]
  simp
theorem status_one (o : Option Addr) (l c : Nat) : (status (.slice o l c)).toArray.all (·.oneCell') = true := all_oneCell_toArray (by
  intro v hv
  simp only [status, zero32, List.mem_append, List.mem_cons, List.mem_map, List.not_mem_nil, or_false] at hv
  rcases hv with rfl | rfl | (⟨_, _, rfl⟩ | rfl) | rfl | rfl | rfl <;> rfl)

/-- the answer -/
def Yes (w w' : World) (e : Ending) : Prop := e = .returned (.bool true) ∧ Below w.heap.size w w'

/-- the same laws at an operation that stands behind a test -/
theorem wpList_load_mid_g {P : Program} {ops : Array Oper} {rest : List Oper} {op : Oper} {a : Act} {w : World} {Q : Exit → Act → World → Prop} (ty : TypeId) (x : Operand) (ho : op.op = .load ty x)
    (b o : Nat) (hx : a.eval x = .pointer (some ⟨b, o, none⟩)) (cs : List Value) (d : TypeDesc) (hc : w.rangeAt b o cs)
    (hu : P.underlying ty = some d) (hd : d.isRow = true) (hi : (P.info? ty).map (·.size) = some cs.length) (hg : Region.wanted op (yielded ops a.tmps) = true)
    (h : wpList P ops Q rest (a.put op.dst (.agg cs.toArray)) w) : wpList P ops Q (op :: rest) a w :=
  wpList_step fun K hK => by
    simp only [hg, if_true]
    exact wp_load_mid ty x ho b o hx cs d hc hu hd hi (hK _ _ h)
theorem wpList_build_g {P : Program} {ops : Array Oper} {rest : List Oper} {op : Oper} {a : Act} {w : World} {Q : Exit → Act → World → Prop} (t : TypeId) (parts : Array (Nat × Operand)) (ho : op.op = .build t parts)
    (vs : Array (Nat × Value)) (hvs : (parts.map fun (i, x) => (i, a.eval x)) = vs) (v : Value) (hrun : (Instr.build t vs).run P w = .ok v w) (hg : Region.wanted op (yielded ops a.tmps) = true)
    (h : wpList P ops Q rest (a.put op.dst v) w) : wpList P ops Q (op :: rest) a w :=
  wpList_step fun K hK => by
    simp only [hg, if_true]
    unfold Oper.wp execOp
    simp only [ho, hvs, Sem.run_bind, hrun, Result.andThen_ok]
    exact hK _ _ h

/-- the load of a long array in a region that only reads -/
theorem quiet_load_mid {P : Program} {C : World → Prop} {K : Act → Prop} {op : Oper} {a : Act} (ty : TypeId) (x : Operand) (ho : op.op = .load ty x)
    (b o : Nat) (hx : a.eval x = .pointer (some ⟨b, o, none⟩)) (cs : List Value) (d : TypeDesc) (hS : ∀ w, C w → w.rangeAt b o cs)
    (hu : P.underlying ty = some d) (hd : d.isRow = true) (hi : (P.info? ty).map (·.size) = some cs.length) (hk : K (a.put op.dst (.agg cs.toArray))) : op.quiet P a C K :=
  ⟨_, fun w hC => by
    unfold Oper.quietAt execOp
    simp only [ho, hx, Instr.loadAt, Instr.sureAddr, Sem.run_bind, Sem.run_pure, Result.andThen_ok, run_loadVar_mid w b o ty cs d (hS w hC) hu hd hi]
    exact ⟨rfl, rfl⟩, hk⟩

theorem range_drewN {w w' : World} {b o : Nat} {cs : List Value} (h : w.rangeAt b o cs) (hw : ∃ n, w' = w.drewN n) : w'.rangeAt b o cs := by
  obtain ⟨n, rfl⟩ := hw
  exact fun j v hv => h j v hv
theorem below_drewN {B : Nat} {w w' : World} (h : Below B w w') (n : Nat) : Below B w (w'.drewN n) := ⟨h.os, h.tape, h.output, h.size, h.block⟩

/-- what the loop knows -/
structure LawInv (w wr : World) (I G W : Nat) (ids : List UInt8) (ns : List Nd) (got : Nd) (k : Nat) : Prop where
  below : Below w.heap.size w wr
  idr : wr.rangeAt I 0 (ids.map cell)
  got : wr.rangeAt G 0 got.cells
  want : wr.rangeAt W 0 ((pick ids (ns.drop k)).getD zeroNd).cells
  there : wr.there W 0 131
  hI : I < wr.heap.size
  hG : G < wr.heap.size
  hW : W < wr.heap.size
  hIW : I ≠ W
  hGW : G ≠ W
  hw : w.heap.size ≤ W

theorem LawInv.kept {w wr w2 : World} {I G W : Nat} {ids : List UInt8} {ns : List Nd} {got : Nd} {k : Nat} (h : LawInv w wr I G W ids ns got k) (hb : Below wr.heap.size wr w2) : LawInv w w2 I G W ids ns got k :=
  ⟨h.below.trans (hb.mono h.below.size), rangeAt_below h.idr hb h.hI, rangeAt_below h.got hb h.hG, rangeAt_below h.want hb h.hW, there_below h.there hb h.hW, Nat.lt_of_lt_of_le h.hI hb.size, Nat.lt_of_lt_of_le h.hG hb.size, Nat.lt_of_lt_of_le h.hW hb.size, h.hIW, h.hGW, h.hw⟩

theorem LawInv.start {w w2 w4 : World} {ids : List UInt8} {ns : List Nd} {got : Nd} {S : Obj} (hi2 : w2.rangeAt w.heap.size 0 (ids.map cell)) (bel2 : Below w.heap.size w w2) (lt2 : w.heap.size < w2.heap.size) (hb4 : Below (w2.alloc S).heap.size (w2.alloc S) w4) :
    LawInv w ((w4.alloc (.cells got.cells.toArray 38)).alloc (.cells zeroNd.cells.toArray 38)) w.heap.size w4.heap.size (w4.heap.size + 1) ids ns got ns.length := by
  have s3 : (w2.alloc S).heap.size = w2.heap.size + 1 := size_alloc _ _
  have h4 := hb4.size
  have s5 : (w4.alloc (.cells got.cells.toArray 38)).heap.size = w4.heap.size + 1 := size_alloc _ _
  have s6 : ((w4.alloc (.cells got.cells.toArray 38)).alloc (.cells zeroNd.cells.toArray 38)).heap.size = w4.heap.size + 1 + 1 := by rw [size_alloc, s5]
  have b3 : Below w.heap.size w (w2.alloc S) := bel2.alloc (Nat.le_of_lt lt2) _
  have b4 : Below w.heap.size w w4 := b3.trans (hb4.mono (by omega))
  have b6 : Below w.heap.size w ((w4.alloc (.cells got.cells.toArray 38)).alloc (.cells zeroNd.cells.toArray 38)) := (b4.alloc (by omega) _).alloc (by omega) _
  have i4 := rangeAt_below (World.rangeAt_alloc hi2 S) hb4 (by omega)
  have hwant := range_new (w4.alloc (.cells got.cells.toArray 38)) zeroNd.cells 38
  have hthere := there_new (w4.alloc (.cells got.cells.toArray 38)) zeroNd.cells 38
  rw [s5] at hwant hthere
  rw [zeroNd.length zeroNd_wf] at hthere
  refine ⟨b6, World.rangeAt_alloc (World.rangeAt_alloc i4 _) _, World.rangeAt_alloc (range_new w4 got.cells 38) _, ?_, hthere, by omega, by omega, by omega, by omega, by omega, by omega⟩
  rw [List.drop_length]
  exact hwant

theorem pick_cons (ids : List UInt8) (n : Nd) (l : List Nd) : pick ids (n :: l) = if (n.nid == ids) = true then some n else pick ids l := by
  unfold pick
  rw [List.find?_cons]
  cases (n.nid == ids) <;> rfl

theorem pick_drop (ids : List UInt8) (ns : List Nd) (k : Nat) (h : k < ns.length) : pick ids (ns.drop k) = if (ns[k].nid == ids) = true then some ns[k] else pick ids (ns.drop (k + 1)) := by
  rw [List.drop_eq_getElem_cons h, pick_cons]

theorem pick_wf {ids : List UInt8} {ns : List Nd} (hwf : ∀ n ∈ ns, n.Wf) : ((pick ids ns).getD zeroNd).Wf := by
  cases h : pick ids ns with
  | none => exact zeroNd_wf
  | some n => exact hwf n (List.mem_of_find?_eq_some h)

/-- another node: nothing turns -/
theorem LawInv.skip {w wr : World} {I G W : Nat} {ids : List UInt8} {ns : List Nd} {got : Nd} {k : Nat} (h : LawInv w wr I G W ids ns got (k + 1)) (hk : k < ns.length) (hne : (ns[k].nid == ids) = false) : LawInv w wr I G W ids ns got k ∧ (pick ids (ns.drop k)) = pick ids (ns.drop (k + 1)) := by
  have e : pick ids (ns.drop k) = pick ids (ns.drop (k + 1)) := by rw [pick_drop ids ns k hk, hne]; rfl
  exact ⟨⟨h.below, h.idr, h.got, by rw [e]; exact h.want, h.there, h.hI, h.hG, h.hW, h.hIW, h.hGW, h.hw⟩, e⟩

/-- a node with the ID: it is laid -/
theorem LawInv.hit {w wr : World} {I G W : Nat} {ids : List UInt8} {ns : List Nd} {got : Nd} {k : Nat} (h : LawInv w wr I G W ids ns got (k + 1)) (hk : k < ns.length) (he : (ns[k].nid == ids) = true) (hl : ns[k].cells.length = 131) : LawInv w (wr.setCells W 0 ns[k].cells) I G W ids ns got k ∧ (pick ids (ns.drop k)) = some ns[k] := by
  have e : pick ids (ns.drop k) = some ns[k] := by rw [pick_drop ids ns k hk, he]; rfl
  refine ⟨⟨below_setCells W h.hw _ _ _ h.below, World.rangeAt_setCells_apart h.idr _ _ _ (Or.inl h.hIW), World.rangeAt_setCells_apart h.got _ _ _ (Or.inl h.hGW), ?_, World.there_setCells h.there _ _ _, by rw [size_setCells]; exact h.hI, by rw [size_setCells]; exact h.hG, by rw [size_setCells]; exact h.hW, h.hIW, h.hGW, h.hw⟩, e⟩
  rw [e]
  exact World.rangeAt_setCells_same wr W 0 _ (by rw [hl]; exact h.there)

set_option maxHeartbeats 4000000 in
set_option maxRecDepth 100000 in
theorem law_first (o : Option Addr) (c : Nat) (ns : List Nd) (ids : List UInt8) (hid : ids.length = 32) (w : World) (hlen : ns.length ≤ maxLen) (hnone : o = none → ns = [] ∧ c = 0) (hwf : ∀ n ∈ ns, n.Wf) (hr : RowsAt w o ns) :
    Calls Try.prog 3 #[.slice o ns.length c, .agg (ids.map cell).toArray] w fun e w' => Yes w w' e := by
  have hb0 : Below w.heap.size w (w.alloc (.cells (ids.map cell).toArray 23)) := (Below.refl w.heap.size w).alloc (Nat.le_refl _) _
  have hi0 := range_new w (ids.map cell) 23
  have hr0 := hr.kept hb0
  have hby := bytes_any o c ns (ids.map cell).toArray (w.alloc (.cells (ids.map cell).toArray 23)) hlen hr0
  have s0 : (w.alloc (.cells (ids.map cell).toArray 23)).heap.size = w.heap.size + 1 := size_alloc _ _
  have hby' : Calls Try.prog 8 #[.slice o ns.length c, .agg (ids.map cell).toArray] (w.alloc (.cells (ids.map cell).toArray 23)) fun e w' => ∃ r, e = .returned (.bool r) ∧ w'.rangeAt w.heap.size 0 (ids.map cell) ∧ RowsAt w' o ns ∧ Below w.heap.size w w' ∧ w.heap.size < w'.heap.size :=
    hby.mono fun e w' ⟨⟨r, he⟩, hb⟩ => ⟨r, he, rangeAt_below hi0 hb (by omega), hr0.kept hb, hb0.trans (hb.mono (by omega)), by have := hb.size; omega⟩
  have HWF := hide hwf
  have HR := hide hr
  unfold maxLen at hlen
  clear hby hr hwf hr0 hb0
  by_cases hl : ns.length ≤ 65536
  case neg =>
    have hd : decide ((65536 : Int) < (ns.length : Int)) = true := decide_eq_true (by omega)
    go_enter Try.func3, Try.ntmps3
    go_wp2_with (first
      | (refine wpList_load_mid rfl 23 _ rfl _ _ rfl (ids.map cell) _ hi0 Try.underlying23 rfl (by rw [isz23, List.length_map, hid]) ?_)
      | (go_at_call 8; refine hby'.mono ?_; rintro e w1 ⟨r1, rfl, hi1, hr1, bel1, lt1⟩))
    all_goals
      go_ret
      exact ⟨rfl, bel1⟩
  have hd : decide ((65536 : Int) < (ns.length : Int)) = false := decide_eq_false (by omega)
  have hz := zero38.1
  obtain ⟨got, hgot⟩ : ∃ got, got = (pick ids ns).getD zeroNd := ⟨_, rfl⟩
  obtain ⟨okb, hokb⟩ : ∃ okb, okb = (pick ids ns).isSome := ⟨_, rfl⟩
  have hgw : got.Wf := by rw [hgot]; exact pick_wf (unhide HWF)
  have hnd : ∀ (o2 : Option Addr) (c2 : Nat) (w : World), RowsAt w o2 ns → Calls Try.prog 11 #[.agg (status (.slice o2 ns.length c2)).toArray, .agg (ids.map cell).toArray] w fun e w' => e = .returned (.tuple #[.agg got.cells.toArray, .bool okb]) ∧ Below w.heap.size w w' :=
    fun o2 c2 w h => (node_any o2 c2 ns ids hid w hl h).mono fun e w' ⟨he, hb⟩ => ⟨by rw [he, hgot, hokb], hb⟩
  have hno : ∀ (w1 : World), RowsAt w1 o ns → Calls Try.prog 10 #[.slice o ns.length c] w1 fun e w' => NodesOf w1 w' ns e := fun w1 h => nodesOf_any o c ns w1 hl hnone (unhide HWF) h
  have HND := hide hnd
  have HNO := hide hno
  have HGOT := hide hgot
  have HOKB := hide hokb
  clear hnd hno hgot hokb
  go_enter Try.func3, Try.ntmps3
  go_wp2_with (first
    | (refine wpList_load_mid rfl 23 _ rfl _ _ rfl (ids.map cell) _ hi0 Try.underlying23 rfl (by rw [isz23, List.length_map, hid]) ?_)
    | (go_at_call 8; refine hby'.mono ?_; rintro e w1 ⟨r1, rfl, hi1, hr1, bel1, lt1⟩; have HR1 := hide hr1; clear hr1)
    | (go_at_call 9; refine (tooBig_any o c ns _ hl (unhide HR1)).mono ?_; rintro e w1' ⟨rfl, r2, rfl⟩)
    | (go_at_call 10; refine (unhide HNO _ (unhide HR1)).mono ?_; rintro e w2 ⟨o2, c2, rfl, hr2, hb2⟩; have HR2 := hide hr2; have hi2 := rangeAt_below hi1 hb2 lt1; have bel2 := bel1.trans (hb2.mono (Nat.le_of_lt lt1)); have lt2 := Nat.lt_of_lt_of_le lt1 hb2.size; clear hr2 HR1 hi1 hb2 bel1 lt1 hi0 hby')
    | (refine wpList_build rfl 35 _ rfl #[(5, .slice o2 ns.length c2)] (by simp [go_sem]) _ (build35 o2 _ c2 _) ?_)
    | (refine wpList_store_new rfl 35 _ _ rfl _ (status (.slice o2 ns.length c2)).toArray _ rfl rfl rfl (by rw [isz35]; rfl) rfl (status_one _ _ _) ?_)
    | (refine wpList_load_mid rfl 35 _ rfl _ _ rfl (status (.slice o2 ns.length c2)) _ (range_new w2 _ 35) Try.underlying35 rfl (by rw [isz35]; rfl) ?_)
    | (refine wpList_load_mid rfl 23 _ rfl _ _ rfl (ids.map cell) _ (World.rangeAt_alloc hi2 _) Try.underlying23 rfl (by rw [isz23, List.length_map, hid]) ?_)
    | (go_at_call 11; refine (unhide HND _ _ _ ((unhide HR2).kept ((Below.refl _ _).alloc (Nat.le_refl _) _))).mono ?_; rintro e w4 ⟨rfl, hb4⟩; have HB4 := hide hb4; clear hb4)
    | (refine wpList_store_new rfl 38 _ _ rfl _ got.cells.toArray _ rfl rfl rfl (by rw [isz38, got.arr hgw]) (by rw [zeroNd.arr zeroNd_wf, got.arr hgw]) got.arrOne ?_))
  all_goals first
    | (go_ret; exact ⟨rfl, bel1⟩)
    | skip
  have HINV := hide (LawInv.start (ns := ns) (got := got) hi2 bel2 lt2 (unhide HB4))
  clear HB4 HR2 hi2 HND HNO
  go_loopw [8, 10] (fun f i wr => ∃ k : Nat, k ≤ ns.length ∧ i = .int .i64 ((k : Int) - 1) ∧ f = .bool (pick ids (ns.drop k)).isSome ∧ LawInv w wr w.heap.size w4.heap.size (w4.heap.size + 1) ids ns got k) (fun _ i _ => (intOf i + 1).toNat)
  case atStart => exact ⟨ns.length, Nat.le_refl _, rfl, by rw [List.drop_length]; rfl, unhide HINV⟩
  case round =>
    obtain ⟨k, hk, rfl, rfl, hinv⟩ := hrel
    clear HINV
    cases k with
    | zero =>
      have e0 : ((0 : Nat) : Int) - 1 = -1 := rfl
      rw [e0]
      have hgr := hinv.got
      have hwr := hinv.want
      have hbel := hinv.below
      rw [List.drop_zero] at hwr ⊢
      have hgot := unhide HGOT
      have hokb := unhide HOKB
      rw [← hgot] at hwr
      clear hinv HR HGOT HOKB
      have hlg := Nd.length _ hgw
      have heq := eq38 got hgw
      have hgd := guard38
      rw [← hokb]
      cases hok : okb
      · rw [hok] at hokb
        have hpn : pick ids ns = none := by
          cases hp : pick ids ns with
          | none => rfl
          | some n => rw [hp] at hokb; cases hokb
        rw [hpn] at hgot
        obtain rfl : got = zeroNd := hgot
        clear hokb hpn
        subst hok
        go_wp2_with (first
          | (refine wpList_load_mid_g 38 _ rfl _ _ rfl zeroNd.cells _ hgr Try.underlying38 rfl (by rw [isz38, hlg]) rfl ?_)
          | (refine wpList_build_g 38 _ rfl #[] (by simp) _ (build38z _) rfl ?_))
        go_ret
        exact ⟨rfl, hbel⟩
      · subst hok
        clear hokb hgot
        go_wp2_with (first
          | (refine wpList_load_mid_g 38 _ rfl _ _ rfl got.cells _ hgr Try.underlying38 rfl (by rw [isz38, hlg]) rfl ?_)
          | (refine wpList_load_mid_g 38 _ rfl _ _ rfl got.cells _ hwr Try.underlying38 rfl (by rw [isz38, hlg]) rfl ?_))
        go_ret
        exact ⟨rfl, hbel⟩
    | succ k =>
      have e0 : ((k + 1 : Nat) : Int) - 1 = (k : Int) := by omega
      rw [e0]
      have hlt : k < ns.length := by omega
      obtain ⟨b, off, eo, hbl, hwk, hrk0⟩ := unhide HR k hlt
      have HINV := hide hinv
      have hrk : wr.rangeAt b (off + k * 131) ns[k].cells := rangeAt_below hrk0 hinv.below hbl
      have hnid := (NdAt.of hwk hrk).nid
      have hidr := hinv.idr
      have hlk := Nd.length _ hwk
      cases eo
      clear hinv HR hrk0 e0 HGOT HOKB
      have hkl : (k : Int) < (ns.length : Int) := by omega
      generalize hnk : ns[k] = nk at *
      have hq := eq23 nk.nid ids hwk.nid hid
      have hg23 := guard23
      have u1 := Try.underlying23
      have u2 : (Try.prog.info? 23).map (·.size) = some (nk.nid.map cell).length := by rw [isz23, List.length_map, hwk.nid]
      have u3 : (Try.prog.info? 23).map (·.size) = some (ids.map cell).length := by rw [isz23, List.length_map, hid]
      have u4 : (nk.nid.map cell).length = 32 := by rw [List.length_map, hwk.nid]
      have u5 : (ids.map cell).length = 32 := by rw [List.length_map, hid]
      have u6 : ∀ v ∈ nk.nid.map cell, v.oneCell' = true := fun v hv => by obtain ⟨_, _, rfl⟩ := List.mem_map.1 hv; rfl
      have u7 : ∀ v ∈ ids.map cell, v.oneCell' = true := fun v hv => by obtain ⟨_, _, rfl⟩ := List.mem_map.1 hv; rfl
      have hbr : b < wr.heap.size := Nat.lt_of_lt_of_le hbl (unhide HINV).below.size
      cases hmt : (nk.nid == ids)
      · rw [hmt] at hq
        generalize hfnd : (pick ids (ns.drop (k + 1))).isSome = fnd at *
        go_wp2_with (fail)
        refine wp_region_quiet_lit (by kernel_rfl) (by kernel_rfl) ?_
        go_big_quiet_step (fail)
        go_big_quiet_step (fail)
        go_big_quiet_step (fail)
        go_big_quiet_step (fail)
        go_big_quiet_want
        refine quiet_load_mid 23 _ rfl _ _ rfl (nk.nid.map cell) _ (fun w' hw' => range_drewN hnid hw') u1 rfl u2 ?_
        simp only [Act.put, List.setIfInBounds_toArray, List.set_cons_zero, List.set_cons_succ]
        go_big_quiet_on
        go_big_quiet_want
        refine quiet_load_mid 23 _ rfl _ _ rfl (ids.map cell) _ (fun w' hw' => range_drewN hidr hw') u1 rfl u3 ?_
        simp only [Act.put, List.setIfInBounds_toArray, List.set_cons_zero, List.set_cons_succ]
        go_big_quiet_on
        go_big_quiet_step (fail)
        refine wpQuiet_nil ?_
        intro wq hwq
        have hbq : Below wr.heap.size wr wq := by
          obtain ⟨n, rfl⟩ := hwq
          exact below_drewN (Below.refl _ _) n
        clear hwq hq hnid hidr u1 u2 u3 u4 u5 u6 u7 hg23
        have HQ := hide ((unhide HINV).kept hbq)
        have hrq := rangeAt_below hrk hbq hbr
        clear HINV hrk
        go_wp2_with (fail)
        obtain ⟨hsk, hpe⟩ := (unhide HQ).skip hlt (by rw [hnk]; exact hmt)
        exact ⟨⟨k, by omega, by go_num, by rw [hpe, hfnd], hsk⟩, by simp [intOf]⟩
      · rw [hmt] at hq
        generalize hfnd : (pick ids (ns.drop (k + 1))).isSome = fnd at *
        go_wp2_with (fail)
        refine wp_region_quiet_lit (by kernel_rfl) (by kernel_rfl) ?_
        go_big_quiet_step (fail)
        go_big_quiet_step (fail)
        go_big_quiet_step (fail)
        go_big_quiet_step (fail)
        go_big_quiet_want
        refine quiet_load_mid 23 _ rfl _ _ rfl (nk.nid.map cell) _ (fun w' hw' => range_drewN hnid hw') u1 rfl u2 ?_
        simp only [Act.put, List.setIfInBounds_toArray, List.set_cons_zero, List.set_cons_succ]
        go_big_quiet_on
        go_big_quiet_want
        refine quiet_load_mid 23 _ rfl _ _ rfl (ids.map cell) _ (fun w' hw' => range_drewN hidr hw') u1 rfl u3 ?_
        simp only [Act.put, List.setIfInBounds_toArray, List.set_cons_zero, List.set_cons_succ]
        go_big_quiet_on
        go_big_quiet_step (fail)
        refine wpQuiet_nil ?_
        intro wq hwq
        have hbq : Below wr.heap.size wr wq := by
          obtain ⟨n, rfl⟩ := hwq
          exact below_drewN (Below.refl _ _) n
        clear hwq hq hnid hidr u1 u2 u3 u4 u5 u6 u7 hg23
        have HQ := hide ((unhide HINV).kept hbq)
        have hrq := rangeAt_below hrk hbq hbr
        clear HINV hrk
        go_wp2_with (first
          | (refine wpList_load_mid rfl 42 _ rfl _ _ rfl nk.cells _ hrq Try.underlying42 rfl (by rw [isz42, hlk]) ?_)
          | (go_at_call 12; refine (nodeOf_any nk hwk _).mono ?_; rintro e w5 ⟨rfl, hb5⟩; have HQ5 := hide ((unhide HQ).kept hb5))
          | (refine wpList_store_mid rfl 38 _ _ rfl _ _ nk.cells.toArray rfl rfl (by rw [nk.arr hwk]; exact (unhide HQ5).there) (by rw [isz38, nk.arr hwk]) nk.arrOne ?_))
        obtain ⟨hsk, hpe⟩ := (unhide HQ5).hit hlt (by rw [hnk]; exact hmt) (by rw [hnk]; exact hlk)
        rw [hnk] at hsk
        exact ⟨⟨k, by omega, by go_num, by rw [hpe]; rfl, hsk⟩, by simp [intOf]⟩
end Go.Proofs.Qxb6604552a
