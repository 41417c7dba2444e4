import Derived.Test.Qxb6603268aSplit
namespace Go.Proofs.Qxb6603268a
open Go.RowKit
set_option linter.unusedSimpArgs false
set_option linter.unusedVariables false

/-- the bytes and the flags that the first j steps hand over -/
def catB (bs ns : List Int) : Nat → List Int
  | 0 => []
  | j + 1 => catB bs ns j ++ List.replicate (ns.getD j 0).toNat (bs.getD j 0)
def catF (ps : List Bool) (ns : List Int) : Nat → List Bool
  | 0 => []
  | j + 1 => catF ps ns j ++ List.replicate (ns.getD j 0).toNat (ps.getD j false)
theorem catB_length (bs ns : List Int) : ∀ j, (catB bs ns j).length = totTo ns j
  | 0 => rfl
  | j + 1 => by simp [catB, totTo, catB_length bs ns j]
theorem catF_length (ps : List Bool) (ns : List Int) : ∀ j, (catF ps ns j).length = totTo ns j
  | 0 => rfl
  | j + 1 => by simp [catF, totTo, catF_length ps ns j]

/-- the cutter, the text and the flags in the world wr -/
structure Scr (w wr : World) (B p : Nat) (dv ev tv fv : Value) (s : St) (ts : List Int) (fs : List Bool) : Prop where
  cut : CutAt wr B p dv ev s
  t : wr.ownsRow B 5 1 tv ts.length (ts.map (Value.int .u8))
  f : wr.ownsRow B 4 1 fv fs.length (fs.map Value.bool)
  apart : ∀ k, tv.ownBlock = some k → ¬ Foot p dv ev k
  below : Below B w wr
  base : B ≤ w.heap.size

section
variable {w wr : World} {B p : Nat} {dv ev tv fv : Value} {s : St} {ts : List Int} {fs : List Bool}
theorem Scr.f_apart (h : Scr w wr B p dv ev tv fv s ts fs) : ∀ k, fv.ownBlock = some k → ¬ Foot p dv ev k := fun k hk hf => by
  obtain ⟨cur, hc⟩ := owns_ty h.f hk
  rcases hf with rfl | hf | hf
  · obtain ⟨arr, ha, _⟩ := h.cut.blk
    rw [hc] at ha; simp at ha
  · obtain ⟨arr, ha⟩ := owns_ty h.cut.data hf
    rw [hc] at ha; simp at ha
  · obtain ⟨arr, ha⟩ := owns_ty h.cut.extra hf
    rw [hc] at ha; simp at ha
theorem Scr.tf (h : Scr w wr B p dv ev tv fv s ts fs) {k : Nat} (h1 : tv.ownBlock = some k) : fv.ownBlock ≠ some k := fun h2 => by
  obtain ⟨cur, hc⟩ := owns_ty h.t h1
  obtain ⟨arr, ha⟩ := owns_ty h.f h2
  rw [hc] at ha; simp at ha
theorem Scr.le (h : Scr w wr B p dv ev tv fv s ts fs) : B ≤ wr.heap.size := Nat.le_trans h.base h.below.size
/-- behind a hold -/
theorem Scr.held {w2 : World} {dv' ev' : Value} {s' : St} (h : Scr w wr B p dv ev tv fv s ts fs) (hm : Mid wr w2 B p dv ev dv' ev' s') : Scr w w2 B p dv' ev' tv fv s' ts fs :=
  ⟨hm.cut, owns_of_block h.t (fun g hg => hm.keep.block g (h.t.lt g hg).2 (h.apart g hg)), owns_of_block h.f (fun g hg => hm.keep.block g (h.f.lt g hg).2 (h.f_apart g hg)),
    fun k hk hf => by
      rcases hm.fresh k hf with hf' | hf'
      · exact h.apart k hk hf'
      · have := (h.t.lt k hk).2; omega,
    h.below.trans (hm.keep.below h.le (fun k hk => (h.cut.foot hk).1)), h.base⟩
/-- behind what only makes blocks -/
theorem Scr.grow {w2 : World} (h : Scr w wr B p dv ev tv fv s ts fs) (hb : Below wr.heap.size wr w2) : Scr w w2 B p dv ev tv fv s ts fs :=
  ⟨h.cut.below hb, owns_of_block h.t (fun g hg => hb.block g (h.t.lt g hg).2), owns_of_block h.f (fun g hg => hb.block g (h.f.lt g hg).2), h.apart, h.below.trans (hb.mono h.le), h.base⟩
/-- behind an append to the text -/
theorem Scr.pushT {w2 : World} {g m cap : Nat} {ys : List Int} {xs : List Value} (h : Scr w wr B p dv ev tv fv s ts fs) (hown : w2.ownsRow B 5 1 (.slice (some ⟨g, 0, none⟩) m cap) m xs) (hm : m = ys.length) (hx : xs = ys.map (Value.int .u8))
    (hg : wr.grownBy w2 tv.ownBlock) (hat : tv.ownBlock = some g ∨ g = wr.heap.size) : Scr w w2 B p dv ev (.slice (some ⟨g, 0, none⟩) m cap) fv s ys fs := by
  subst hm; subst hx
  refine ⟨h.cut.kept (fun k hk => hg.block k (h.cut.foot hk).2 (fun e => h.apart k e.symm hk)), hown,
    owns_of_block h.f (fun k hk => hg.block k (h.f.lt k hk).2 (fun e => h.tf e.symm hk)), fun k hk hf => ?_, h.below.grown hg h.le (fun k hk => (h.t.lt k hk).1), h.base⟩
  cases hk
  rcases hat with hat | hat
  · exact h.apart _ hat hf
  · have h2 := (h.cut.foot hf).2; dsimp only at h2; omega
/-- behind an append to the flags -/
theorem Scr.pushF {w2 : World} {g m cap : Nat} {ys : List Bool} {xs : List Value} (h : Scr w wr B p dv ev tv fv s ts fs) (hown : w2.ownsRow B 4 1 (.slice (some ⟨g, 0, none⟩) m cap) m xs) (hm : m = ys.length) (hx : xs = ys.map Value.bool)
    (hg : wr.grownBy w2 fv.ownBlock) : Scr w w2 B p dv ev tv (.slice (some ⟨g, 0, none⟩) m cap) s ts ys := by
  subst hm; subst hx
  exact ⟨h.cut.kept (fun k hk => hg.block k (h.cut.foot hk).2 (fun e => h.f_apart k e.symm hk)),
    owns_of_block h.t (fun k hk => hg.block k (h.t.lt k hk).2 (fun e => h.tf hk e.symm)), hown, h.apart, h.below.grown hg h.le (fun k hk => (h.f.lt k hk).1), h.base⟩
end

theorem cell_one_bool (b : Bool) (w : World) (H : Nat) (hH : w.heap.size = H) : ∀ j u, [Value.bool b][j]? = some u → (w.alloc (.cells #[.bool b] 4)).cell? ((⟨H, 0, none⟩ : Addr).add j) = some u := fun j u hu => by
  subst hH
  match j, hu with
  | 0, hu => simp at hu; subst hu; simp [Addr.add]
theorem one_bool (b : Bool) : ∀ u ∈ [Value.bool b], u.oneCell' = true := fun u hu => by simp at hu; subst hu; rfl

set_option maxRecDepth 100000 in
set_option maxHeartbeats 4000000 in
theorem runScript_keep (B p : Nat) (dv ev : Value) (s : St) (T : Nat) (o1 o2 o3 : Option Addr) (l1 c1 l2 c2 l3 c3 k : Nat) (bs ns : List Int) (ps : List Bool) (w : World) (hcut : CutAt w B p dv ev s) (hB : B ≤ w.heap.size) (hg : s.Good T)
    (hT : T + totTo ns k ≤ 4194304) (hk1 : k ≤ l1) (hk2 : k ≤ l2) (hk3 : k ≤ l3) (hk : k ≤ 65536) (hkn : k ≤ ns.length) (hin : InR ns k) (hb1 : SrcB w B o1 (bs.map (Value.int .u8))) (hb2 : SrcB w B o2 (ns.map (Value.int .i64))) (hb3 : SrcB w B o3 (ps.map Value.bool)) (hl1 : k ≤ bs.length) (hl3 : k ≤ ps.length) :
    Calls Try.prog 16 #[.pointer (some ⟨p, 0, none⟩), .slice o1 l1 c1, .slice o2 l2 c2, .slice o3 l3 c3, .int .i64 k, .slice none 0 0, .slice none 0 0, .bool true] w fun e w' => ∃ dv' ev' tv fv, e = .returned (.tuple #[tv, fv]) ∧ Scr w w' B p dv' ev' tv fv (runTo s bs ns ps k) (catB bs ns k) (catF ps ns k) := by
  have H1 := hide hb1
  have H2 := hide hb2
  have H3 := hide hb3
  have HG := hide hg
  have HI := hide hin
  have hst : Scr w w B p dv ev (.slice none 0 0) (.slice none 0 0) s [] [] := ⟨hcut, World.ownsRow_nil _ _ _ _, World.ownsRow_nil _ _ _ _, (fun k hk => by cases hk), Below.refl _ _, hB⟩
  have HS := hide hst
  obtain ⟨i5, xi, xz0, xz1, xz2⟩ := info_parts info5
  obtain ⟨i4, yi, yz0, yz1, yz2⟩ := info_parts info4
  clear hb1 hb2 hb3 hcut hg hin hst
  go_enter Try.func16, Try.ntmps16
  go_wp2
  go_loopw [5, 6, 18] (fun t f i wr => ∃ j : Nat, j ≤ k ∧ i = .int .i64 j ∧ ∃ dv' ev', Scr w wr B p dv' ev' t f (runTo s bs ns ps j) (catB bs ns j) (catF ps ns j)) (fun _ _ i _ => k - (intOf i).toNat)
  case atStart => exact ⟨0, Nat.zero_le _, rfl, dv, ev, unhide HS⟩
  case round =>
    obtain ⟨j, hj, rfl, dv1, ev1, hscr⟩ := hrel
    clear HS
    by_cases hlt : j < k
    · have hbel := hscr.below
      have hBr := hscr.le
      have hG1 := runTo_good (unhide HG) bs ns ps j
      have htot : T + totTo ns j ≤ T + totTo ns k := by have := totTo_le (ns := ns) (Nat.le_of_lt hlt); omega
      have hstep : totTo ns (j + 1) = totTo ns j + (ns.getD j 0).toNat := rfl
      have htot1 : totTo ns (j + 1) ≤ totTo ns k := totTo_le (ns := ns) (by omega)
      obtain ⟨hz0, hz1⟩ := (unhide HI) j hlt
      obtain ⟨g1, f1, e1, b1, k1⟩ := (unhide H1) j (.int .u8 (bs.getD j 0)) (by simp [show j < bs.length by omega])
      obtain ⟨g2, f2, e2, b2, k2⟩ := (unhide H2) j (.int .i64 (ns.getD j 0)) (by simp [show j < ns.length by omega])
      obtain ⟨g3, f3, e3, b3, k3⟩ := (unhide H3) j (.bool (ps.getD j false)) (by simp [show j < ps.length by omega])
      have hrt : runTo s bs ns ps (j + 1) = (runTo s bs ns ps j).hold (bs.getD j 0) (ns.getD j 0).toNat (ps.getD j false) := rfl
      have hct : catB bs ns (j + 1) = catB bs ns j ++ List.replicate (ns.getD j 0).toNat (bs.getD j 0) := rfl
      have hcf : catF ps ns (j + 1) = catF ps ns j ++ List.replicate (ns.getD j 0).toNat (ps.getD j false) := rfl
      have hlb := catB_length bs ns j
      have hlf := catF_length ps ns j
      generalize hs1 : runTo s bs ns ps j = s1 at *
      obtain ⟨n, hn⟩ := Int.eq_ofNat_of_zero_le hz0
      rw [hn] at k2 hz1 hz0 hrt hct hcf
      have hnt : (ns.getD j 0).toNat = n := by omega
      have hnt2 : ((n : Int)).toNat = n := by omega
      rw [hnt2] at hrt hct hcf
      rw [hnt] at hstep
      have HRT := hide hrt
      have HCT := hide hct
      have HCF := hide hcf
      generalize bs.getD j 0 = b at *
      generalize ps.getD j false = pd at *
      generalize catB bs ns j = tb at *
      generalize catF ps ns j = tf at *
      have HM := hide hscr
      have HG1 := hide hG1
      have hTj : T + totTo ns j < 16777216 := by omega
      have hn16 : n ≤ 16777216 := by omega
      have hj1 : (j : Int) < (l1 : Int) := by omega
      have hj2 : (j : Int) < (l2 : Int) := by omega
      have hj3 : (j : Int) < (l3 : Int) := by omega
      have hsz1 : tb.length + n ≤ 4194304 := by omega
      have hsz2 : tf.length + n ≤ 4194304 := by omega
      have q1 := (hbel.cell (p := ⟨g1, f1 + j, none⟩) b1).trans k1
      have q2 := (hbel.cell (p := ⟨g2, f2 + j, none⟩) b2).trans k2
      have q3 := (hbel.cell (p := ⟨g3, f3 + j, none⟩) b3).trans k3
      have K1 := hide k1
      have K2 := hide k2
      have K3 := hide k3
      subst e1; subst e2; subst e3
      clear hscr hG1 hbel hstep htot1 hn hnt hnt2 hrt hct hcf htot hs1 H1 H2 H3 HI k1 k2 k3 hlb hlf
      go_wp2
      go_region_held3 (fun w' => w'.cell? ⟨g1, f1 + j, none⟩ = some (.int .u8 b) ∧ w'.cell? ⟨g2, f2 + j, none⟩ = some (.int .i64 (n : Int)) ∧ w'.cell? ⟨g3, f3 + j, none⟩ = some (.bool pd)) (first | (refine ⟨?_, ?_, ?_⟩ <;> assumption) | (simp [*]; done))
        (first
          | (go_at_call 19
             refine (zzHold_any B p dv1 ev1 s1 (T + totTo ns j) b n pd _ ((unhide HM).grow (Below.refl _ _).drew).cut hBr (unhide HG1) hTj hn16).mono ?_
             rintro e w2 ⟨rfl, dv2, ev2, hh⟩
             have HM2 := hide (((unhide HM).grow (Below.refl _ _).drew).held hh)
             have r1 := ((unhide HM2).below.cell (p := ⟨g1, f1 + j, none⟩) b1).trans (unhide K1)
             have r2 := ((unhide HM2).below.cell (p := ⟨g2, f2 + j, none⟩) b2).trans (unhide K2)
             have r3 := ((unhide HM2).below.cell (p := ⟨g3, f3 + j, none⟩) b3).trans (unhide K3)
             clear hh))
      clear q1 q2 q3
      go_wp2
      obtain ⟨wo, hwo⟩ : ∃ wo : World, wo = wr := ⟨_, rfl⟩
      clear hwo HM HG1 r1 r2 r3
      have hlb : (tb ++ List.replicate 0 b) = tb := by simp
      have hlf : (tf ++ List.replicate 0 pd) = tf := by simp
      have HL := hide hlb
      have HF := hide hlf
      clear hlb hlf
      go_loopw [5, 6, 19] (fun t f x wr => ∃ i : Nat, i ≤ n ∧ x = .int .i64 i ∧ Scr w wr B p dv2 ev2 t f (s1.hold b n pd) (tb ++ List.replicate i b) (tf ++ List.replicate i pd)) (fun _ _ x _ => n - (intOf x).toNat)
      case atStart => exact ⟨0, Nat.zero_le _, rfl, by rw [unhide HL, unhide HF]; exact unhide HM2⟩
      case round =>
        obtain ⟨i, hi, rfl, hsc⟩ := hrel
        have q1 := (hsc.below.cell (p := ⟨g1, f1 + j, none⟩) b1).trans (unhide K1)
        have q2 := (hsc.below.cell (p := ⟨g2, f2 + j, none⟩) b2).trans (unhide K2)
        have q3 := (hsc.below.cell (p := ⟨g3, f3 + j, none⟩) b3).trans (unhide K3)
        have hBw := hsc.le
        have HC := hide hsc
        clear HM2 hsc
        by_cases hlt2 : i < n
        · have hli : (tb ++ List.replicate i b).length = tb.length + i := by simp
          have hlf : (tf ++ List.replicate i pd).length = tf.length + i := by simp
          have HLI := hide hli
          have HLF := hide hlf
          clear hli hlf
          go_wp2_with (first
            | (at_builtin; refine wpList_append_lies _ rfl (.tmp 48) (.tmp 53) 25 rfl B 5 i5 (.int .u8 0) 1 1 Try.underlying25 xi xz0 xz1 xz2 rfl (by decide) _ _ _ rfl ((unhide HC).t.alloc _) ⟨_, 0, none⟩ 1 1 [.int .u8 b] rfl rfl (cell_one_u8 b _ _ rfl) (one_one b) (by decide) (by rw [unhide HLI]; unfold maxLen; omega) (by rw [unhide HLI]; omega) (by simp; omega) _ rfl ?_; intro g cap w3 hown hgrow hat hlt3; go_must (have HC2 := hide (((unhide HC).grow ((Below.refl _ _).alloc (Nat.le_refl _) _)).pushT (ys := tb ++ List.replicate (i + 1) b) hown (by simp; omega) (by simp [List.replicate_succ']) hgrow hat)); have q3' := ((unhide HC2).below.cell (p := ⟨g3, f3 + j, none⟩) b3).trans (unhide K3); have hBw3 := (unhide HC2).le; clear hown hgrow hat hlt3)
            | (at_builtin; go_must (refine wpList_append_lies _ rfl (.tmp 55) (.tmp 60) 27 rfl B 4 i4 (.bool false) 1 1 Try.underlying27 yi yz0 yz1 yz2 rfl (by decide) _ _ _ rfl ((unhide HC2).f.alloc _) ⟨_, 0, none⟩ 1 1 [.bool pd] rfl rfl (cell_one_bool pd _ _ rfl) (one_bool pd) (by decide) (by rw [unhide HLF]; unfold maxLen; omega) (by rw [unhide HLF]; omega) (by simp; omega) _ rfl ?_); intro g' cap' w4 hown hgrow hat hlt3; go_must (have HC3 := hide (((unhide HC2).grow ((Below.refl _ _).alloc (Nat.le_refl _) _)).pushF (ys := tf ++ List.replicate (i + 1) pd) hown (by simp; omega) (by simp [List.replicate_succ']) hgrow)); clear hown hgrow hat hlt3))
          go_roundw
          case rel =>
            have hfin := unhide HC3
            rw [unhide HLI, unhide HLF] at hfin
            exact ⟨i + 1, by omega, by go_num, hfin⟩
          case measure => simp [intOf]; omega
        · obtain rfl : i = n := by omega
          go_wp2
          go_roundw
          case rel => exact ⟨j + 1, by omega, by go_num, dv2, ev2, by rw [unhide HRT, unhide HCT, unhide HCF]; exact unhide HC⟩
          case measure => simp [intOf]; omega
    · obtain rfl : j = k := by omega
      have HH := hide hscr
      clear hscr
      go_wp2
      go_ret2
      exact ⟨_, _, _, _, rfl, unhide HH⟩
end Go.Proofs.Qxb6603268a
