import Derived.Test.Qxb6603268aText
import Derived.Deep.CutBlock
namespace Go.Proofs.Qxb6603268a
open Go.RowKit
set_option linter.unusedSimpArgs false
set_option linter.unusedVariables false

theorem info2 : (Try.prog.info? 2).map (fun i => (i.zero, i.size, i.bytes)) = some (some (.int .i64 0), 1, 8) := by kernel_rfl

/-- the model's four rows: the bytes, the places, the counts, the flags -/
structure MR (w wr : World) (B : Nat) (dv av cv pv : Value) (ds ats cs : List Int) (ps : List Bool) : Prop where
  d : wr.ownsRow B 5 1 dv ds.length (ds.map (Value.int .u8))
  a : wr.ownsRow B 2 1 av ats.length (ats.map (Value.int .i64))
  c : wr.ownsRow B 3 1 cv cs.length (cs.map (Value.int .i64))
  p : wr.ownsRow B 4 1 pv ps.length (ps.map Value.bool)
  below : Below B w wr
  base : B ≤ w.heap.size

theorem owns_apart {w : World} {base : Nat} {e e' : TypeId} {size size' : Nat} {v v' : Value} {n n' : Nat} {xs xs' : List Value} (h : w.ownsRow base e size v n xs) (h' : w.ownsRow base e' size' v' n' xs') (he : e ≠ e') {k : Nat} (h1 : v.ownBlock = some k) : v'.ownBlock ≠ some k := fun h2 => by
  obtain ⟨c1, hc1⟩ := owns_ty h h1
  obtain ⟨c2, hc2⟩ := owns_ty h' h2
  rw [hc1] at hc2
  simp at hc2
  exact he hc2.2
theorem owns_far {w w2 : World} {base : Nat} {e e' : TypeId} {size size' : Nat} {v v' : Value} {n n' : Nat} {xs xs' : List Value} (h : w.ownsRow base e size v n xs) (h' : w.ownsRow base e' size' v' n' xs') (he : e ≠ e') (hg : w.grownBy w2 v'.ownBlock) : w2.ownsRow base e size v n xs :=
  owns_of_block h fun g hg' => hg.block g (h.lt g hg').2 fun e1 => owns_apart h h' he hg' e1.symm

section
variable {w wr w2 : World} {B : Nat} {dv av cv pv v : Value} {ds ats cs : List Int} {ps : List Bool} {n : Nat} {xs : List Value}
theorem MR.le (h : MR w wr B dv av cv pv ds ats cs ps) : B ≤ wr.heap.size := Nat.le_trans h.base h.below.size
theorem MR.grow (h : MR w wr B dv av cv pv ds ats cs ps) (o : Obj) : MR w (wr.alloc o) B dv av cv pv ds ats cs ps :=
  ⟨h.d.alloc o, h.a.alloc o, h.c.alloc o, h.p.alloc o, h.below.alloc h.le o, h.base⟩
theorem MR.pushD (h : MR w wr B dv av cv pv ds ats cs ps) {ys : List Int} (hown : w2.ownsRow B 5 1 v n xs) (hn : n = ys.length) (hx : xs = ys.map (Value.int .u8)) (hg : wr.grownBy w2 dv.ownBlock) : MR w w2 B v av cv pv ys ats cs ps := by
  subst hn; subst hx
  exact ⟨hown, owns_far h.a h.d (by decide) hg, owns_far h.c h.d (by decide) hg, owns_far h.p h.d (by decide) hg, h.below.grown hg h.le (fun k hk => (h.d.lt k hk).1), h.base⟩
theorem MR.pushA (h : MR w wr B dv av cv pv ds ats cs ps) {ys : List Int} (hown : w2.ownsRow B 2 1 v n xs) (hn : n = ys.length) (hx : xs = ys.map (Value.int .i64)) (hg : wr.grownBy w2 av.ownBlock) : MR w w2 B dv v cv pv ds ys cs ps := by
  subst hn; subst hx
  exact ⟨owns_far h.d h.a (by decide) hg, hown, owns_far h.c h.a (by decide) hg, owns_far h.p h.a (by decide) hg, h.below.grown hg h.le (fun k hk => (h.a.lt k hk).1), h.base⟩
theorem MR.pushC (h : MR w wr B dv av cv pv ds ats cs ps) {ys : List Int} (hown : w2.ownsRow B 3 1 v n xs) (hn : n = ys.length) (hx : xs = ys.map (Value.int .i64)) (hg : wr.grownBy w2 cv.ownBlock) : MR w w2 B dv av v pv ds ats ys ps := by
  subst hn; subst hx
  exact ⟨owns_far h.d h.c (by decide) hg, owns_far h.a h.c (by decide) hg, hown, owns_far h.p h.c (by decide) hg, h.below.grown hg h.le (fun k hk => (h.c.lt k hk).1), h.base⟩
theorem MR.pushP (h : MR w wr B dv av cv pv ds ats cs ps) {ys : List Bool} (hown : w2.ownsRow B 4 1 v n xs) (hn : n = ys.length) (hx : xs = ys.map Value.bool) (hg : wr.grownBy w2 pv.ownBlock) : MR w w2 B dv av cv v ds ats cs ys := by
  subst hn; subst hx
  exact ⟨owns_far h.d h.p (by decide) hg, owns_far h.a h.p (by decide) hg, owns_far h.c h.p (by decide) hg, hown, h.below.grown hg h.le (fun k hk => (h.p.lt k hk).1), h.base⟩
end

/-- the rows hold the state s -/
def MS (w wr : World) (B : Nat) (dv av cv pv : Value) (s : St) : Prop := MR w wr B dv av cv pv s.data (s.extra.map (·.1)) (s.extra.map (·.2.1)) (s.extra.map (·.2.2))

theorem cell_one_i64 (x : Int) (t : TypeId) (w : World) (H : Nat) (hH : w.heap.size = H) : ∀ j u, [Value.int .i64 x][j]? = some u → (w.alloc (.cells #[.int .i64 x] t)).cell? ((⟨H, 0, none⟩ : Addr).add j) = some u := fun j u hu => by
  subst hH
  match j, hu with
  | 0, hu => simp at hu; subst hu; simp [Addr.add]
theorem one_i64 (x : Int) : ∀ u ∈ [Value.int .i64 x], u.oneCell' = true := fun u hu => by simp at hu; subst hu; rfl

/-- what the model gives -/
def ModelSays (w : World) (s : St) (e : Ending) (w' : World) : Prop := ∃ dv av cv pv, e = .returned (.tuple #[dv, av, cv, pv, .int .i64 s.ra, .int .i64 s.rr, .bool s.rp]) ∧ MS w w' w.heap.size dv av cv pv s

set_option maxRecDepth 100000 in
set_option maxHeartbeats 4000000 in
theorem model_any (ot ofl : Option Addr) (ct cf : Nat) (ts : List Int) (fs : List Bool) (w : World) (hl : ts.length = fs.length) (hsz : ts.length ≤ 4194304) (ht : SrcB w w.heap.size ot (ts.map (Value.int .u8))) (hf : SrcB w w.heap.size ofl (fs.map Value.bool)) :
    Calls Try.prog 26 #[.slice ot ts.length ct, .slice ofl fs.length cf] w fun e w' => ModelSays w (stTo ts fs ts.length) e w' := by
  have HT := hide ht
  have HF := hide hf
  have HL := hide hl
  have hst : MS w w w.heap.size (.slice none 0 0) (.slice none 0 0) (.slice none 0 0) (.slice none 0 0) (stTo ts fs 0) := ⟨World.ownsRow_nil _ _ _ _, World.ownsRow_nil _ _ _ _, World.ownsRow_nil _ _ _ _, World.ownsRow_nil _ _ _ _, Below.refl _ _, Nat.le_refl _⟩
  have HS := hide hst
  obtain ⟨i5, xi, xz0, xz1, xz2⟩ := info_parts info5
  obtain ⟨i4, yi, yz0, yz1, yz2⟩ := info_parts info4
  obtain ⟨i3, zi, zz0, zz1, zz2⟩ := info_parts info3
  obtain ⟨i2, vi, vz0, vz1, vz2⟩ := info_parts info2
  clear ht hf hl hst
  go_enter Try.func26, Try.ntmps26
  go_wp2
  go_loopw [4, 5, 6, 7, 8, 9, 10, 11] (fun dv av cv pv ra rr rp x wr => ∃ i : Nat, i ≤ ts.length ∧ x = .int .i64 i ∧ ra = .int .i64 (stTo ts fs i).ra ∧ rr = .int .i64 (stTo ts fs i).rr ∧ rp = .bool (stTo ts fs i).rp ∧ MS w wr w.heap.size dv av cv pv (stTo ts fs i) ∧ (i = 0 ∨ i = ts.length ∨ ts.getD (i - 1) 0 ≠ ts.getD i 0)) (fun _ _ _ _ _ _ _ x _ => ts.length - (intOf x).toNat)
  case atStart => exact ⟨0, Nat.zero_le _, rfl, rfl, rfl, rfl, unhide HS, Or.inl rfl⟩
  case round =>
    obtain ⟨i, hi, rfl, rfl, rfl, rfl, hms, hbd⟩ := hrel
    clear HS
    have HM := hide hms
    by_cases hlt : i < ts.length
    · obtain ⟨gt, ft, et, bt, kt⟩ := (unhide HT) i (.int .u8 (ts.getD i 0)) (by simp [hlt])
      have q1 := (hms.below.cell (p := ⟨gt, ft + i, none⟩) bt).trans kt
      have hbd' : i = 0 ∨ ts.getD (i - 1) 0 ≠ ts.getD i 0 := by rcases hbd with h | h | h; exact Or.inl h; omega; exact Or.inr h
      have HBD := hide hbd'
      clear hbd hbd' kt
      obtain ⟨b, hb⟩ : ∃ b, b = ts.getD i 0 := ⟨_, rfl⟩
      rw [← hb] at q1
      have HB := hide hb
      clear hb hms
      subst et
      have hil : (i : Int) < (ts.length : Int) := by omega
      go_upto_block 2 with fail
      go_cut [13] from 28 to 41 (fun x wc => wr = wc ∧ ∃ j : Nat, i < j ∧ j ≤ ts.length ∧ x = .int .i64 j ∧ (∀ k, i ≤ k → k < j → ts.getD k 0 = b) ∧ (j = ts.length ∨ ts.getD (j - 1) 0 ≠ ts.getD j 0))
      case first =>
        go_wp2
        go_loop [13] (fun x => ∃ j : Nat, i < j ∧ j ≤ ts.length ∧ x = .int .i64 j ∧ Hid (∀ k, i ≤ k → k < j → ts.getD k 0 = b)) (fun x => ts.length - (intOf x).toNat)
        case atStart =>
          refine ⟨i + 1, by omega, by omega, by go_num, fun k h1 h2 => ?_⟩
          have e : k = i := by omega
          rw [e]
          exact (unhide HB).symm
        case round =>
          obtain ⟨j, hij, hj, rfl, HR⟩ := hrel
          by_cases hj2 : j < ts.length
          · obtain ⟨gt', ft', et', bt', kt'⟩ := (unhide HT) j (.int .u8 (ts.getD j 0)) (by simp [hj2])
            simp only [Option.some.injEq, Addr.mk.injEq, and_true] at et'
            obtain ⟨rfl, rfl⟩ := et'
            have q2 := ((unhide HM).below.cell (p := ⟨gt, ft + j, none⟩) bt').trans kt'
            clear kt'
            obtain ⟨c, hc⟩ : ∃ c, c = ts.getD j 0 := ⟨_, rfl⟩
            rw [← hc] at q2
            have HC := hide hc
            clear hc
            have hjl : (j : Int) < (ts.length : Int) := by omega
            by_cases hcb : c = b
            · subst hcb
              have hcc : (c == c) = true := by simp
              go_wp2
              go_round
              case rel => exact ⟨j + 1, by omega, by omega, by go_num, fun k h1 h2 => by
                by_cases e : k = j
                · rw [e]; exact (unhide HC).symm
                · exact unhide HR k h1 (by omega)⟩
              case measure => simp [intOf]; omega
            · have hcc : (c == b) = false := by simp [hcb]
              have HN := hide hcb
              clear hcb
              go_wp2
              go_meet
              case rel => exact ⟨rfl, j, hij, hj, rfl, unhide HR, Or.inr (by rw [unhide HR (j - 1) (by omega) (by omega), ← unhide HC]; exact fun e => unhide HN e.symm)⟩
          · have hjd : decide ((j : Int) < (ts.length : Int)) = false := decide_eq_false (by omega)
            go_wp2
            go_meet
            case rel => exact ⟨rfl, j, hij, hj, rfl, unhide HR, Or.inl (by omega)⟩
      case rest =>
      obtain ⟨rfl, j, hij, hj, rfl, hrun, hend⟩ := hcut
      have HRUN := hide hrun
      have HEND := hide hend
      clear hrun hend q1
      have hS := stTo_run (fs := fs) (unhide HBD) (unhide HB).symm (j - i) (by omega) (fun k h1 h2 => unhide HRUN k h1 (by omega))
      rw [show i + (j - i) = j by omega] at hS
      have HS' := hide hS
      have hgood := stTo_good ts fs i
      have hdl := hgood.dl
      have hxl := hgood.xl
      clear hS hgood
      generalize stTo ts fs i = S at *
      have hij' : (i : Int) < (j : Int) := by omega
      by_cases hsp : b = 32 ∨ b = 10
      · have hk47 : ((b == 32) = true) ∨ ((b == 32) = false ∧ (b == 10) = true) := by rcases hsp with h | h; exact Or.inl (by simp [h]); exact Or.inr ⟨by simp [h], by simp [h]⟩
        have HSP := hide hsp
        clear hsp
        go_upto_region 7 with fail
        go_cut [47] from 42 to 47 (fun x wc => x = .bool true ∧ wr = wc)
        case first =>
          rcases hk47 with t1 | ⟨t1, t2⟩
          · go_wp2
            go_meet
            case rel => exact ⟨rfl, rfl⟩
          · go_wp2
            go_meet
            case rel => exact ⟨rfl, rfl⟩
        case rest =>
        obtain ⟨rfl, rfl⟩ := hcut
        clear hk47
        go_wp2
        go_loop [14, 15] (fun ev x => ∃ m : Nat, m ≤ j - i - 1 ∧ x = .int .i64 (i + 1 + m : Nat) ∧ ev = .bool (allF fs (i + 1) m)) (fun _ x => j - (intOf x).toNat)
        case atStart => exact ⟨0, Nat.zero_le _, by go_num, rfl⟩
        case round =>
          obtain ⟨m, hm, rfl, rfl⟩ := hrel
          have hlen := unhide HL
          by_cases hlt2 : i + 1 + m < j
          · obtain ⟨gf, ff, ef, bf, kf⟩ := (unhide HF) (i + 1 + m) (.bool (fs.getD (i + 1 + m) false)) (by simp [show i + 1 + m < fs.length by omega])
            have q2 := ((unhide HM).below.cell (p := ⟨gf, ff + (i + 1 + m), none⟩) bf).trans kf
            have hall : allF fs (i + 1) (m + 1) = (allF fs (i + 1) m && fs.getD (i + 1 + m) false) := rfl
            have HALL := hide hall
            subst ef
            clear kf hall
            generalize fs.getD (i + 1 + m) false = fl at *
            generalize allF fs (i + 1) m = al at *
            have hfl : ((i : Int) + 1 + (m : Int)) < (fs.length : Int) := by omega
            clear hlen
            cases fl
            · go_wp2
              go_round
              case rel => exact ⟨m + 1, by omega, by go_num, by rw [unhide HALL]; simp⟩
              case measure => simp [intOf]; omega
            · go_wp2
              go_round
              case rel => exact ⟨m + 1, by omega, by go_num, by rw [unhide HALL]; simp⟩
              case measure => simp [intOf]; omega
          · have hm' : m = j - i - 1 := by omega
            have HMM := hide hm'
            clear hm'
            have hS2 := unhide HS'
            rw [← unhide HMM] at hS2
            have HS2 := hide hS2
            generalize allF fs (i + 1) m = al at *
            clear hS2 hlen
            obtain ⟨od, cd, hdv, _⟩ := own_slice (unhide HM).d
            obtain ⟨oa, ca, hav, _⟩ := own_slice (unhide HM).a
            rw [List.length_map] at hav
            subst hdv; subst hav
            have hle := (unhide HM).le
            by_cases hbig : 24 < j - i - 1
            · have hfin : S.addRun b (j - i) al = { data := S.data ++ [b], extra := S.extra ++ [((S.data.length : Int), ((j - i - 1 : Nat) : Int), al)], ra := S.data.length, rr := S.extra.length, rp := al } := by unfold St.addRun; rw [if_pos (unhide HSP), if_pos hbig]
              have HFIN := hide hfin
              have hjj : ((j - i - 1 : Nat) : Int) = (j : Int) - (i : Int) - 1 := by omega
              have HJJ := hide hjj
              have hbI : (24 : Int) < (j : Int) - (i : Int) - 1 := by omega
              clear hfin hjj hbig
              go_wp2_with (first
                | (at_builtin; refine wpList_append_own _ rfl (.tmp 68) (.tmp 70) 25 rfl w.heap.size 5 i5 (.int .u8 0) 1 1 Try.underlying25 xi xz0 xz1 xz2 rfl (by decide) _ _ _ rfl ((unhide HM).d.alloc _) ⟨_, 0, none⟩ 1 1 [.int .u8 b] rfl rfl (cell_one_u8 b _ _ rfl) (one_one b) (by unfold maxLen; omega) (by omega) (by simp; omega) ?_; intro v1 w3 hown hgrow _; go_must (have HM2 := hide (((unhide HM).grow _).pushD (ys := S.data ++ [b]) hown (by simp) (by simp) hgrow)); have hle2 := (unhide HM2).le; clear hown hgrow)
                | (at_builtin; refine wpList_append_own _ rfl (.tmp 74) (.tmp 76) 57 rfl w.heap.size 2 i2 (.int .i64 0) 1 8 Try.underlying57 vi vz0 vz1 vz2 rfl (by decide) _ _ _ rfl ((unhide HM2).a.alloc _) ⟨_, 0, none⟩ 1 1 [.int .i64 (S.data.length : Int)] rfl rfl (cell_one_i64 _ _ _ _ rfl) (one_i64 _) (by rw [List.length_map]; unfold maxLen; omega) (by rw [List.length_map]; omega) (by simp; omega) ?_; intro v2 w4 hown hgrow _; go_must (have HM3 := hide (((unhide HM2).grow _).pushA (ys := S.extra.map (·.1) ++ [(S.data.length : Int)]) hown (by simp) (by simp) hgrow)); have hle3 := (unhide HM3).le; clear hown hgrow)
                | (at_builtin; refine wpList_append_own _ rfl (.tmp 78) (.tmp 83) 26 rfl w.heap.size 3 i3 (.int .i64 0) 1 8 Try.underlying26 zi zz0 zz1 zz2 rfl (by decide) _ _ _ rfl ((unhide HM3).c.alloc _) ⟨_, 0, none⟩ 1 1 [.int .i64 ((j : Int) - (i : Int) - 1)] rfl rfl (cell_one_i64 _ _ _ _ rfl) (one_i64 _) (by rw [List.length_map]; unfold maxLen; omega) (by rw [List.length_map]; omega) (by simp; omega) ?_; intro v3 w5 hown hgrow _; go_must (have HM4 := hide (((unhide HM3).grow _).pushC (ys := S.extra.map (·.2.1) ++ [(j : Int) - (i : Int) - 1]) hown (by simp) (by simp) hgrow)); have hle4 := (unhide HM4).le; clear hown hgrow)
                | (at_builtin; refine wpList_append_own _ rfl (.tmp 85) (.tmp 87) 27 rfl w.heap.size 4 i4 (.bool false) 1 1 Try.underlying27 yi yz0 yz1 yz2 rfl (by decide) _ _ _ rfl ((unhide HM4).p.alloc _) ⟨_, 0, none⟩ 1 1 [.bool al] rfl rfl (cell_one_bool _ _ _ rfl) (one_bool _) (by rw [List.length_map]; unfold maxLen; omega) (by rw [List.length_map]; omega) (by simp; omega) ?_; intro v4 w6 hown hgrow _; go_must (have HM5 := hide (((unhide HM4).grow _).pushP (ys := S.extra.map (·.2.2) ++ [al]) hown (by simp) (by simp) hgrow)); clear hown hgrow))
              go_roundw
              case rel =>
                refine ⟨j, hj, rfl, ?_, ?_, ?_, ?_, ?_⟩
                · rw [unhide HS2, unhide HFIN]
                · rw [unhide HS2, unhide HFIN]
                · rw [unhide HS2, unhide HFIN]
                · rw [unhide HS2, unhide HFIN, unhide HJJ]
                  have hh := unhide HM5
                  simpa [MS] using hh
                · rcases unhide HEND with h | h
                  · exact Or.inr (Or.inl h)
                  · exact Or.inr (Or.inr h)
              case measure => simp [intOf]; omega
            · have hfin : S.addRun b (j - i) al = { data := S.data ++ List.replicate (j - i) b, extra := S.extra, ra := S.data.length, rr := -1, rp := al } := by unfold St.addRun; rw [if_pos (unhide HSP), if_neg hbig]
              have HFIN := hide hfin
              have hbI : ¬ (24 : Int) < (j : Int) - (i : Int) - 1 := by omega
              have hr0 : S.data ++ List.replicate 0 b = S.data := by simp
              have HR0 := hide hr0
              clear hfin hbig hr0
              go_wp2
              obtain ⟨wo, hwo⟩ : ∃ wo : World, wo = wr := ⟨_, rfl⟩
              have HMo := HM
              rw [← hwo] at HMo ⊢
              clear HM hwo
              go_loopw [4, 16] (fun dv x wr => ∃ m : Nat, m ≤ j - i ∧ x = .int .i64 (i + m : Nat) ∧ MR w wr w.heap.size dv (.slice oa S.extra.length ca) u6 u7 (S.data ++ List.replicate m b) (S.extra.map (·.1)) (S.extra.map (·.2.1)) (S.extra.map (·.2.2))) (fun _ x _ => j - (intOf x).toNat)
              case atStart => exact ⟨0, Nat.zero_le _, by go_num, by rw [unhide HR0]; exact unhide HMo⟩
              case round =>
                obtain ⟨m, hm, rfl, hmr⟩ := hrel
                clear HMo
                have HM := hide hmr
                have hle := hmr.le
                clear hmr
                by_cases hlt2 : i + m < j
                · have hlen : (S.data ++ List.replicate m b).length = S.data.length + m := by simp
                  have HLEN := hide hlen
                  clear hlen
                  go_wp2_with (at_builtin; go_must (refine wpList_append_own _ rfl (.tmp 95) (.tmp 97) 25 rfl w.heap.size 5 i5 (.int .u8 0) 1 1 Try.underlying25 xi xz0 xz1 xz2 rfl (by decide) _ _ _ rfl ((unhide HM).d.alloc _) ⟨_, 0, none⟩ 1 1 [.int .u8 b] rfl rfl (cell_one_u8 b _ _ rfl) (one_one b) (by rw [unhide HLEN]; unfold maxLen; omega) (by rw [unhide HLEN]; omega) (by simp; omega) ?_); intro v1 w3 hown hgrow _; go_must (have HM2 := hide (((unhide HM).grow _).pushD (ys := S.data ++ List.replicate (m + 1) b) hown (by simp; omega) (by simp [List.replicate_succ']) hgrow)); clear hown hgrow)
                  go_roundw
                  case rel => exact ⟨m + 1, by omega, by go_num, unhide HM2⟩
                  case measure => simp [intOf]; omega
                · have hm' : m = j - i := by omega
                  have HMM2 := hide hm'
                  clear hm'
                  go_wp2
                  go_roundw
                  case rel =>
                    refine ⟨j, hj, rfl, ?_, ?_, ?_, ?_, ?_⟩
                    · rw [unhide HS2, unhide HFIN]
                    · rw [unhide HS2, unhide HFIN]
                    · rw [unhide HS2, unhide HFIN]
                    · rw [unhide HS2, unhide HFIN, ← unhide HMM2]; exact unhide HM
                    · rcases unhide HEND with h | h
                      · exact Or.inr (Or.inl h)
                      · exact Or.inr (Or.inr h)
                  case measure => simp [intOf]; omega
      · have t1 : (b == 32) = false := by simp; omega
        have t2 : (b == 10) = false := by simp; omega
        rw [addRun_other _ _ hsp] at HS'
        have hr0 : S.data ++ List.replicate 0 b = S.data := by simp
        have HR0 := hide hr0
        clear hr0 hsp
        go_wp2
        obtain ⟨wo, hwo⟩ : ∃ wo : World, wo = wr := ⟨_, rfl⟩
        have HMo := HM
        rw [← hwo] at HMo ⊢
        clear HM hwo
        go_loopw [4, 17] (fun dv x wr => ∃ m : Nat, m ≤ j - i ∧ x = .int .i64 (i + m : Nat) ∧ MR w wr w.heap.size dv u5 u6 u7 (S.data ++ List.replicate m b) (S.extra.map (·.1)) (S.extra.map (·.2.1)) (S.extra.map (·.2.2))) (fun _ x _ => j - (intOf x).toNat)
        case atStart => exact ⟨0, Nat.zero_le _, by go_num, by rw [unhide HR0]; exact unhide HMo⟩
        case round =>
          obtain ⟨m, hm, rfl, hmr⟩ := hrel
          clear HMo
          have HM := hide hmr
          have hle := hmr.le
          clear hmr
          by_cases hlt2 : i + m < j
          · have hlen : (S.data ++ List.replicate m b).length = S.data.length + m := by simp
            have HLEN := hide hlen
            clear hlen
            go_wp2_with (at_builtin; go_must (refine wpList_append_own _ rfl (.tmp 105) (.tmp 107) 25 rfl w.heap.size 5 i5 (.int .u8 0) 1 1 Try.underlying25 xi xz0 xz1 xz2 rfl (by decide) _ _ _ rfl ((unhide HM).d.alloc _) ⟨_, 0, none⟩ 1 1 [.int .u8 b] rfl rfl (cell_one_u8 b _ _ rfl) (one_one b) (by rw [unhide HLEN]; unfold maxLen; omega) (by rw [unhide HLEN]; omega) (by simp; omega) ?_); intro v1 w3 hown hgrow _; go_must (have HM2 := hide (((unhide HM).grow _).pushD (ys := S.data ++ List.replicate (m + 1) b) hown (by simp; omega) (by simp [List.replicate_succ']) hgrow)); clear hown hgrow)
            go_roundw
            case rel => exact ⟨m + 1, by omega, by go_num, unhide HM2⟩
            case measure => simp [intOf]; omega
          · have hm' : m = j - i := by omega
            have HMM := hide hm'
            clear hm'
            go_wp2
            go_roundw
            case rel =>
              refine ⟨j, hj, rfl, ?_, ?_, ?_, ?_, ?_⟩
              · rw [unhide HS']
              · rw [unhide HS']
              · rw [unhide HS']
              · rw [unhide HS', ← unhide HMM]; exact unhide HM
              · rcases unhide HEND with h | h
                · exact Or.inr (Or.inl h)
                · exact Or.inr (Or.inr h)
            case measure => simp [intOf]; omega
    · obtain rfl : i = ts.length := by omega
      go_wp2
      refine bodyPost_ret (v := .tuple #[u4, u5, u6, u7, .int .i64 (stTo ts fs ts.length).ra, .int .i64 (stTo ts fs ts.length).rr, .bool (stTo ts fs ts.length).rp]) (by simp [results, Try.results26, go_sem]) rfl ?_
      exact ⟨u4, u5, u6, u7, rfl, unhide HM⟩
end Go.Proofs.Qxb6603268a
