import Derived.Test.Qxb6603268aPlain
import Derived.Test.Qxb6603268aScript
import Derived.Deep.RegionHeld3
namespace Go.Proofs.Qxb6603268a
open Go.RowKit
set_option linter.unusedSimpArgs false
set_option linter.unusedVariables false

theorem newCutter_any (B : Nat) (w : World) (hB : B ≤ w.heap.size) :
    Calls Try.prog 15 #[] w fun e w' => e = .returned (.pointer (some ⟨w.heap.size, 0, none⟩)) ∧ CutAt w' B w.heap.size (.slice none 0 0) (.slice none 0 0) St.zero ∧ Below w.heap.size w w' ∧ w'.heap.size = w.heap.size + 1 := by
  go_enter Try.func15, Try.ntmps15
  go_wp2
  go_ret
  refine ⟨rfl, ⟨hB, ⟨_, heap_alloc_new w _, rfl, rfl, rfl, rfl, rfl, rfl⟩, World.ownsRow_nil _ _ _ _, World.ownsRow_nil _ _ _ _⟩, (Below.refl _ _).alloc (Nat.le_refl _) _, by simp⟩

theorem zzHold_any (B p : Nat) (dv ev : Value) (s : St) (T : Nat) (b : Int) (n : Nat) (pd : Bool) (w : World) (hcut : CutAt w B p dv ev s) (hB : B ≤ w.heap.size) (hg : s.Good T) (hT : T < 16777216) (hn : n ≤ 16777216) :
    Calls Try.prog 19 #[.pointer (some ⟨p, 0, none⟩), .int .u8 b, .int .i64 n, .bool pd] w fun e w' => e = .returned (.tuple #[]) ∧ Held w w' B p dv ev (s.hold b n pd) := by
  have HC := hide hcut
  have HG := hide hg
  clear hcut hg
  go_enter Try.func19, Try.ntmps19
  go_wp2_with (go_at_call 31; refine (hold_any B p dv ev s T b n pd _ (unhide HC) hB (unhide HG) hT hn).mono ?_; rintro e w' ⟨rfl, hh⟩; have HH := hide hh; clear hh)
  go_end0
  exact ⟨rfl, unhide HH⟩

/-- the cells of a slice that lies below B -/
def SrcB (w : World) (B : Nat) (o : Option Addr) (xs : List Value) : Prop := ∀ j u, xs[j]? = some u → ∃ b off, o = some ⟨b, off, none⟩ ∧ b < B ∧ w.cell? ⟨b, off + j, none⟩ = some u
theorem SrcB.below {w w' : World} {B : Nat} {o : Option Addr} {xs : List Value} (h : SrcB w B o xs) (hb : Below B w w') : SrcB w' B o xs := fun j u hj => by
  obtain ⟨b, off, e, hlt, hc⟩ := h j u hj
  exact ⟨b, off, e, hlt, (hb.cell hlt).trans hc⟩

/-- the state behind the first i steps of the script -/
def runTo (s : St) (bs ns : List Int) (ps : List Bool) : Nat → St
  | 0 => s
  | i + 1 => (runTo s bs ns ps i).hold (bs.getD i 0) (ns.getD i 0).toNat (ps.getD i false)
def totTo (ns : List Int) : Nat → Nat
  | 0 => 0
  | i + 1 => totTo ns i + (ns.getD i 0).toNat
theorem totTo_le {ns : List Int} : ∀ {i j : Nat}, i ≤ j → totTo ns i ≤ totTo ns j
  | i, 0, h => by obtain rfl : i = 0 := by omega
                  exact Nat.le_refl _
  | i, j + 1, h => by
    by_cases e : i = j + 1
    · subst e; exact Nat.le_refl _
    · have := totTo_le (ns := ns) (i := i) (j := j) (by omega)
      simp only [totTo]; omega
theorem runTo_good {s : St} {T : Nat} (hg : s.Good T) (bs ns : List Int) (ps : List Bool) : ∀ i, (runTo s bs ns ps i).Good (T + totTo ns i)
  | 0 => hg
  | i + 1 => by
    have := St.hold_good (runTo_good hg bs ns ps i) (bs.getD i 0) (ns.getD i 0).toNat (ps.getD i false)
    rw [Nat.add_assoc] at this
    exact this

theorem Held.below {w w' : World} {B p : Nat} {dv ev : Value} {s s0 : St} (h : Held w w' B p dv ev s) (hc : CutAt w B p dv ev s0) (hB : B ≤ w.heap.size) : Below B w w' := by
  obtain ⟨_, _, hm⟩ := h
  exact hm.keep.below hB (fun k hk => (hc.foot hk).1)
theorem Held.trans {w0 w1 w2 : World} {B p : Nat} {dv0 ev0 dv1 ev1 : Value} {s1 s2 : St} (h : Mid w0 w1 B p dv0 ev0 dv1 ev1 s1) (k : Held w1 w2 B p dv1 ev1 s2) : Held w0 w2 B p dv0 ev0 s2 := by
  obtain ⟨_, _, hm⟩ := k
  exact ⟨_, _, h.trans hm⟩

set_option maxRecDepth 100000 in
set_option maxHeartbeats 4000000 in
theorem runScript_plain (B p : Nat) (dv ev : Value) (s : St) (T : Nat) (o1 o2 o3 : Option Addr) (l1 c1 l2 c2 l3 c3 k : Nat) (bs ns : List Int) (ps : List Bool) (w : World) (hcut : CutAt w B p dv ev s) (hB : B ≤ w.heap.size) (hg : s.Good T)
    (hT : T + totTo ns k ≤ 4194304) (hk1 : k ≤ l1) (hk2 : k ≤ l2) (hk3 : k ≤ l3) (hk : k ≤ 65536) (hkn : k ≤ ns.length) (hin : InR ns k) (hb1 : SrcB w B o1 (bs.map (Value.int .u8))) (hb2 : SrcB w B o2 (ns.map (Value.int .i64))) (hb3 : SrcB w B o3 (ps.map Value.bool)) (hl1 : k ≤ bs.length) (hl3 : k ≤ ps.length) :
    Calls Try.prog 16 #[.pointer (some ⟨p, 0, none⟩), .slice o1 l1 c1, .slice o2 l2 c2, .slice o3 l3 c3, .int .i64 k, .slice none 0 0, .slice none 0 0, .bool false] w fun e w' => e = .returned (.tuple #[.slice none 0 0, .slice none 0 0]) ∧ Held w w' B p dv ev (runTo s bs ns ps k) := by
  have H1 := hide hb1
  have H2 := hide hb2
  have H3 := hide hb3
  have HC := hide hcut
  have HG := hide hg
  have HI := hide hin
  clear hb1 hb2 hb3 hcut hg hin
  go_enter Try.func16, Try.ntmps16
  go_wp2
  go_loopw [5, 6, 18] (fun t f i wr => t = .slice none 0 0 ∧ f = .slice none 0 0 ∧ ∃ j : Nat, j ≤ k ∧ i = .int .i64 j ∧ Held w wr B p dv ev (runTo s bs ns ps j)) (fun _ _ i _ => k - (intOf i).toNat)
  case atStart => exact ⟨rfl, rfl, 0, Nat.zero_le _, rfl, (Mid.start (unhide HC)).held⟩
  case round =>
    obtain ⟨rfl, rfl, j, hj, rfl, hheld⟩ := hrel
    by_cases hlt : j < k
    · have hbel := hheld.below (unhide HC) hB
      obtain ⟨dv1, ev1, hm⟩ := hheld
      have hBr : B ≤ wr.heap.size := Nat.le_trans hB hm.keep.size
      have hG1 := runTo_good (unhide HG) bs ns ps j
      have htot : T + totTo ns j ≤ T + totTo ns k := by have := totTo_le (ns := ns) (Nat.le_of_lt hlt); omega
      have hstep : totTo ns (j + 1) = totTo ns j + (ns.getD j 0).toNat := rfl
      have htot1 := totTo_le (ns := ns) (Nat.succ_le_of_lt hlt)
      obtain ⟨hz0, hz1⟩ := (unhide HI) j hlt
      obtain ⟨g1, f1, e1, b1, k1⟩ := (unhide H1).below hbel j (.int .u8 (bs.getD j 0)) (by simp [show j < bs.length by omega])
      obtain ⟨g2, f2, e2, b2, k2⟩ := (unhide H2).below hbel j (.int .i64 (ns.getD j 0)) (by simp [show j < ns.length by omega])
      obtain ⟨g3, f3, e3, b3, k3⟩ := (unhide H3).below hbel j (.bool (ps.getD j false)) (by simp [show j < ps.length by omega])
      have hrt : runTo s bs ns ps (j + 1) = (runTo s bs ns ps j).hold (bs.getD j 0) (ns.getD j 0).toNat (ps.getD j false) := rfl
      generalize hs1 : runTo s bs ns ps j = s1 at *
      have HRT := hide hrt
      obtain ⟨n, hn⟩ := Int.eq_ofNat_of_zero_le hz0
      rw [hn] at k2 hz1 hz0
      have hnt : (ns.getD j 0).toNat = n := by omega
      have HNT := hide hnt
      generalize bs.getD j 0 = b at *
      generalize ps.getD j false = pd at *
      have HM := hide hm
      have HG1 := hide hG1
      have hTj : T + totTo ns j < 16777216 := by omega
      have hn16 : n ≤ 16777216 := by omega
      have hj1 : (j : Int) < (l1 : Int) := by omega
      have hj2 : (j : Int) < (l2 : Int) := by omega
      have hj3 : (j : Int) < (l3 : Int) := by omega
      subst e1; subst e2; subst e3
      clear hm hG1 hbel hstep htot1 hn hnt hrt htot hs1 H1 H2 H3 HI
      go_wp2
      go_region_held3 (fun w' => w'.cell? ⟨g1, f1 + j, none⟩ = some (.int .u8 b) ∧ w'.cell? ⟨g2, f2 + j, none⟩ = some (.int .i64 (n : Int)) ∧ w'.cell? ⟨g3, f3 + j, none⟩ = some (.bool pd)) (first | (refine ⟨?_, ?_, ?_⟩ <;> assumption) | (simp [*]; done))
        (first
          | (go_at_call 19
             refine (zzHold_any B p dv1 ev1 s1 (T + totTo ns j) b n pd _ ((unhide HM).drew.cut) hBr (unhide HG1) hTj hn16).mono ?_
             rintro e w2 ⟨rfl, hh⟩
             have hb2 := hh.below (unhide HM).drew.cut hBr
             have q1 := (hb2.cell (p := ⟨g1, f1 + j, none⟩) b1).trans k1
             have q2 := (hb2.cell (p := ⟨g2, f2 + j, none⟩) b2).trans k2
             have q3 := (hb2.cell (p := ⟨g3, f3 + j, none⟩) b3).trans k3
             have HH := hide (Held.trans (unhide HM).drew hh)
             clear hh hb2))
      go_wp2
      go_roundw
      case rel => exact ⟨rfl, rfl, j + 1, by omega, by go_num, by rw [unhide HRT, unhide HNT]; exact unhide HH⟩
      case measure => simp [intOf]; omega
    · obtain rfl : j = k := by omega
      have HH := hide hheld
      clear hheld
      go_wp2
      go_ret2
      exact ⟨rfl, unhide HH⟩
end Go.Proofs.Qxb6603268a
