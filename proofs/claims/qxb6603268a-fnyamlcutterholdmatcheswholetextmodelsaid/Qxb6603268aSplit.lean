import Derived.Test.Qxb6603268aSame
namespace Go.Proofs.Qxb6603268a
open Go.RowKit
set_option linter.unusedSimpArgs false
set_option linter.unusedVariables false

/-- two cutters side by side -/
structure Two (w : World) (B p1 : Nat) (dv1 ev1 : Value) (s1 : St) (p2 : Nat) (dv2 ev2 : Value) (s2 : St) : Prop where
  a : CutAt w B p1 dv1 ev1 s1
  b : CutAt w B p2 dv2 ev2 s2
  apart : ∀ k, Foot p1 dv1 ev1 k → Foot p2 dv2 ev2 k → False
theorem Two.symm {w : World} {B p1 : Nat} {dv1 ev1 : Value} {s1 : St} {p2 : Nat} {dv2 ev2 : Value} {s2 : St} (h : Two w B p1 dv1 ev1 s1 p2 dv2 ev2 s2) : Two w B p2 dv2 ev2 s2 p1 dv1 ev1 s1 :=
  ⟨h.b, h.a, fun k h1 h2 => h.apart k h2 h1⟩
theorem Two.left {w w' : World} {B p1 : Nat} {dv1 ev1 dv1' ev1' : Value} {s1 s1' : St} {p2 : Nat} {dv2 ev2 : Value} {s2 : St} (h : Two w B p1 dv1 ev1 s1 p2 dv2 ev2 s2) (hm : Mid w w' B p1 dv1 ev1 dv1' ev1' s1') :
    Two w' B p1 dv1' ev1' s1' p2 dv2 ev2 s2 :=
  ⟨hm.cut, h.b.keep hm.keep (fun k h2 h1 => h.apart k h1 h2), fun k h1 h2 => by
    rcases hm.fresh k h1 with h1' | h1'
    · exact h.apart k h1' h2
    · have := (h.b.foot h2).2; omega⟩

theorem own_slice {w : World} {base : Nat} {e : TypeId} {size : Nat} {v : Value} {n : Nat} {xs : List Value} (h : w.ownsRow base e size v n xs) : ∃ o c, v = .slice o n c ∧ (o = none → n = 0 ∧ c = 0) := by
  rcases h.2 with ⟨h, h0⟩ | ⟨g, cap, cur, h, _⟩
  · exact ⟨none, 0, by rw [h0]; exact h, fun _ => ⟨h0, rfl⟩⟩
  · exact ⟨_, _, h, fun e => by cases e⟩
theorem own_src {w : World} {base : Nat} {e : TypeId} {o : Option Addr} {n c : Nat} {xs : List Value} (h : w.ownsRow base e 1 (.slice o n c) n xs) (B : Nat) (hB : w.heap.size ≤ B) : SrcB w B o xs := fun j u hj => by
  have hjl : j < xs.length := by
    rcases Nat.lt_or_ge j xs.length with h' | h'
    · exact h'
    · rw [List.getElem?_eq_none h'] at hj; cases hj
  have hl := h.1
  obtain ⟨g, cap, hv, _, hlt⟩ := h.form (by omega)
  simp only [Value.slice.injEq, true_and] at hv
  obtain ⟨rfl, rfl⟩ := hv
  exact ⟨g, 0, rfl, by omega, by rw [Nat.zero_add, h.cellAt j (by omega)]; exact hj⟩

/-- what a law's walk ends with -/
def LawEnd (w : World) (e : Ending) (w' : World) : Prop := e = .returned (.bool true) ∧ Below w.heap.size w w'

theorem sumTo_tot {ns : List Int} : ∀ {k : Nat}, InR ns k → sumTo ns k = totTo ns k
  | 0, _ => rfl
  | k + 1, h => by
    have := sumTo_tot (ns := ns) (k := k) (fun j hj => h j (by omega))
    have h2 := h k (by omega)
    simp only [sumTo, totTo, this]
    omega

set_option maxRecDepth 100000 in
set_option maxHeartbeats 4000000 in
theorem law_split (o1 o2 o3 : Option Addr) (c1 c2 c3 : Nat) (bs ns : List Int) (ps : List Bool) (b n1 n2 : Int) (pd : Bool) (w : World) (hl1 : bs.length ≤ maxLen) (hl2 : ns.length ≤ maxLen) (hl3 : ps.length ≤ maxLen)
    (hn1 : o1 = none → bs = [] ∧ c1 = 0) (hn2 : o2 = none → ns = [] ∧ c2 = 0) (hn3 : o3 = none → ps = [] ∧ c3 = 0)
    (hs1 : Src w o1 (bs.map (Value.int .u8))) (hs2 : Src w o2 (ns.map (Value.int .i64))) (hs3 : Src w o3 (ps.map Value.bool)) (hw1 : -9223372036854775808 ≤ n1 ∧ n1 ≤ 9223372036854775807) (hw2 : -9223372036854775808 ≤ n2 ∧ n2 ≤ 9223372036854775807) :
    Calls Try.prog 6 #[.slice o1 bs.length c1, .slice o2 ns.length c2, .slice o3 ps.length c3, .int .u8 b, .int .i64 n1, .int .i64 n2, .bool pd] w fun e w' => LawEnd w e w' := by
  have N1 := hide hn1
  have N2 := hide hn2
  have N3 := hide hn3
  have S1 := hide hs1
  have S2 := hide hs2
  have S3 := hide hs3
  clear hn1 hn2 hn3 hs1 hs2 hs3
  have hby : ∀ wx : World, Calls Try.prog 18 #[.slice o1 bs.length c1, .slice o2 ns.length c2, .slice o3 ps.length c3, .int .u8 b, .int .i64 n1, .int .i64 n2, .bool pd] wx fun e w' => e = .returned (.bool (bytesOk bs.length ns.length ps.length)) ∧ wx = w' :=
    fun wx => (bytes_split o1 o2 o3 bs.length c1 ns.length c2 ps.length c3 b n1 n2 pd wx hl1 hl2 hl3).mono fun e w' h => ⟨h.1, h.2.symm⟩
  have HBY := hide hby
  clear hby
  unfold maxLen at hl1 hl2 hl3
  by_cases hok : bytesOk bs.length ns.length ps.length = true
  case neg =>
    have hok' : bytesOk bs.length ns.length ps.length = false := by simpa using hok
    go_enter Try.func6, Try.ntmps6
    go_wp2_with (go_at_call 18; go_must (refine (unhide HBY _).mono ?_); rintro e w' ⟨rfl, rfl⟩)
    go_ret
    exact ⟨rfl, Below.refl _ _⟩
  case pos =>
  have hsum : bs.length + ns.length + ps.length ≤ 1048576 := by simpa [bytesOk] using hok
  by_cases g1 : bs.length ≤ 65536 ∧ ns.length ≤ 65536 ∧ ps.length ≤ 65536
  case neg =>
    rcases (show 65536 < bs.length ∨ (bs.length ≤ 65536 ∧ 65536 < ns.length) ∨ (bs.length ≤ 65536 ∧ ns.length ≤ 65536 ∧ 65536 < ps.length) from by omega) with g | ⟨g, g'⟩ | ⟨g, g', g''⟩
    all_goals
      clear g1
      go_enter Try.func6, Try.ntmps6
      go_wp2_with (go_at_call 18; go_must (refine (unhide HBY _).mono ?_); rintro e w' ⟨rfl, rfl⟩)
      go_ret
      exact ⟨rfl, Below.refl _ _⟩
  case pos =>
  obtain ⟨q1, q2, q3⟩ := g1
  by_cases g2 : 0 ≤ n1 ∧ 0 ≤ n2 ∧ n1 ≤ 65536 ∧ n2 ≤ 65536
  case neg =>
    rcases (show n1 < 0 ∨ (0 ≤ n1 ∧ n2 < 0) ∨ (0 ≤ n1 ∧ 0 ≤ n2 ∧ 65536 < n1) ∨ (0 ≤ n1 ∧ 0 ≤ n2 ∧ n1 ≤ 65536 ∧ 65536 < n2) from by omega) with g | ⟨g, g'⟩ | ⟨g, g', g''⟩ | ⟨g, g', g'', g'''⟩
    all_goals
      clear g2
      go_enter Try.func6, Try.ntmps6
      go_wp2_with (go_at_call 18; go_must (refine (unhide HBY _).mono ?_); rintro e w' ⟨rfl, rfl⟩)
      go_ret
      exact ⟨rfl, Below.refl _ _⟩
  case pos =>
  obtain ⟨p1, p2, p3, p4⟩ := g2
  go_enter Try.func6, Try.ntmps6
  go_wp2_with (go_at_call 18; go_must (refine (unhide HBY _).mono ?_); rintro e w' ⟨rfl, rfl⟩)
  obtain ⟨k, hk⟩ : ∃ k, k = min bs.length (min ns.length ps.length) := ⟨_, rfl⟩
  have hk1 : k ≤ bs.length := by omega
  have hk2 : k ≤ ns.length := by omega
  have hk3 : k ≤ ps.length := by omega
  have hsc := script_any o1 o2 o3 bs.length c1 ns.length c2 ps.length c3 ns w q1 q2 q3 (fun j hj => by
    obtain ⟨bb, off, e, hc⟩ := unhide S2 j (.int .i64 (ns.getD j 0)) (by simp [hj])
    exact ⟨bb, off, e, hc⟩)
  rw [← hk] at hsc
  clear hk HBY
  refine hsc.mono ?_
  rintro e w1 ⟨hw, a, t, ok, rfl, hsay⟩
  have hw' := hw.symm
  clear hsc hw
  subst hw'
  cases ok
  case false =>
    clear hsay
    go_wp2
    go_ret
    exact ⟨rfl, Below.refl _ _⟩
  case true =>
  obtain ⟨rfl, rfl, hin, ht0, ht1⟩ := hsay rfl
  clear hsay
  by_cases hbig : 1048576 < sumTo ns k + n1 + n2
  case pos =>
    go_wp2
    go_ret
    exact ⟨rfl, Below.refl _ _⟩
  case neg =>
  have HI := hide hin
  clear hin
  go_wp2_with fail
  refine (cloneBytes o1 c1 bs w (by omega) (unhide N1) (unhide S1)).mono ?_
  rintro e w1 ⟨v1, rfl, ho1, hb1⟩
  rw [List.length_map] at ho1
  obtain ⟨d1, k1, rfl, _⟩ := own_slice ho1
  have S2b := hide ((unhide S2).below hb1)
  have S3b := hide ((unhide S3).below hb1)
  have O1 := hide ho1
  have B1 := hide hb1
  clear ho1 hb1 S1 S2 S3 N1
  go_wp2_with fail
  refine (cloneInts o2 c2 ns w1 (by omega) (unhide N2) (unhide S2b)).mono ?_
  rintro e w2 ⟨v2, rfl, ho2, hb2⟩
  rw [List.length_map] at ho2
  obtain ⟨d2, k2, rfl, _⟩ := own_slice ho2
  have S3c := hide ((unhide S3b).below hb2)
  have O2 := hide ho2
  have B2 := hide hb2
  clear ho2 hb2 S2b S3b N2
  go_wp2_with fail
  refine (cloneBools o3 c3 ps w2 (by omega) (unhide N3) (unhide S3c)).mono ?_
  rintro e w3 ⟨v3, rfl, ho3, hb3⟩
  rw [List.length_map] at ho3
  obtain ⟨d3, k3, rfl, _⟩ := own_slice ho3
  have O3 := hide ho3
  have B3 := hide hb3
  clear ho3 hb3 S3c N3
  have z12 : w1.heap.size ≤ w2.heap.size := (unhide B2).size
  have z23 : w2.heap.size ≤ w3.heap.size := (unhide B3).size
  have z01 : w.heap.size ≤ w1.heap.size := (unhide B1).size
  have T1 : SrcB w3 w3.heap.size d1 (bs.map (Value.int .u8)) := fun j u hj => by
    obtain ⟨g, f, e, hlt, hc⟩ := own_src (unhide O1) w1.heap.size (Nat.le_refl _) j u hj
    exact ⟨g, f, e, by omega, ((unhide B3).cell (by exact Nat.lt_of_lt_of_le hlt z12)).trans (((unhide B2).cell hlt).trans hc)⟩
  have T2 : SrcB w3 w3.heap.size d2 (ns.map (Value.int .i64)) := fun j u hj => by
    obtain ⟨g, f, e, hlt, hc⟩ := own_src (unhide O2) w2.heap.size (Nat.le_refl _) j u hj
    exact ⟨g, f, e, by omega, ((unhide B3).cell hlt).trans hc⟩
  have T3 : SrcB w3 w3.heap.size d3 (ps.map Value.bool) := own_src (unhide O3) w3.heap.size (Nat.le_refl _)
  have BW : Below w.heap.size w w3 := (unhide B1).trans (((unhide B2).mono z01).trans ((unhide B3).mono (by omega)))
  have HT1 := hide T1
  have HT2 := hide T2
  have HT3 := hide T3
  have HBW := hide BW
  clear T1 T2 T3 BW O1 O2 O3 B1 B2 B3
  go_wp2_with fail
  refine (newCutter_any w3.heap.size w3 (Nat.le_refl _)).mono ?_
  rintro e w4 ⟨rfl, hc4, hb4, hz4⟩
  have HC4 := hide hc4
  have HB4 := hide hb4
  have HZ4 := hide hz4
  have hz4' : w3.heap.size < w4.heap.size := by omega
  clear hc4 hb4 hz4
  go_wp2_with fail
  refine (newCutter_any w3.heap.size w4 (by omega)).mono ?_
  rintro e w5 ⟨rfl, hc5, hb5, hz5⟩
  have HC5 := hide hc5
  have HB5 := hide hb5
  have hz5' : w4.heap.size < w5.heap.size := by omega
  clear hc5 hb5 hz5
  have two5 : Two w5 w3.heap.size w3.heap.size (.slice none 0 0) (.slice none 0 0) St.zero w4.heap.size (.slice none 0 0) (.slice none 0 0) St.zero :=
    ⟨(unhide HC4).below (unhide HB5), unhide HC5, fun k h1 h2 => by
      rcases h1 with rfl | h1 | h1
      · rcases h2 with h2 | h2 | h2
        · omega
        · cases h2
        · cases h2
      · cases h1
      · cases h1⟩
  have b35 : Below w3.heap.size w3 w5 := (unhide HB4).trans ((unhide HB5).mono (by omega))
  have HW5 := hide two5
  have HB35 := hide b35
  clear two5 b35 HC4 HC5 HB4 HB5 HZ4
  have htot : 0 + totTo ns k ≤ 4194304 := by have := sumTo_tot (unhide HI); omega
  have htk : (totTo ns k : Int) = sumTo ns k := (sumTo_tot (unhide HI)).symm
  have HTK := hide htk
  have hbz : w3.heap.size ≤ w5.heap.size := by omega
  clear htk
  go_wp2_with fail
  refine (runScript_plain w3.heap.size w3.heap.size _ _ St.zero 0 d1 d2 d3 bs.length k1 ns.length k2 ps.length k3 k bs ns ps w5 (unhide HW5).a hbz (St.zero_good 0) htot hk1 hk2 hk3 (by omega) hk2 (unhide HI) ((unhide HT1).below (unhide HB35)) ((unhide HT2).below (unhide HB35)) ((unhide HT3).below (unhide HB35)) hk1 hk3).mono ?_
  rintro e w6 ⟨rfl, hh6⟩
  have b56 := hh6.below (unhide HW5).a hbz
  obtain ⟨dv1, ev1, hm6⟩ := hh6
  have HW6 := hide ((unhide HW5).left hm6)
  have HB36 := hide ((unhide HB35).trans b56)
  have hbz6 : w3.heap.size ≤ w6.heap.size := by have := b56.size; omega
  clear b56 hm6 HW5 HB35
  go_wp2_with fail
  refine (runScript_plain w3.heap.size w4.heap.size _ _ St.zero 0 d1 d2 d3 bs.length k1 ns.length k2 ps.length k3 k bs ns ps w6 (unhide HW6).b hbz6 (St.zero_good 0) htot hk1 hk2 hk3 (by omega) hk2 (unhide HI) ((unhide HT1).below (unhide HB36)) ((unhide HT2).below (unhide HB36)) ((unhide HT3).below (unhide HB36)) hk1 hk3).mono ?_
  rintro e w7 ⟨rfl, hh7⟩
  have b67 := hh7.below (unhide HW6).b hbz6
  obtain ⟨dv2, ev2, hm7⟩ := hh7
  have HW7 := hide ((unhide HW6).symm.left hm7).symm
  have HB37 := hide ((unhide HB36).trans b67)
  have hbz7 : w3.heap.size ≤ w7.heap.size := by have := b67.size; omega
  clear b67 hm7 HW6 HB36
  have hgood := runTo_good (St.zero_good 0) bs ns ps k
  generalize runTo St.zero bs ns ps k = S at HW7 hgood
  have HGD := hide hgood
  clear hgood HT1 HT2 HT3 HI
  obtain ⟨m1, rfl⟩ := Int.eq_ofNat_of_zero_le p1
  obtain ⟨m2, rfl⟩ := Int.eq_ofNat_of_zero_le p2
  have ht1' : 0 + totTo ns k < 16777216 := by omega
  go_wp2_with fail
  refine (zzHold_any w3.heap.size w3.heap.size dv1 ev1 S (0 + totTo ns k) b (m1 + m2) pd w7 (unhide HW7).a hbz7 (unhide HGD) ht1' (by omega)).mono ?_
  rintro e w8 ⟨rfl, hh8⟩
  have b78 := hh8.below (unhide HW7).a hbz7
  obtain ⟨dv1', ev1', hm8⟩ := hh8
  have HW8 := hide ((unhide HW7).left hm8)
  have HB38 := hide ((unhide HB37).trans b78)
  have hbz8 : w3.heap.size ≤ w8.heap.size := by have := b78.size; omega
  clear b78 hm8 HW7 HB37
  go_wp2_with fail
  refine (zzHold_any w3.heap.size w4.heap.size dv2 ev2 S (0 + totTo ns k) b m1 pd w8 (unhide HW8).b hbz8 (unhide HGD) ht1' (by omega)).mono ?_
  rintro e w9 ⟨rfl, hh9⟩
  have b89 := hh9.below (unhide HW8).b hbz8
  obtain ⟨dv2', ev2', hm9⟩ := hh9
  have HW9 := hide ((unhide HW8).symm.left hm9).symm
  have HB39 := hide ((unhide HB38).trans b89)
  have hbz9 : w3.heap.size ≤ w9.heap.size := by have := b89.size; omega
  clear b89 hm9 HW8 HB38
  have hg9 := St.hold_good (unhide HGD) b m1 pd
  have HG9 := hide hg9
  clear hg9
  go_wp2_with fail
  refine (zzHold_any w3.heap.size w4.heap.size dv2' ev2' (S.hold b m1 pd) (0 + totTo ns k + m1) b m2 pd w9 (unhide HW9).b hbz9 (unhide HG9) (by omega) (by omega)).mono ?_
  rintro e w10 ⟨rfl, hh10⟩
  have b910 := hh10.below (unhide HW9).b hbz9
  obtain ⟨dv2'', ev2'', hm10⟩ := hh10
  have htw := ((unhide HW9).symm.left hm10).symm
  rw [St.hold_split (unhide HGD)] at htw
  have hg10 := St.hold_good (unhide HGD) b (m1 + m2) pd
  have HB310 := hide ((unhide HB39).trans b910)
  have hd10 := hg10.dl
  have hx10 := hg10.xl
  have HW10 := hide htw
  clear b910 hm10 HW9 HB39 htw hg10
  go_wp2_with fail
  refine (sameState_any w3.heap.size w3.heap.size w4.heap.size _ _ _ _ _ w10 (unhide HW10).a (unhide HW10).b (by omega) (by omega)).mono ?_
  rintro e w11 ⟨rfl, hb11⟩
  have HB11 := hide hb11
  clear hb11
  go_wp2_with fail
  go_ret
  refine ⟨rfl, (unhide HBW).trans (((unhide HB310).mono (unhide HBW).size).trans ((unhide HB11).mono ?_))⟩
  have := (unhide HB310).size
  have := (unhide HBW).size
  omega
end Go.Proofs.Qxb6603268a
