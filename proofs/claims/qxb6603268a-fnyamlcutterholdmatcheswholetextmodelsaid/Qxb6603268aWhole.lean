import Derived.Test.Qxb6603268aMatch
namespace Go.Proofs.Qxb6603268a
open Go.RowKit
set_option linter.unusedSimpArgs false
set_option linter.unusedVariables false

theorem bytes_whole (o1 o2 o3 : Option Addr) (l1 c1 l2 c2 l3 c3 : Nat) (w : World) (h1 : l1 ≤ maxLen) (h2 : l2 ≤ maxLen) (h3 : l3 ≤ maxLen) :
    Calls Try.prog 10 #[.slice o1 l1 c1, .slice o2 l2 c2, .slice o3 l3 c3] w fun e w' => e = .returned (.bool (bytesOk l1 l2 l3)) ∧ w = w' := by
  unfold maxLen at h1 h2 h3
  unfold bytesOk
  by_cases a1 : l1 ≤ 1048576
  · by_cases a2 : l1 + l2 ≤ 1048576
    · by_cases a3 : l1 + l2 + l3 ≤ 1048576
      · go_enter Try.func10, Try.ntmps10
        go_wp2
        go_ret
        exact ⟨by simp [a3], rfl⟩
      · by_cases a4 : l3 ≤ 1048576
        all_goals
          go_enter Try.func10, Try.ntmps10
          go_wp2
          go_ret
          exact ⟨by simp [a3], rfl⟩
    · by_cases a4 : l2 ≤ 1048576
      all_goals
        go_enter Try.func10, Try.ntmps10
        go_wp2
        go_ret
        exact ⟨by simp; omega, rfl⟩
  · go_enter Try.func10, Try.ntmps10
    go_wp2
    go_ret
    exact ⟨by simp; omega, rfl⟩

set_option maxRecDepth 100000 in
set_option maxHeartbeats 4000000 in
theorem law_whole (o1 o2 o3 : Option Addr) (c1 c2 c3 : Nat) (bs ns : List Int) (ps : List Bool) (w : World) (hl1 : bs.length ≤ maxLen) (hl2 : ns.length ≤ maxLen) (hl3 : ps.length ≤ maxLen)
    (hn1 : o1 = none → bs = [] ∧ c1 = 0) (hn2 : o2 = none → ns = [] ∧ c2 = 0) (hn3 : o3 = none → ps = [] ∧ c3 = 0)
    (hs1 : Src w o1 (bs.map (Value.int .u8))) (hs2 : Src w o2 (ns.map (Value.int .i64))) (hs3 : Src w o3 (ps.map Value.bool)) :
    Calls Try.prog 5 #[.slice o1 bs.length c1, .slice o2 ns.length c2, .slice o3 ps.length c3] w fun e w' => LawEnd w e w' := by
  have N1 := hide hn1
  have N2 := hide hn2
  have N3 := hide hn3
  have S1 := hide hs1
  have S2 := hide hs2
  have S3 := hide hs3
  clear hn1 hn2 hn3 hs1 hs2 hs3
  have hby := fun wx => bytes_whole o1 o2 o3 bs.length c1 ns.length c2 ps.length c3 wx hl1 hl2 hl3
  have HBY := hide hby
  clear hby
  unfold maxLen at hl1 hl2 hl3
  by_cases hok : bytesOk bs.length ns.length ps.length = true
  case neg =>
    have hok' : bytesOk bs.length ns.length ps.length = false := by simpa using hok
    go_enter Try.func5, Try.ntmps5
    go_wp2_with (go_at_call 10; go_must (refine (unhide HBY _).mono ?_); rintro e w' ⟨rfl, rfl⟩)
    go_ret
    exact ⟨rfl, Below.refl _ _⟩
  case pos =>
  have hsum : bs.length + ns.length + ps.length ≤ 1048576 := by simpa [bytesOk] using hok
  by_cases g1 : bs.length ≤ 65536 ∧ ns.length ≤ 65536 ∧ ps.length ≤ 65536
  case neg =>
    rcases (show 65536 < bs.length ∨ (bs.length ≤ 65536 ∧ 65536 < ns.length) ∨ (bs.length ≤ 65536 ∧ ns.length ≤ 65536 ∧ 65536 < ps.length) from by omega) with g | ⟨g, g'⟩ | ⟨g, g', g''⟩
    all_goals
      clear g1
      go_enter Try.func5, Try.ntmps5
      go_wp2_with (go_at_call 10; go_must (refine (unhide HBY _).mono ?_); rintro e w' ⟨rfl, rfl⟩)
      go_ret
      exact ⟨rfl, Below.refl _ _⟩
  case pos =>
  obtain ⟨q1, q2, q3⟩ := g1
  go_enter Try.func5, Try.ntmps5
  go_wp2_with (go_at_call 10; go_must (refine (unhide HBY _).mono ?_); rintro e w' ⟨rfl, rfl⟩)
  obtain ⟨k, hk⟩ : ∃ k, k = min bs.length (min ns.length ps.length) := ⟨_, rfl⟩
  have hk1 : k ≤ bs.length := by omega
  have hk2 : k ≤ ns.length := by omega
  have hk3 : k ≤ ps.length := by omega
  have hsc := script_any o1 o2 o3 bs.length c1 ns.length c2 ps.length c3 ns w q1 q2 q3 (fun j hj => by
    obtain ⟨bb, off, e, hc⟩ := unhide S2 j (.int .i64 (ns.getD j 0)) (by simp [hj])
    exact ⟨bb, off, e, hc⟩)
  rw [← hk] at hsc
  clear hk HBY
  refine hsc.mono ?_
  rintro e w1 ⟨hw, a, t, ok, rfl, hsay⟩
  have hw' := hw.symm
  clear hsc hw
  subst hw'
  cases ok
  case false =>
    clear hsay
    go_wp2
    go_ret
    exact ⟨rfl, Below.refl _ _⟩
  case true =>
  obtain ⟨rfl, rfl, hin, ht0, ht1⟩ := hsay rfl
  clear hsay
  have HI := hide hin
  clear hin
  go_wp2_with fail
  refine (cloneBytes o1 c1 bs w (by omega) (unhide N1) (unhide S1)).mono ?_
  rintro e w1 ⟨v1, rfl, ho1, hb1⟩
  rw [List.length_map] at ho1
  obtain ⟨d1, k1, rfl, _⟩ := own_slice ho1
  have S2b := hide ((unhide S2).below hb1)
  have S3b := hide ((unhide S3).below hb1)
  have O1 := hide ho1
  have B1 := hide hb1
  clear ho1 hb1 S1 S2 S3 N1
  go_wp2_with fail
  refine (cloneInts o2 c2 ns w1 (by omega) (unhide N2) (unhide S2b)).mono ?_
  rintro e w2 ⟨v2, rfl, ho2, hb2⟩
  rw [List.length_map] at ho2
  obtain ⟨d2, k2, rfl, _⟩ := own_slice ho2
  have S3c := hide ((unhide S3b).below hb2)
  have O2 := hide ho2
  have B2 := hide hb2
  clear ho2 hb2 S2b S3b N2
  go_wp2_with fail
  refine (cloneBools o3 c3 ps w2 (by omega) (unhide N3) (unhide S3c)).mono ?_
  rintro e w3 ⟨v3, rfl, ho3, hb3⟩
  rw [List.length_map] at ho3
  obtain ⟨d3, k3, rfl, _⟩ := own_slice ho3
  have O3 := hide ho3
  have B3 := hide hb3
  clear ho3 hb3 S3c N3
  have z12 : w1.heap.size ≤ w2.heap.size := (unhide B2).size
  have z23 : w2.heap.size ≤ w3.heap.size := (unhide B3).size
  have z01 : w.heap.size ≤ w1.heap.size := (unhide B1).size
  have T1 : SrcB w3 w3.heap.size d1 (bs.map (Value.int .u8)) := fun j u hj => by
    obtain ⟨g, f, e, hlt, hc⟩ := own_src (unhide O1) w1.heap.size (Nat.le_refl _) j u hj
    exact ⟨g, f, e, by omega, ((unhide B3).cell (by exact Nat.lt_of_lt_of_le hlt z12)).trans (((unhide B2).cell hlt).trans hc)⟩
  have T2 : SrcB w3 w3.heap.size d2 (ns.map (Value.int .i64)) := fun j u hj => by
    obtain ⟨g, f, e, hlt, hc⟩ := own_src (unhide O2) w2.heap.size (Nat.le_refl _) j u hj
    exact ⟨g, f, e, by omega, ((unhide B3).cell hlt).trans hc⟩
  have T3 : SrcB w3 w3.heap.size d3 (ps.map Value.bool) := own_src (unhide O3) w3.heap.size (Nat.le_refl _)
  have BW : Below w.heap.size w w3 := (unhide B1).trans (((unhide B2).mono z01).trans ((unhide B3).mono (by omega)))
  have HT1 := hide T1
  have HT2 := hide T2
  have HT3 := hide T3
  have HBW := hide BW
  clear T1 T2 T3 BW O1 O2 O3 B1 B2 B3
  go_wp2_with fail
  refine (newCutter_any w3.heap.size w3 (Nat.le_refl _)).mono ?_
  rintro e w4 ⟨rfl, hc4, hb4, hz4⟩
  have HC4 := hide hc4
  have HB4 := hide hb4
  have hz4' : w3.heap.size ≤ w4.heap.size := by omega
  clear hc4 hb4 hz4
  have htot : 0 + totTo ns k ≤ 4194304 := by have := sumTo_tot (unhide HI); omega
  go_wp2_with fail
  refine (runScript_keep w3.heap.size w3.heap.size _ _ St.zero 0 d1 d2 d3 bs.length k1 ns.length k2 ps.length k3 k bs ns ps w4 (unhide HC4) hz4' (St.zero_good 0) htot hk1 hk2 hk3 (by omega) hk2 (unhide HI) ((unhide HT1).below (unhide HB4)) ((unhide HT2).below (unhide HB4)) ((unhide HT3).below (unhide HB4)) hk1 hk3).mono ?_
  rintro e w5 ⟨dv', ev', tv, fv, rfl, hscr⟩
  have hst := stTo_cat bs ns ps k
  have hlb := catB_length bs ns k
  have hlf := catF_length ps ns k
  obtain ⟨ot, ct, htv, _⟩ := own_slice hscr.t
  obtain ⟨ofl, cf, hfv, _⟩ := own_slice hscr.f
  subst htv; subst hfv
  have hcut := hscr.cut
  rw [← hst, ← hlb] at hcut
  have HC5 := hide hcut
  have HST := hide (own_src hscr.t w5.heap.size (Nat.le_refl _))
  have HSF := hide (own_src hscr.f w5.heap.size (Nat.le_refl _))
  have HB5 := hide hscr.below
  have hlen : (catB bs ns k).length = (catF ps ns k).length := by rw [hlb, hlf]
  have hlsz : (catB bs ns k).length ≤ 4194304 := by omega
  have HLEN := hide hlen
  clear hscr hst hlb hlf hcut hlen HC4
  go_wp2_with fail
  refine (matches_any w3.heap.size w3.heap.size dv' ev' ot ofl ct cf _ _ w5 (unhide HLEN) hlsz (unhide HST) (unhide HSF) (unhide HC5)).mono ?_
  rintro e w6 ⟨rfl, hb6⟩
  have HB6 := hide hb6
  clear hb6
  go_wp2_with fail
  go_ret
  refine ⟨rfl, (unhide HBW).trans (((unhide HB4).mono (unhide HBW).size).trans (((unhide HB5).mono (unhide HBW).size).trans ((unhide HB6).mono ?_)))⟩
  have := (unhide HBW).size
  have := (unhide HB4).size
  have := (unhide HB5).size
  omega
end Go.Proofs.Qxb6603268a
