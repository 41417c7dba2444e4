import Derived.Test.Qxb6603268aHoldR
namespace Go.Proofs.Qxb6603268a
open Go.RowKit

/-- hold, as a plain function -/
def St.hold (s : St) (b : Int) (n : Nat) (pd : Bool) : St :=
  if n = 0 then s else if b ≠ 32 ∧ b ≠ 10 then { s with data := s.data ++ List.replicate n b } else s.run b n pd

/-- the run that the bytes end with is in order -/
def St.RunOk (s : St) (b : Int) : Prop := 0 ≤ s.ra ∧ s.ra < s.data.length ∧ -1 ≤ s.rr ∧ s.rr < s.extra.length ∧ s.data.getD s.ra.toNat 0 = b
structure St.Good (s : St) (T : Nat) : Prop where
  dl : s.data.length ≤ T
  xl : s.extra.length ≤ T
  cnt : ∀ e ∈ s.extra, 0 ≤ e.2.1 ∧ e.2.1 ≤ T
  run : ∀ b, (b = 32 ∨ b = 10) → s.isNew b = false → s.RunOk b

theorem St.isNew_false {s : St} {b : Int} (h : s.isNew b = false) : 0 < s.data.length ∧ s.data.getD (s.data.length - 1) 0 = b := by
  simp only [St.isNew, Bool.or_eq_false_iff, beq_eq_false_iff_ne, bne_eq_false_iff_eq] at h
  exact ⟨by omega, h.2⟩
theorem St.isNew_eq_false {s : St} {b : Int} (h : 0 < s.data.length) (h2 : s.data.getD (s.data.length - 1) 0 = b) : s.isNew b = false := by
  simp only [St.isNew, Bool.or_eq_false_iff, beq_eq_false_iff_ne, bne_eq_false_iff_eq]
  exact ⟨by omega, h2⟩

theorem last_append (l : List Int) (x : Int) : (l ++ [x]).getD ((l ++ [x]).length - 1) 0 = x := by simp
theorem last_replicate (l : List Int) (x : Int) (n : Nat) (h : 0 < n) : (l ++ List.replicate n x).getD ((l ++ List.replicate n x).length - 1) 0 = x := by
  obtain ⟨k, rfl⟩ : ∃ k, n = k + 1 := ⟨n - 1, by omega⟩
  rw [List.replicate_succ', ← List.append_assoc]
  exact last_append _ _
theorem getD_append_left (l m : List Int) (i : Nat) (h : i < l.length) : (l ++ m).getD i 0 = l.getD i 0 := by
  simp [List.getD, List.getElem?_append_left h]
theorem getD_take (l : List Int) (i n : Nat) (h : i < n) : (l.take n).getD i 0 = l.getD i 0 := by
  simp [List.getD, h]

/-- the state ahead of 'more': its last byte is b, its run in order -/
structure St.Last (s : St) (b : Int) : Prop where
  pos : 0 < s.data.length
  last : s.data.getD (s.data.length - 1) 0 = b
  run : s.RunOk b

theorem St.begin_last (s : St) (b : Int) : (s.begin b).Last b := by
  refine ⟨by simp [St.begin], last_append _ _, ?_⟩
  refine ⟨by simp [St.begin], by simp [St.begin]; omega, by simp [St.begin], by simp [St.begin]; omega, by simp [St.begin]⟩
theorem St.begin_isNew (s : St) (b : Int) : (s.begin b).isNew b = false := St.isNew_eq_false (St.begin_last s b).pos (St.begin_last s b).last

theorem St.more_last {s : St} {b : Int} {m : Nat} {pd : Bool} (h : s.Last b) (hm : 0 < m) : (s.more b m pd).Last b := by
  obtain ⟨h1, h2, r1, r2, r3, r4, r5⟩ := h
  unfold St.more
  by_cases c1 : 0 ≤ s.rr
  · rw [if_pos c1]
    exact ⟨h1, h2, r1, r2, r3, by simpa using r4, r5⟩
  · rw [if_neg c1]
    by_cases c2 : 24 < (s.data.length : Int) - 1 - s.ra + m
    · rw [if_pos c2]
      have hl : (s.data.take (s.ra.toNat + 1)).length = s.ra.toNat + 1 := by simp; omega
      refine ⟨by rw [hl]; omega, ?_, r1, ?_, ?_, ?_, ?_⟩
      · dsimp only; rw [hl, getD_take _ _ _ (by omega), Nat.add_sub_cancel]; exact r5
      · dsimp only; rw [hl]; omega
      · dsimp only; omega
      · dsimp only; simp; omega
      · dsimp only; rw [getD_take _ _ _ (by omega)]; exact r5
    · rw [if_neg c2]
      refine ⟨by simp; omega, last_replicate _ _ _ hm, r1, by dsimp only; simp; omega, r3, r4, ?_⟩
      dsimp only; rw [getD_append_left _ _ _ (by omega)]; exact r5

theorem St.Last.isNew {s : St} {b : Int} (h : s.Last b) : s.isNew b = false := St.isNew_eq_false h.pos h.last

/-- THE PLAIN LAW: m1 and then m2 copies are m1 + m2 copies -/
theorem St.more_more {s : St} {b : Int} {m1 m2 : Nat} {pd : Bool} (h : s.Last b) : (s.more b m1 pd).more b m2 pd = s.more b (m1 + m2) pd := by
  obtain ⟨h1, h2, r1, r2, r3, r4, r5⟩ := h
  have hand : ((s.rp && pd) && pd) = (s.rp && pd) := by cases s.rp <;> cases pd <;> rfl
  by_cases c1 : 0 ≤ s.rr
  · have hl : s.rr.toNat < s.extra.length := by omega
    have e1 : s.more b m1 pd = { s with rp := s.rp && pd, extra := s.extra.set s.rr.toNat ((s.extra.getD s.rr.toNat (0, 0, false)).1, (s.extra.getD s.rr.toNat (0, 0, false)).2.1 + m1, s.rp && pd) } := by unfold St.more; rw [if_pos c1]
    have e2 : s.more b (m1 + m2) pd = { s with rp := s.rp && pd, extra := s.extra.set s.rr.toNat ((s.extra.getD s.rr.toNat (0, 0, false)).1, (s.extra.getD s.rr.toNat (0, 0, false)).2.1 + ((m1 + m2 : Nat) : Int), s.rp && pd) } := by unfold St.more; rw [if_pos c1]
    rw [e1, e2]
    unfold St.more
    rw [if_pos c1]
    dsimp only
    generalize s.extra.getD s.rr.toNat (0, 0, false) = e
    have g : (s.extra.set s.rr.toNat (e.1, e.2.1 + m1, s.rp && pd)).getD s.rr.toNat (0, 0, false) = (e.1, e.2.1 + m1, s.rp && pd) := by simp [hl]
    rw [g, hand, List.set_set]
    have : e.2.1 + (m1 : Int) + (m2 : Int) = e.2.1 + ((m1 + m2 : Nat) : Int) := by omega
    dsimp only
    rw [this]
  · by_cases c2 : 24 < (s.data.length : Int) - 1 - s.ra + m1
    · have e1 : s.more b m1 pd = { data := s.data.take (s.ra.toNat + 1), extra := s.extra ++ [(s.ra, (s.data.length : Int) - 1 - s.ra + m1, s.rp && pd)], ra := s.ra, rr := s.extra.length, rp := s.rp && pd } := by unfold St.more; rw [if_neg c1, if_pos c2]
      have e2 : s.more b (m1 + m2) pd = { data := s.data.take (s.ra.toNat + 1), extra := s.extra ++ [(s.ra, (s.data.length : Int) - 1 - s.ra + ((m1 + m2 : Nat) : Int), s.rp && pd)], ra := s.ra, rr := s.extra.length, rp := s.rp && pd } := by unfold St.more; rw [if_neg c1, if_pos (by omega)]
      rw [e1, e2]
      unfold St.more
      dsimp only
      rw [if_pos (by omega), hand]
      have e3 : ((s.extra.length : Int)).toNat = s.extra.length := by omega
      rw [e3]
      have g : (s.extra ++ [(s.ra, (s.data.length : Int) - 1 - s.ra + m1, s.rp && pd)]).getD s.extra.length (0, 0, false) = (s.ra, (s.data.length : Int) - 1 - s.ra + m1, s.rp && pd) := by simp
      rw [g, List.set_append_right _ _ (by omega), Nat.sub_self, List.set_cons_zero]
      have : (s.data.length : Int) - 1 - s.ra + (m1 : Int) + (m2 : Int) = (s.data.length : Int) - 1 - s.ra + ((m1 + m2 : Nat) : Int) := by omega
      dsimp only
      rw [this]
    · have e1 : s.more b m1 pd = { s with data := s.data ++ List.replicate m1 b, rp := s.rp && pd } := by unfold St.more; rw [if_neg c1, if_neg c2]
      rw [e1]
      unfold St.more
      dsimp only
      rw [if_neg c1, if_neg c1, hand]
      have e3 : ((s.data ++ List.replicate m1 b).length : Int) - 1 - s.ra + (m2 : Int) = (s.data.length : Int) - 1 - s.ra + ((m1 + m2 : Nat) : Int) := by simp; omega
      rw [e3]
      by_cases c3 : 24 < (s.data.length : Int) - 1 - s.ra + ((m1 + m2 : Nat) : Int)
      · rw [if_pos c3, if_pos c3, List.take_append_of_le_length (by omega)]
      · rw [if_neg c3, if_neg c3, List.append_assoc, List.replicate_append_replicate]

theorem St.hold_split {s : St} {T : Nat} (hg : s.Good T) (b : Int) (n1 n2 : Nat) (pd : Bool) : (s.hold b n1 pd).hold b n2 pd = s.hold b (n1 + n2) pd := by
  by_cases z1 : n1 = 0
  · subst z1; simp [St.hold]
  by_cases z2 : n2 = 0
  · subst z2; simp [St.hold]
  by_cases hb : b ≠ 32 ∧ b ≠ 10
  · have e : ∀ (t : St) (k : Nat), k ≠ 0 → t.hold b k pd = { t with data := t.data ++ List.replicate k b } := fun t k hk => by unfold St.hold; rw [if_neg hk, if_pos hb]
    rw [e _ _ z1, e _ _ z2, e _ _ (by omega)]
    simp [List.append_assoc, List.replicate_append_replicate]
  · have hb' : b = 32 ∨ b = 10 := by omega
    have e1 : s.hold b n1 pd = s.run b n1 pd := by unfold St.hold; rw [if_neg z1, if_neg hb]
    have e2 : s.hold b (n1 + n2) pd = s.run b (n1 + n2) pd := by unfold St.hold; rw [if_neg (by omega), if_neg hb]
    have e3 : ∀ t : St, t.hold b n2 pd = t.run b n2 pd := fun t => by unfold St.hold; rw [if_neg z2, if_neg hb]
    rw [e1, e2, e3]
    cases hn : s.isNew b with
    | true =>
      have f2 : s.run b (n1 + n2) pd = (s.begin b).more b (n1 + n2 - 1) pd := by unfold St.run; rw [if_pos hn, if_neg (by omega)]
      rw [f2]
      by_cases o1 : n1 = 1
      · have f1 : s.run b n1 pd = s.begin b := by unfold St.run; rw [if_pos hn, if_pos o1]
        rw [f1]
        unfold St.run
        rw [if_neg (by rw [St.begin_isNew]; decide), show n1 + n2 - 1 = n2 by omega]
      · have f1 : s.run b n1 pd = (s.begin b).more b (n1 - 1) pd := by unfold St.run; rw [if_pos hn, if_neg o1]
        rw [f1]
        have hl := St.more_last (pd := pd) (St.begin_last s b) (show 0 < n1 - 1 by omega)
        unfold St.run
        rw [if_neg (by rw [hl.isNew]; decide), St.more_more (St.begin_last s b), show n1 - 1 + n2 = n1 + n2 - 1 by omega]
    | false =>
      have hla : s.Last b := ⟨(St.isNew_false hn).1, (St.isNew_false hn).2, hg.run b hb' hn⟩
      have f1 : ∀ k, s.run b k pd = s.more b k pd := fun k => by unfold St.run; rw [if_neg (by rw [hn]; decide)]
      rw [f1, f1]
      have hl := St.more_last (pd := pd) hla (show 0 < n1 by omega)
      unfold St.run
      rw [if_neg (by rw [hl.isNew]; decide), St.more_more hla]

theorem set_mem {α : Type} {l : List α} {i : Nat} {x e : α} (h : e ∈ l.set i x) : e ∈ l ∨ e = x := List.mem_or_eq_of_mem_set h

theorem St.more_good {s : St} {T : Nat} (hg : s.Good T) {b : Int} (hb : b = 32 ∨ b = 10) (h : s.Last b) {m : Nat} (hm : 0 < m) (pd : Bool) : (s.more b m pd).Good (T + m) := by
  have hl := St.more_last (pd := pd) h hm
  have hrun : ∀ b', (b' = 32 ∨ b' = 10) → (s.more b m pd).isNew b' = false → (s.more b m pd).RunOk b' := fun b' _ hn => by
    have : b' = b := (St.isNew_false hn).2.symm.trans hl.last
    subst this
    exact hl.run
  obtain ⟨h1, h2, r1, r2, r3, r4, r5⟩ := h
  have d1 := hg.dl
  have x1 := hg.xl
  by_cases c1 : 0 ≤ s.rr
  · have e1 : s.more b m pd = { s with rp := s.rp && pd, extra := s.extra.set s.rr.toNat ((s.extra.getD s.rr.toNat (0, 0, false)).1, (s.extra.getD s.rr.toNat (0, 0, false)).2.1 + m, s.rp && pd) } := by unfold St.more; rw [if_pos c1]
    rw [e1] at hrun ⊢
    refine ⟨by dsimp only; omega, by dsimp only; simp; omega, fun e he => ?_, hrun⟩
    have hlt : s.rr.toNat < s.extra.length := by omega
    have hgd : s.extra.getD s.rr.toNat (0, 0, false) = s.extra[s.rr.toNat] := by simp [hlt]
    rcases set_mem he with he | he
    · have := hg.cnt e he; omega
    · have := hg.cnt _ (List.getElem_mem hlt); rw [he, hgd]; dsimp only; omega
  · by_cases c2 : 24 < (s.data.length : Int) - 1 - s.ra + m
    · have e1 : s.more b m pd = { data := s.data.take (s.ra.toNat + 1), extra := s.extra ++ [(s.ra, (s.data.length : Int) - 1 - s.ra + m, s.rp && pd)], ra := s.ra, rr := s.extra.length, rp := s.rp && pd } := by unfold St.more; rw [if_neg c1, if_pos c2]
      rw [e1] at hrun ⊢
      refine ⟨by dsimp only; simp; omega, by dsimp only; simp; omega, fun e he => ?_, hrun⟩
      rcases List.mem_append.1 he with he | he
      · have := hg.cnt e he; omega
      · simp at he; rw [he]; dsimp only; omega
    · have e1 : s.more b m pd = { s with data := s.data ++ List.replicate m b, rp := s.rp && pd } := by unfold St.more; rw [if_neg c1, if_neg c2]
      rw [e1] at hrun ⊢
      refine ⟨by dsimp only; simp; omega, by dsimp only; omega, fun e he => ?_, hrun⟩
      have := hg.cnt e he; omega

theorem St.begin_good {s : St} {T : Nat} (hg : s.Good T) (b : Int) : (s.begin b).Good (T + 1) := by
  have d1 := hg.dl
  have x1 := hg.xl
  refine ⟨by simp [St.begin]; omega, by simp [St.begin]; omega, fun e he => ?_, fun b' _ hn => ?_⟩
  · have := hg.cnt e he; omega
  · have : b' = b := (St.isNew_false hn).2.symm.trans (St.begin_last s b).last
    subst this
    exact (St.begin_last s b').run
theorem St.Good.mono {s : St} {T T' : Nat} (hg : s.Good T) (h : T ≤ T') : s.Good T' :=
  ⟨Nat.le_trans hg.dl h, Nat.le_trans hg.xl h, fun e he => by have := hg.cnt e he; omega, hg.run⟩

theorem St.hold_good {s : St} {T : Nat} (hg : s.Good T) (b : Int) (n : Nat) (pd : Bool) : (s.hold b n pd).Good (T + n) := by
  by_cases z1 : n = 0
  · subst z1; simpa [St.hold] using hg
  by_cases hb : b ≠ 32 ∧ b ≠ 10
  · have e : s.hold b n pd = { s with data := s.data ++ List.replicate n b } := by unfold St.hold; rw [if_neg z1, if_pos hb]
    rw [e]
    have d1 := hg.dl
    have x1 := hg.xl
    refine ⟨by simp; omega, by dsimp only; omega, fun e he => by have := hg.cnt e he; omega, fun b' hb' hn => ?_⟩
    have h1 := (St.isNew_false hn).2
    dsimp only at h1
    rw [last_replicate _ _ _ (by omega)] at h1
    omega
  · have hb' : b = 32 ∨ b = 10 := by omega
    have e1 : s.hold b n pd = s.run b n pd := by unfold St.hold; rw [if_neg z1, if_neg hb]
    rw [e1]
    cases hn : s.isNew b with
    | true =>
      by_cases o1 : n = 1
      · have f1 : s.run b n pd = s.begin b := by unfold St.run; rw [if_pos hn, if_pos o1]
        rw [f1, o1]
        exact St.begin_good hg b
      · have f1 : s.run b n pd = (s.begin b).more b (n - 1) pd := by unfold St.run; rw [if_pos hn, if_neg o1]
        rw [f1]
        exact (St.more_good (St.begin_good hg b) hb' (St.begin_last s b) (show 0 < n - 1 by omega) pd).mono (by omega)
    | false =>
      have hla : s.Last b := ⟨(St.isNew_false hn).1, (St.isNew_false hn).2, hg.run b hb' hn⟩
      have f1 : s.run b n pd = s.more b n pd := by unfold St.run; rw [if_neg (by rw [hn]; decide)]
      rw [f1]
      exact St.more_good hg hb' hla (by omega) pd
theorem St.zero_good (T : Nat) : St.zero.Good T := ⟨by simp [St.zero], by simp [St.zero], fun e he => by simp [St.zero] at he, fun b _ hn => by have := (St.isNew_false hn).1; simp [St.zero] at this⟩

theorem St.Good.small {s : St} {T : Nat} (hg : s.Good T) (hT : T < 16777216) : s.Small := ⟨by have := hg.dl; omega, by have := hg.xl; omega, fun e he => by have := hg.cnt e he; omega⟩
theorem St.Good.ok {s : St} {T : Nat} (hg : s.Good T) (hT : T < 16777216) {b : Int} (hb : b = 32 ∨ b = 10) (hn : s.isNew b = false) : s.Ok := by
  obtain ⟨r1, r2, r3, r4, _⟩ := hg.run b hb hn
  have := hg.dl
  exact ⟨s.data.length - 1, by omega, by omega, r1, by omega, r3, r4⟩

/-- THE CONTRACT OF hold -/
theorem hold_any (B p : Nat) (dv ev : Value) (s : St) (T : Nat) (b : Int) (n : Nat) (pd : Bool) (w : World) (hcut : CutAt w B p dv ev s) (hB : B ≤ w.heap.size) (hg : s.Good T) (hT : T < 16777216) (hn : n ≤ 16777216) :
    Calls Try.prog 31 #[.pointer (some ⟨p, 0, none⟩), .int .u8 b, .int .i64 n, .bool pd] w fun e w' => e = .returned (.tuple #[]) ∧ Held w w' B p dv ev (s.hold b n pd) := by
  by_cases z1 : n = 0
  · subst z1
    refine (hold_zero p b pd w).mono ?_
    rintro e w' ⟨rfl, rfl⟩
    refine ⟨rfl, ?_⟩
    have : s.hold b 0 pd = s := by simp [St.hold]
    rw [this]
    exact (Mid.start hcut).held
  · by_cases hb : b ≠ 32 ∧ b ≠ 10
    · have e : s.hold b n pd = { s with data := s.data ++ List.replicate n b } := by unfold St.hold; rw [if_neg z1, if_pos hb]
      rw [e]
      exact hold_other B p dv ev s b n pd w hcut hB (by omega) hn (by have := hg.dl; omega) (by simpa using hb.1) (by simpa using hb.2)
    · have hb' : b = 32 ∨ b = 10 := by omega
      have e1 : s.hold b n pd = s.run b n pd := by unfold St.hold; rw [if_neg z1, if_neg hb]
      rw [e1]
      exact hold_run B p dv ev s b n pd w hcut hB (by omega) hn (hg.small hT) (fun hnw => hg.ok hT hb' hnw) (by rcases hb' with rfl | rfl; exact Or.inl rfl; exact Or.inr ⟨rfl, rfl⟩)
end Go.Proofs.Qxb6603268a
