import Derived.Test.Qxb6603268aRunK
namespace Go.Proofs.Qxb6603268a
open Go.RowKit
set_option linter.unusedSimpArgs false

/-- the state behind the first i bytes of the text, one at a time -/
def stTo (ts : List Int) (fs : List Bool) : Nat → St
  | 0 => St.zero
  | i + 1 => (stTo ts fs i).hold (ts.getD i 0) 1 (fs.getD i false)

theorem stTo_good (ts : List Int) (fs : List Bool) : ∀ i, (stTo ts fs i).Good i
  | 0 => St.zero_good 0
  | i + 1 => St.hold_good (stTo_good ts fs i) _ _ _

theorem getD_app_left {α : Type} (l m : List α) (d : α) (i : Nat) (h : i < l.length) : (l ++ m).getD i d = l.getD i d := by
  simp [List.getD, List.getElem?_append_left h]
theorem getD_app_rep {α : Type} (l : List α) (x d : α) (n i : Nat) (h : i < n) : (l ++ List.replicate n x).getD (l.length + i) d = x := by
  rw [List.getD, List.getElem?_append_right (by omega), Nat.add_sub_cancel_left, List.getElem?_replicate, if_pos h]; rfl

theorem stTo_append (ts xs : List Int) (fs ys : List Bool) (hl : ts.length = fs.length) : ∀ i, i ≤ ts.length → stTo (ts ++ xs) (fs ++ ys) i = stTo ts fs i
  | 0, _ => rfl
  | i + 1, h => by
    simp only [stTo]
    rw [stTo_append ts xs fs ys hl i (by omega), getD_app_left _ _ _ _ (by omega), getD_app_left _ _ _ _ (by omega)]

theorem stTo_rep (ts : List Int) (fs : List Bool) (hl : ts.length = fs.length) (n : Nat) (b : Int) (pd : Bool) : ∀ m, m ≤ n → stTo (ts ++ List.replicate n b) (fs ++ List.replicate n pd) (ts.length + m) = (stTo ts fs ts.length).hold b m pd
  | 0, _ => by
    rw [Nat.add_zero, stTo_append _ _ _ _ hl _ (Nat.le_refl _)]
    simp [St.hold]
  | m + 1, h => by
    have ih := stTo_rep ts fs hl n b pd m (by omega)
    have g1 : (ts ++ List.replicate n b).getD (ts.length + m) 0 = b := getD_app_rep _ _ _ _ _ (by omega)
    have g2 : (fs ++ List.replicate n pd).getD (ts.length + m) false = pd := by rw [hl]; exact getD_app_rep _ _ _ _ _ (by omega)
    show (stTo (ts ++ List.replicate n b) (fs ++ List.replicate n pd) (ts.length + m)).hold ((ts ++ List.replicate n b).getD (ts.length + m) 0) 1 ((fs ++ List.replicate n pd).getD (ts.length + m) false) = _
    rw [ih, g1, g2]
    exact St.hold_split (stTo_good ts fs _) b m 1 pd

/-- what the script has held is what its text holds, one byte at a time -/
theorem stTo_cat (bs ns : List Int) (ps : List Bool) : ∀ k, stTo (catB bs ns k) (catF ps ns k) (totTo ns k) = runTo St.zero bs ns ps k
  | 0 => rfl
  | k + 1 => by
    have h := stTo_rep (catB bs ns k) (catF ps ns k) (by rw [catB_length, catF_length]) (ns.getD k 0).toNat (bs.getD k 0) (ps.getD k false) _ (Nat.le_refl _)
    rw [catB_length, stTo_cat bs ns ps k] at h
    exact h

/-- the last byte that is held is the last byte that came -/
theorem hold_one_last {s : St} {T : Nat} (hg : s.Good T) (b : Int) (pd : Bool) : 0 < (s.hold b 1 pd).data.length ∧ (s.hold b 1 pd).data.getD ((s.hold b 1 pd).data.length - 1) 0 = b := by
  by_cases hb : b ≠ 32 ∧ b ≠ 10
  · have e : s.hold b 1 pd = { s with data := s.data ++ List.replicate 1 b } := by unfold St.hold; rw [if_neg (by decide), if_pos hb]
    rw [e]
    exact ⟨by simp, last_replicate _ _ _ (by decide)⟩
  · have hb' : b = 32 ∨ b = 10 := by omega
    have e : s.hold b 1 pd = s.run b 1 pd := by unfold St.hold; rw [if_neg (by decide), if_neg hb]
    rw [e]
    cases hn : s.isNew b with
    | true =>
      have f : s.run b 1 pd = s.begin b := by unfold St.run; rw [if_pos hn, if_pos rfl]
      rw [f]
      exact ⟨(St.begin_last s b).pos, (St.begin_last s b).last⟩
    | false =>
      have f : s.run b 1 pd = s.more b 1 pd := by unfold St.run; rw [if_neg (by rw [hn]; decide)]
      rw [f]
      have hl := St.more_last (pd := pd) (m := 1) ⟨(St.isNew_false hn).1, (St.isNew_false hn).2, hg.run b hb' hn⟩ (by decide)
      exact ⟨hl.pos, hl.last⟩

theorem stTo_new {ts : List Int} {fs : List Bool} {i : Nat} (h : i = 0 ∨ ts.getD (i - 1) 0 ≠ ts.getD i 0) : (stTo ts fs i).isNew (ts.getD i 0) = true := by
  cases i with
  | zero => simp [stTo, St.isNew, St.zero]
  | succ i =>
    have hne : ts.getD i 0 ≠ ts.getD (i + 1) 0 := by rcases h with h | h; omega; exact h
    have hl := hold_one_last (stTo_good ts fs i) (ts.getD i 0) (fs.getD i false)
    cases hc : (stTo ts fs (i + 1)).isNew (ts.getD (i + 1) 0) with
    | true => rfl
    | false => exact absurd ((St.isNew_false hc).2.symm.trans hl.2).symm hne

/-- are the m flags from place a on all set? -/
def allF (fs : List Bool) (a : Nat) : Nat → Bool
  | 0 => true
  | m + 1 => allF fs a m && fs.getD (a + m) false

/-- what a run of m bytes b adds to the state s: flags from place a + 1 on -/
def St.addRun (s : St) (b : Int) (m : Nat) (every : Bool) : St :=
  if b = 32 ∨ b = 10 then
    (if 24 < m - 1 then { data := s.data ++ [b], extra := s.extra ++ [((s.data.length : Int), ((m - 1 : Nat) : Int), every)], ra := s.data.length, rr := s.extra.length, rp := every }
     else { data := s.data ++ List.replicate m b, extra := s.extra, ra := s.data.length, rr := -1, rp := every })
  else { s with data := s.data ++ List.replicate m b }

theorem addRun_other (s : St) (b : Int) (hb : ¬ (b = 32 ∨ b = 10)) (m : Nat) (ev : Bool) : s.addRun b m ev = { s with data := s.data ++ List.replicate m b } := by unfold St.addRun; rw [if_neg hb]

theorem run_step {s : St} {b : Int} (hb : b = 32 ∨ b = 10) (m : Nat) (every pd : Bool) : (s.addRun b (m + 1) every).hold b 1 pd = s.addRun b (m + 2) (every && pd) := by
  have hb' : ¬ (b ≠ 32 ∧ b ≠ 10) := by omega
  have e : ∀ t : St, t.hold b 1 pd = t.run b 1 pd := fun t => by unfold St.hold; rw [if_neg (by decide), if_neg hb']
  rw [e]
  by_cases c1 : 24 < m + 1 - 1
  · have f1 : s.addRun b (m + 1) every = { data := s.data ++ [b], extra := s.extra ++ [((s.data.length : Int), ((m + 1 - 1 : Nat) : Int), every)], ra := s.data.length, rr := s.extra.length, rp := every } := by unfold St.addRun; rw [if_pos hb, if_pos c1]
    have f2 : s.addRun b (m + 2) (every && pd) = { data := s.data ++ [b], extra := s.extra ++ [((s.data.length : Int), ((m + 2 - 1 : Nat) : Int), every && pd)], ra := s.data.length, rr := s.extra.length, rp := every && pd } := by unfold St.addRun; rw [if_pos hb, if_pos (by omega)]
    have hn : (s.addRun b (m + 1) every).isNew b = false := by rw [f1]; exact St.isNew_eq_false (by simp) (last_append _ _)
    unfold St.run
    rw [if_neg (by rw [hn]; decide), f1, f2]
    unfold St.more
    dsimp only
    rw [if_pos (by omega)]
    have e3 : ((s.extra.length : Int)).toNat = s.extra.length := by omega
    rw [e3]
    have g : (s.extra ++ [((s.data.length : Int), ((m + 1 - 1 : Nat) : Int), every)]).getD s.extra.length (0, 0, false) = ((s.data.length : Int), ((m + 1 - 1 : Nat) : Int), every) := by simp
    rw [g, List.set_append_right _ _ (by omega), Nat.sub_self, List.set_cons_zero]
    have e4 : ((m + 1 - 1 : Nat) : Int) + ((1 : Nat) : Int) = ((m + 2 - 1 : Nat) : Int) := by omega
    dsimp only
    rw [e4]
  · have f1 : s.addRun b (m + 1) every = { data := s.data ++ List.replicate (m + 1) b, extra := s.extra, ra := s.data.length, rr := -1, rp := every } := by unfold St.addRun; rw [if_pos hb, if_neg c1]
    have hn : (s.addRun b (m + 1) every).isNew b = false := by rw [f1]; exact St.isNew_eq_false (by simp; omega) (last_replicate _ _ _ (by omega))
    unfold St.run
    rw [if_neg (by rw [hn]; decide), f1]
    unfold St.more
    dsimp only
    rw [if_neg (by decide)]
    have hlen : ((s.data ++ List.replicate (m + 1) b).length : Int) - 1 - (s.data.length : Int) + ((1 : Nat) : Int) = ((m + 1 : Nat) : Int) := by simp; omega
    rw [hlen]
    by_cases c2 : (24 : Int) < ((m + 1 : Nat) : Int)
    · have f2 : s.addRun b (m + 2) (every && pd) = { data := s.data ++ [b], extra := s.extra ++ [((s.data.length : Int), ((m + 2 - 1 : Nat) : Int), every && pd)], ra := s.data.length, rr := s.extra.length, rp := every && pd } := by unfold St.addRun; rw [if_pos hb, if_pos (by omega)]
      rw [if_pos c2, f2]
      have e5 : ((s.data.length : Int)).toNat + 1 = s.data.length + 1 := by omega
      have e6 : (s.data ++ List.replicate (m + 1) b).take (s.data.length + 1) = s.data ++ [b] := by
        rw [List.take_append, List.take_of_length_le (by omega), Nat.add_sub_cancel_left]
        rfl
      rw [e5, e6]
      rfl
    · have f2 : s.addRun b (m + 2) (every && pd) = { data := s.data ++ List.replicate (m + 2) b, extra := s.extra, ra := s.data.length, rr := -1, rp := every && pd } := by unfold St.addRun; rw [if_pos hb, if_neg (by omega)]
      rw [if_neg c2, f2, List.append_assoc, List.replicate_append_replicate]

/-- THE PLAIN LAW OF THE MODEL: a run of m bytes b from place i on, a new run at i -/
theorem stTo_run {ts : List Int} {fs : List Bool} {i : Nat} {b : Int} (hnew : i = 0 ∨ ts.getD (i - 1) 0 ≠ ts.getD i 0) (hb : ts.getD i 0 = b) :
    ∀ m, 0 < m → (∀ k, i ≤ k → k < i + m → ts.getD k 0 = b) → stTo ts fs (i + m) = (stTo ts fs i).addRun b m (allF fs (i + 1) (m - 1))
  | 0, h, _ => by omega
  | 1, _, _ => by
    have hn := stTo_new (fs := fs) hnew
    rw [hb] at hn
    show (stTo ts fs i).hold (ts.getD i 0) 1 _ = _
    rw [hb]
    by_cases hs : b = 32 ∨ b = 10
    · unfold St.hold St.addRun St.run
      rw [if_neg (by decide), if_neg (by omega), if_pos hn, if_pos rfl, if_pos hs, if_neg (by decide)]
      rfl
    · rw [addRun_other _ _ hs]
      unfold St.hold
      rw [if_neg (by decide), if_pos (by omega)]
  | m + 2, _, h => by
    have ih := stTo_run (fs := fs) hnew hb (m + 1) (by omega) (fun k h1 h2 => h k h1 (by omega))
    show (stTo ts fs (i + (m + 1))).hold (ts.getD (i + (m + 1)) 0) 1 (fs.getD (i + (m + 1)) false) = _
    rw [ih, h (i + (m + 1)) (by omega) (by omega)]
    by_cases hs : b = 32 ∨ b = 10
    · rw [run_step hs]
      have e : allF fs (i + 1) (m + 2 - 1) = (allF fs (i + 1) (m + 1 - 1) && fs.getD (i + (m + 1)) false) := by
        show (allF fs (i + 1) m && fs.getD (i + 1 + m) false) = _
        rw [show i + 1 + m = i + (m + 1) by omega]
        rfl
      rw [e]
    · rw [addRun_other _ _ hs, addRun_other _ _ hs]
      unfold St.hold
      rw [if_neg (by decide), if_pos (by omega)]
      dsimp only
      rw [List.append_assoc, List.replicate_append_replicate]
end Go.Proofs.Qxb6603268a
