import Derived.Test.Qxb6603268aSmall
import Derived.Lib.SliceRun
namespace Go.Proofs.Qxb6603268a
open Go.RowKit

/-- the first k values laid, the others still zero -/
def half {α : Type} (f : α → Value) (z : Value) (zs : List α) (k : Nat) : List Value := (zs.take k).map f ++ List.replicate (zs.length - k) z
theorem half_zero {α : Type} (f : α → Value) (z : Value) (zs : List α) : half f z zs 0 = List.replicate zs.length z := by simp [half]
theorem half_full {α : Type} (f : α → Value) (z : Value) (zs : List α) : half f z zs zs.length = zs.map f := by simp [half]
theorem half_length {α : Type} (f : α → Value) (z : Value) (zs : List α) (k : Nat) (h : k ≤ zs.length) : (half f z zs k).length = zs.length := by simp [half]; omega
theorem half_succ {α : Type} (f : α → Value) (z : Value) (zs : List α) (k : Nat) (h : k < zs.length) : (half f z zs k).set k (f zs[k]) = half f z zs (k + 1) := by
  unfold half
  have h1 : ((zs.take k).map f).length = k := by simp; omega
  rw [List.set_append_right _ _ (by omega), h1, Nat.sub_self]
  obtain ⟨m, hm⟩ : ∃ m, zs.length - k = m + 1 := ⟨zs.length - k - 1, by omega⟩
  have hm' : zs.length - (k + 1) = m := by omega
  rw [hm, hm', List.replicate_succ, List.set_cons_zero, List.take_succ_eq_append_getElem h, List.map_append, List.append_assoc]
  rfl

theorem info5 : (Try.prog.info? 5).map (fun i => (i.zero, i.size, i.bytes)) = some (some (.int .u8 0), 1, 1) := by kernel_rfl
theorem info3 : (Try.prog.info? 3).map (fun i => (i.zero, i.size, i.bytes)) = some (some (.int .i64 0), 1, 8) := by kernel_rfl
theorem info4 : (Try.prog.info? 4).map (fun i => (i.zero, i.size, i.bytes)) = some (some (.bool false), 1, 1) := by kernel_rfl

/-- the slice that begins at o holds the values xs -/
def Src (w : World) (o : Option Addr) (xs : List Value) : Prop := ∀ j u, xs[j]? = some u → ∃ b off, o = some ⟨b, off, none⟩ ∧ w.cell? ⟨b, off + j, none⟩ = some u

theorem Src.below {w w' : World} {o : Option Addr} {xs : List Value} (h : Src w o xs) (hb : Below w.heap.size w w') : Src w' o xs := fun j u hj => by
  obtain ⟨b, off, e, hc⟩ := h j u hj
  exact ⟨b, off, e, (hb.cell (World.block_lt_of_cell? w _ hc)).trans hc⟩

/-- what a clone gives -/
def Cloned (w w' : World) (e : TypeId) (xs : List Value) (en : Ending) : Prop := ∃ v, en = .returned v ∧ w'.ownsRow w.heap.size e 1 v xs.length xs ∧ Below w.heap.size w w'

/-- the loop's relation -/
def CloneAt {α : Type} (f : α → Value) (z : Value) (e : TypeId) (zs : List α) (w wr : World) (k : Nat) : Prop :=
  wr.ownsRow w.heap.size e 1 (.slice (some ⟨w.heap.size, 0, none⟩) zs.length zs.length) zs.length (half f z zs k) ∧ Below w.heap.size w wr

theorem CloneAt.start {α : Type} (f : α → Value) (z : Value) (e : TypeId) (zs : List α) {w w1 : World} (h : w1.ownsRow w.heap.size e 1 (.slice (some ⟨w.heap.size, 0, none⟩) zs.length zs.length) zs.length (madeCells #[z] (zs.length * 1)).toList)
    (hg : w.grownBy w1 none) : CloneAt f z e zs w w1 0 := by
  refine ⟨?_, (Below.refl _ _).grown hg (Nat.le_refl _) (fun k hk => by cases hk)⟩
  rw [half_zero]
  rw [toList_madeCells_one, Nat.mul_one] at h
  exact h
theorem CloneAt.step {α : Type} {f : α → Value} {z : Value} {e : TypeId} {zs : List α} {w wr : World} {k : Nat} (h : CloneAt f z e zs w wr k) (hk : k < zs.length) : CloneAt f z e zs w (wr.setCell ⟨w.heap.size, k, none⟩ (f zs[k])) (k + 1) := by
  obtain ⟨h1, h2⟩ := h
  obtain ⟨s1, s2⟩ := h1.stored k (f zs[k])
  rw [half_succ _ _ _ _ hk] at s1
  exact ⟨s1, h2.grown s2 h2.size (fun k hk => by cases hk; exact Nat.le_refl _)⟩
theorem CloneAt.done {α : Type} {f : α → Value} {z : Value} {e : TypeId} {zs : List α} {w wr : World} (h : CloneAt f z e zs w wr zs.length) : Cloned w wr e (zs.map f) (.returned (.slice (some ⟨w.heap.size, 0, none⟩) zs.length zs.length)) := by
  obtain ⟨h1, h2⟩ := h
  rw [half_full] at h1
  exact ⟨_, rfl, by rw [List.length_map]; exact h1, h2⟩


set_option maxHeartbeats 1000000 in
theorem cloneBytes (o : Option Addr) (c : Nat) (zs : List Int) (w : World) (hlen : zs.length ≤ 1048576) (hnone : o = none → zs = [] ∧ c = 0) (hc : Src w o (zs.map (Value.int .u8))) :
    Calls Try.prog 12 #[.slice o zs.length c] w fun e w' => Cloned w w' 5 (zs.map (Value.int .u8)) e := by
  have hnil := fun (w : World) (a : Option Addr) (n c : Nat) => Lib.run_eql_slice_nil (P := Try.prog) w 25 5 a n c 0 0 Try.underlying25
  cases o with
  | none =>
    obtain ⟨rfl, rfl⟩ := hnone rfl
    clear hnone hc
    go_enter Try.func12, Try.ntmps12
    go_wp2
    go_ret
    exact ⟨_, rfl, World.ownsRow_nil _ _ _ _, Below.refl _ _⟩
  | some a =>
  clear hnone
  obtain ⟨i0, hi, hz0, hz1, hz2⟩ := info_parts info5
  have HC := hide hc
  clear hc
  go_enter Try.func12, Try.ntmps12
  go_wp2_with (at_make; refine wpList_make_full _ rfl _ _ 25 rfl w.heap.size 5 i0 (.int .u8 0) 1 Try.underlying25 hi hz0 hz1 _ _ _ _ zs.length rfl rfl rfl rfl (by rw [hz2]; omega) (by unfold maxLen; omega) (Nat.le_refl _) ?_; intro w1 hown hgr)
  have hst := CloneAt.start (Value.int .u8) (.int .u8 0) 5 zs hown hgr
  clear hown hgr
  go_loopw [4] (fun i wr => ∃ k : Nat, k ≤ zs.length ∧ i = .int .i64 k ∧ CloneAt (Value.int .u8) (.int .u8 0) 5 zs w wr k) (fun i _ => zs.length - (intOf i).toNat)
  case atStart => exact ⟨0, Nat.zero_le _, rfl, hst⟩
  case round =>
    obtain ⟨k, hk, rfl, hat⟩ := hrel
    by_cases hlt : k < zs.length
    · obtain ⟨b, off, ha, hcw⟩ := unhide HC k ((Value.int .u8) zs[k]) (by simp [hlt])
      obtain rfl : a = ⟨b, off, none⟩ := by simpa using ha
      have hcell := (hat.2.cell (p := ⟨b, off + k, none⟩) (World.block_lt_of_cell? w _ hcw)).trans hcw
      obtain ⟨u, hu⟩ : ∃ u, wr.cell? ⟨w.heap.size, k, none⟩ = some u := ⟨_, (hat.1.cellAt k (by omega)).trans (List.getElem?_eq_getElem (by rw [half_length _ _ _ _ hk]; exact hlt))⟩
      have hfz := hat.1.frozenAt k
      have R := hat.step hlt
      clear hat HC hst ha hcw
      go_wp2
      go_roundw
      case rel => exact ⟨k + 1, by omega, by go_num, R⟩
      case measure => simp [intOf]; omega
    · obtain rfl : k = zs.length := by omega
      have R := hat.done
      clear hat hst
      go_wp2
      go_ret
      exact R

set_option maxHeartbeats 1000000 in
theorem cloneInts (o : Option Addr) (c : Nat) (zs : List Int) (w : World) (hlen : zs.length ≤ 1048576) (hnone : o = none → zs = [] ∧ c = 0) (hc : Src w o (zs.map (Value.int .i64))) :
    Calls Try.prog 13 #[.slice o zs.length c] w fun e w' => Cloned w w' 3 (zs.map (Value.int .i64)) e := by
  have hnil := fun (w : World) (a : Option Addr) (n c : Nat) => Lib.run_eql_slice_nil (P := Try.prog) w 26 3 a n c 0 0 Try.underlying26
  cases o with
  | none =>
    obtain ⟨rfl, rfl⟩ := hnone rfl
    clear hnone hc
    go_enter Try.func13, Try.ntmps13
    go_wp2
    go_ret
    exact ⟨_, rfl, World.ownsRow_nil _ _ _ _, Below.refl _ _⟩
  | some a =>
  clear hnone
  obtain ⟨i0, hi, hz0, hz1, hz2⟩ := info_parts info3
  have HC := hide hc
  clear hc
  go_enter Try.func13, Try.ntmps13
  go_wp2_with (at_make; refine wpList_make_full _ rfl _ _ 26 rfl w.heap.size 3 i0 (.int .i64 0) 1 Try.underlying26 hi hz0 hz1 _ _ _ _ zs.length rfl rfl rfl rfl (by rw [hz2]; omega) (by unfold maxLen; omega) (Nat.le_refl _) ?_; intro w1 hown hgr)
  have hst := CloneAt.start (Value.int .i64) (.int .i64 0) 3 zs hown hgr
  clear hown hgr
  go_loopw [4] (fun i wr => ∃ k : Nat, k ≤ zs.length ∧ i = .int .i64 k ∧ CloneAt (Value.int .i64) (.int .i64 0) 3 zs w wr k) (fun i _ => zs.length - (intOf i).toNat)
  case atStart => exact ⟨0, Nat.zero_le _, rfl, hst⟩
  case round =>
    obtain ⟨k, hk, rfl, hat⟩ := hrel
    by_cases hlt : k < zs.length
    · obtain ⟨b, off, ha, hcw⟩ := unhide HC k ((Value.int .i64) zs[k]) (by simp [hlt])
      obtain rfl : a = ⟨b, off, none⟩ := by simpa using ha
      have hcell := (hat.2.cell (p := ⟨b, off + k, none⟩) (World.block_lt_of_cell? w _ hcw)).trans hcw
      obtain ⟨u, hu⟩ : ∃ u, wr.cell? ⟨w.heap.size, k, none⟩ = some u := ⟨_, (hat.1.cellAt k (by omega)).trans (List.getElem?_eq_getElem (by rw [half_length _ _ _ _ hk]; exact hlt))⟩
      have hfz := hat.1.frozenAt k
      have R := hat.step hlt
      clear hat HC hst ha hcw
      go_wp2
      go_roundw
      case rel => exact ⟨k + 1, by omega, by go_num, R⟩
      case measure => simp [intOf]; omega
    · obtain rfl : k = zs.length := by omega
      have R := hat.done
      clear hat hst
      go_wp2
      go_ret
      exact R

set_option maxHeartbeats 1000000 in
theorem cloneBools (o : Option Addr) (c : Nat) (zs : List Bool) (w : World) (hlen : zs.length ≤ 1048576) (hnone : o = none → zs = [] ∧ c = 0) (hc : Src w o (zs.map Value.bool)) :
    Calls Try.prog 14 #[.slice o zs.length c] w fun e w' => Cloned w w' 4 (zs.map Value.bool) e := by
  have hnil := fun (w : World) (a : Option Addr) (n c : Nat) => Lib.run_eql_slice_nil (P := Try.prog) w 27 4 a n c 0 0 Try.underlying27
  cases o with
  | none =>
    obtain ⟨rfl, rfl⟩ := hnone rfl
    clear hnone hc
    go_enter Try.func14, Try.ntmps14
    go_wp2
    go_ret
    exact ⟨_, rfl, World.ownsRow_nil _ _ _ _, Below.refl _ _⟩
  | some a =>
  clear hnone
  obtain ⟨i0, hi, hz0, hz1, hz2⟩ := info_parts info4
  have HC := hide hc
  clear hc
  go_enter Try.func14, Try.ntmps14
  go_wp2_with (at_make; refine wpList_make_full _ rfl _ _ 27 rfl w.heap.size 4 i0 (.bool false) 1 Try.underlying27 hi hz0 hz1 _ _ _ _ zs.length rfl rfl rfl rfl (by rw [hz2]; omega) (by unfold maxLen; omega) (Nat.le_refl _) ?_; intro w1 hown hgr)
  have hst := CloneAt.start Value.bool (.bool false) 4 zs hown hgr
  clear hown hgr
  go_loopw [4] (fun i wr => ∃ k : Nat, k ≤ zs.length ∧ i = .int .i64 k ∧ CloneAt Value.bool (.bool false) 4 zs w wr k) (fun i _ => zs.length - (intOf i).toNat)
  case atStart => exact ⟨0, Nat.zero_le _, rfl, hst⟩
  case round =>
    obtain ⟨k, hk, rfl, hat⟩ := hrel
    by_cases hlt : k < zs.length
    · obtain ⟨b, off, ha, hcw⟩ := unhide HC k (Value.bool zs[k]) (by simp [hlt])
      obtain rfl : a = ⟨b, off, none⟩ := by simpa using ha
      have hcell := (hat.2.cell (p := ⟨b, off + k, none⟩) (World.block_lt_of_cell? w _ hcw)).trans hcw
      obtain ⟨u, hu⟩ : ∃ u, wr.cell? ⟨w.heap.size, k, none⟩ = some u := ⟨_, (hat.1.cellAt k (by omega)).trans (List.getElem?_eq_getElem (by rw [half_length _ _ _ _ hk]; exact hlt))⟩
      have hfz := hat.1.frozenAt k
      have R := hat.step hlt
      clear hat HC hst ha hcw
      go_wp2
      go_roundw
      case rel => exact ⟨k + 1, by omega, by go_num, R⟩
      case measure => simp [intOf]; omega
    · obtain rfl : k = zs.length := by omega
      have R := hat.done
      clear hat hst
      go_wp2
      go_ret
      exact R
end Go.Proofs.Qxb6603268a
