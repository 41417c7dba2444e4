import Derived.Test.Qxb6603268aState
import Derived.Deep.RegionLaw
import Derived.Deep.DeepMust
namespace Go.Proofs.Qxb6603268a
open Go.RowKit
set_option linter.unusedSimpArgs false

set_option maxRecDepth 100000 in
theorem hold_zero (p : Nat) (b : Int) (pd : Bool) (w : World) :
    Calls Try.prog 31 #[.pointer (some ⟨p, 0, none⟩), .int .u8 b, .int .i64 0, .bool pd] w fun e w' => e = .returned (.tuple #[]) ∧ w = w' := by
  go_enter Try.func31, Try.ntmps31
  go_wp2
  exact bodyPost_ret (results_none rfl _ _ _) rfl ⟨rfl, rfl⟩

theorem cells_replicate (n : Nat) (b : Int) (w : World) (g : Nat) (h : ∀ j, j < n → w.cell? ⟨g, j, none⟩ = some (.int .u8 b)) : ∀ j u, (List.replicate n (Value.int .u8 b))[j]? = some u → w.cell? ((⟨g, 0, none⟩ : Addr).add j) = some u := fun j u hu => by
  have hadd : (⟨g, 0, none⟩ : Addr).add j = ⟨g, j, none⟩ := by unfold Addr.add; split <;> simp_all
  rw [List.getElem?_replicate] at hu
  split at hu
  · cases hu; rw [hadd]; exact h j (by assumption)
  · cases hu
theorem one_replicate (n : Nat) (b : Int) : ∀ u ∈ List.replicate n (Value.int .u8 b), u.oneCell' = true := fun u hu => by rw [List.eq_of_mem_replicate hu]; rfl
theorem map_app_replicate (l : List Int) (n : Nat) (b : Int) : l.map (Value.int .u8) ++ List.replicate n (.int .u8 b) = (l ++ List.replicate n b).map (Value.int .u8) := by simp

theorem Mid.repeated {w0 w w2 : World} {B p : Nat} {dv0 ev0 dv ev : Value} {s : St} (h : Mid w0 w B p dv0 ev0 dv ev s) {o : Obj} {n : Nat} {b : Int} (hf : Filled (w.alloc o).drew (w.heap.size + 1) (w.heap.size + 1) n b n w2) : Mid w0 w2 B p dv0 ev0 dv ev s := by
  obtain ⟨_, _, _, _, hb, _⟩ := hf
  exact (h.alloc o).drew.below (by simpa using hb)

theorem repeat_at (g n : Nat) (b : Int) (w : World) (H : Nat) (hn0 : 0 < n) (hn : n ≤ 16777216) (hH : w.heap.size = H) (hc : w.cell? ⟨g, 0, none⟩ = some (.int .u8 b)) :
    Calls Try.prog 34 #[.slice (some ⟨g, 0, none⟩) 1 1, .int .i64 n] w fun e w' => e = .returned (.slice (some ⟨H, 0, none⟩) n n) ∧ Filled w H H n b n w' := by
  subst hH
  exact repeat_any g n b w hn0 hn hc

set_option maxRecDepth 100000 in
set_option maxHeartbeats 4000000 in
theorem hold_other (B p : Nat) (dv ev : Value) (s : St) (b : Int) (n : Nat) (pd : Bool) (w : World) (hcut : CutAt w B p dv ev s) (hB : B ≤ w.heap.size) (hn0 : 0 < n) (hn : n ≤ 16777216) (hsz : s.data.length ≤ 16777216)
    (h1 : (b != 32) = true) (h2 : (b != 10) = true) :
    Calls Try.prog 31 #[.pointer (some ⟨p, 0, none⟩), .int .u8 b, .int .i64 n, .bool pd] w fun e w' => e = .returned (.tuple #[]) ∧ Held w w' B p dv ev { s with data := s.data ++ List.replicate n b } := by
  have hz : ((n : Int) == 0) = false := by simp; omega
  obtain ⟨i0, hi, hz0, hz1, hz2⟩ := info_parts info5
  have c0 := hcut.blk.c0
  have HM := hide (Mid.start hcut)
  have hpl := hcut.blk.lt
  clear hcut
  go_enter Try.func31, Try.ntmps31
  go_wp2
  go_region_law (first
    | (go_simp
       go_at_call 34
       refine (repeat_at w.heap.size n b _ (w.heap.size + 1) hn0 hn (by simp) (by simp)).mono ?_
       rintro e w2 ⟨rfl, hf⟩
       have HF := hide hf
       have HM2 := hide ((unhide HM).repeated hf)
       have c2 := (unhide HM2).cut.blk.c0
       clear hf)
    | (refine (step_append_lies _ rfl (.tmp 22) (.tmp 26) 25 rfl B 5 i0 (.int .u8 0) 1 1 Try.underlying25 hi hz0 hz1 hz2 rfl (by decide) dv s.data.length (s.data.map (Value.int .u8)) (by simp [Act.eval, Act.put]) (unhide HM2).cut.data ⟨w.heap.size + 1, 0, none⟩ n n (List.replicate n (.int .u8 b)) (by simp [Act.eval, Act.put]) (by simp) (cells_replicate n b _ _ (fun j hj => (unhide HF).cell hj)) (one_replicate n b) hn0 (by unfold maxLen; omega) (by omega) (by have := (unhide HM2).keep.size; omega) _ rfl ?_)
       intro g cap w3 hown hgrow hat hlt
       have G := (unhide HM2).grew (ys := s.data ++ List.replicate n b) hown (by simp) (map_app_replicate _ _ _) hgrow hat
       have c3 := G.blk.c0
       have f3 := G.blk.fz 0
       have HG := hide G
       clear hown hgrow hat hlt G
       simp only [Act.put, List.setIfInBounds_toArray, goInt]))
  all_goals
    go_wp2
    refine bodyPost_ret (results_none rfl _ _ _) rfl ⟨rfl, ?_⟩
    exact (unhide HG).store.held
end Go.Proofs.Qxb6603268a
