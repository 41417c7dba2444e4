import Derived.Test.Qxb6604552aRows
import Derived.Test.Qxb6604552aLaw
import Derived.ProofKit
import Derived.OpenShut
import Derived.ShutString
import Derived.ChangeOld
import Derived.Below
import Derived.Deep.Grids
import Derived.Deep.Slices
namespace Go.Proofs.Qxb6604552a
open Go.ChangeShapes Go.WideShapes Go.ChangeAt Go.RowKit Go.Deep
open Extern.Stop (cell)
set_option linter.unusedVariables false

theorem own : ownKnob Try.prog.godebug = none := by kernel_rfl
theorem laidOut : laidOutB Try.prog = true := by kernel_rfl

theorem byte_cell {n : Int} (h : (Lit.int .u8 n).wf = true) : ∃ u : UInt8, Value.int .u8 n = cell u := by
  simp [Lit.wf, IntKind.min, IntKind.max, IntKind.signed, IntKind.bits] at h
  refine ⟨UInt8.ofNat n.toNat, ?_⟩
  unfold cell
  congr 1
  rw [UInt8.toNat_ofNat_of_lt' (by show n.toNat < 256; omega)]
  show n = ((n.toNat : Nat) : Int)
  omega

theorem cells_bytes {H : Type} {enc : TypeId × Value → H} {W : World} {fuel : Nat} {cs : List Value} {x : DataW H × List MemPlace} (hf : DataW.trod enc Try.prog W 0 (fun _ => true) true fuel 23 cs = some x) :
    ∃ bs : List UInt8, bs.length = 32 ∧ cs = bs.map cell := by
  have hc23 : Try.prog.cellsOf 23 = 32 := by kernel_rfl
  have hc5 : Try.prog.cellsOf 5 = 1 := by kernel_rfl
  obtain ⟨xs, m, _, _, hl, hxl, hel⟩ := DataW.trod_array Try.underlying23 hf
  rw [hc23] at hl
  obtain ⟨V, hV⟩ := choose_lt (α := UInt8) (n := 32) (p := fun i v => cs[i]? = some (cell v)) (fun i hi => by
    have h1 := hel i hi
    rw [hc5, Nat.mul_one, List.getElem?_eq_getElem (by omega)] at h1
    obtain ⟨z, e, _, hw⟩ := DataW.trod_int Try.underlying5 h1
    obtain ⟨u, hu⟩ := byte_cell hw
    refine ⟨u, ?_⟩
    have : ((cs.drop i).take 1)[0]? = some (Value.int .u8 z) := by rw [e]; rfl
    rw [List.getElem?_take_of_lt (by decide), List.getElem?_drop, Nat.add_zero] at this
    rw [this, hu])
  refine ⟨(List.range 32).map V, by simp, ?_⟩
  apply List.ext_getElem?
  intro i
  rcases Nat.lt_or_ge i 32 with h | h
  · rw [hV i h]
    simp [h]
  · rw [List.getElem?_eq_none (by omega), List.getElem?_eq_none (by simp; omega)]

theorem take_one {α : Type} {l : List α} {v : α} (h : l.take 1 = [v]) : ∃ r, l = v :: r ∧ l.drop 1 = r := by
  cases l with
  | nil => simp at h
  | cons a r =>
    simp at h
    exact ⟨r, by rw [h], rfl⟩

theorem cells_node {H : Type} {enc : TypeId × Value → H} {W : World} {fuel : Nat} {cs : List Value} {x : DataW H × List MemPlace} (hf : DataW.trod enc Try.prog W 0 (fun _ => true) true fuel 42 cs = some x) :
    ∃ n : Nd, n.Wf ∧ cs = n.cells := by
  have hc42 : Try.prog.cellsOf 42 = 131 := by kernel_rfl
  have hc23 : Try.prog.cellsOf 23 = 32 := by kernel_rfl
  have hc3 : Try.prog.cellsOf 3 = 1 := by kernel_rfl
  have hc4 : Try.prog.cellsOf 4 = 1 := by kernel_rfl
  have hc9 : Try.prog.cellsOf 9 = 1 := by kernel_rfl
  obtain ⟨xs, m, _, _, hl, hxl, hfld⟩ := DataW.trod_struct Try.underlying42 hf
  rw [hc42] at hl
  have hxl' : xs.length = 7 := hxl
  have g0 := hfld 0 _ rfl
  have g1 := hfld 1 _ rfl
  have g2 := hfld 2 _ rfl
  have g3 := hfld 3 _ rfl
  have g4 := hfld 4 _ rfl
  have g5 := hfld 5 _ rfl
  have g6 := hfld 6 _ rfl
  rw [List.getElem?_eq_getElem (by omega)] at g0 g1 g2 g3 g4 g5 g6
  obtain ⟨nid, n1, n2⟩ := cells_bytes g0
  obtain ⟨z, b1, _⟩ := DataW.trod_int Try.underlying3 g1
  obtain ⟨eid, e1, e2⟩ := cells_bytes g2
  obtain ⟨rek, r1, r2⟩ := cells_bytes g3
  obtain ⟨ok, k1, _⟩ := DataW.trod_bool Try.underlying4 g4
  obtain ⟨s, s1, _⟩ := DataW.trod_string Try.underlying9 g5
  obtain ⟨reg, q1, q2⟩ := cells_bytes g6
  have n2 : (cs.drop 0).take (Try.prog.cellsOf 23) = nid.map cell := n2
  have b1 : (cs.drop 32).take (Try.prog.cellsOf 3) = [Value.int .i64 z] := b1
  have e2 : (cs.drop 33).take (Try.prog.cellsOf 23) = eid.map cell := e2
  have r2 : (cs.drop 65).take (Try.prog.cellsOf 23) = rek.map cell := r2
  have k1 : (cs.drop 97).take (Try.prog.cellsOf 4) = [Value.bool ok] := k1
  have s1 : (cs.drop 98).take (Try.prog.cellsOf 9) = [Value.string s] := s1
  have q2 : (cs.drop 99).take (Try.prog.cellsOf 23) = reg.map cell := q2
  rw [hc23] at n2 e2 r2 q2
  rw [hc3] at b1
  rw [hc4] at k1
  rw [hc9] at s1
  refine ⟨⟨nid, z, eid, rek, ok, s, reg⟩, ⟨n1, e1, r1, q1⟩, ?_⟩
  have split : ∀ (o k : Nat), cs.drop o = (cs.drop o).take k ++ cs.drop (o + k) := fun o k => by rw [← List.drop_drop, List.take_append_drop]
  have h0 := split 0 32
  have h1 := split 32 1
  have h2 := split 33 32
  have h3 := split 65 32
  have h4 := split 97 1
  have h5 := split 98 1
  have h6 := split 99 32
  rw [n2] at h0
  rw [b1] at h1
  rw [e2] at h2
  rw [r2] at h3
  rw [k1] at h4
  rw [s1] at h5
  rw [q2, List.drop_eq_nil_of_le (by omega : cs.length ≤ 99 + 32), List.append_nil] at h6
  rw [List.drop_zero] at h0
  rw [h0, h1, h2, h3, h4, h5, h6]
  rfl

instance : Inhabited Nd := ⟨zeroNd⟩

theorem arg_rows {H : Type} {enc : TypeId × Value → H} {W : World} {o : Option Addr} {len cap : Nat} {d : DataW H} {p : List MemPlace} (h : DataW.Trod enc Try.prog W 0 (fun _ => true) true 22 (.slice o len cap) d p) :
    ∃ ns : List Nd, len = ns.length ∧ ns.length ≤ maxLen ∧ (o = none → ns = [] ∧ cap = 0) ∧ (∀ n ∈ ns, n.Wf) ∧ RowsAt W o ns := by
  obtain ⟨fuel, hf⟩ := h
  have hc42 : Try.prog.cellsOf 42 = 131 := by kernel_rfl
  rcases open_slice Try.underlying22 hf with ⟨hcs, _⟩ | ⟨a, l, c, m, n, D, Pl, hcs, _, hl, hm, hmm, _, hx⟩
  · simp [Value.cells] at hcs
    obtain ⟨rfl, rfl, rfl⟩ := hcs
    exact ⟨[], rfl, by simp, fun _ => ⟨rfl, rfl⟩, fun n hn => by simp at hn, fun i hi => by simp at hi⟩
  · simp [Value.cells] at hcs
    obtain ⟨rfl, rfl, rfl⟩ := hcs
    simp only [if_true] at hmm
    rw [hc42] at hx
    obtain ⟨V, hV⟩ := choose_lt (α := Nd) (n := len) (p := fun i v => v.Wf ∧ ∀ j u, v.cells[j]? = some u → W.cell? (a.add (i * 131 + j)) = some u) (fun i hi => by
      obtain ⟨cs', h1, h2⟩ := hx i (by omega)
      obtain ⟨_, hlen, hcell⟩ := World.cells?_some h1
      obtain ⟨nd, hw, hcs⟩ := cells_node h2
      refine ⟨nd, hw, fun j u hj => ?_⟩
      have hjl : j < cs'.length := by
        rw [hcs]
        exact (List.getElem?_eq_some_iff.1 hj).1
      have h11 := hcell j (by omega)
      rw [Addr.add_add] at h11
      rw [h11, hcs, hj])
    refine ⟨(List.range len).map V, by simp, by simp; omega, fun e => (by cases e), fun n hn => ?_, fun i hi => ?_⟩
    · obtain ⟨i, hi, rfl⟩ := List.mem_map.1 hn
      exact (hV i (by simpa using hi)).1
    · have hi' : i < len := by simpa using hi
      obtain ⟨b, off, spot⟩ := a
      have hspot : spot = none := by
        have h00 := World.cell?_spot ((hV 0 (by omega)).2 0 _ (List.getElem?_eq_getElem (by rw [Nd.length _ (hV 0 (by omega)).1]; decide)))
        simpa [Addr.add] using h00
      subst hspot
      simp only [List.getElem_map, List.getElem_range]
      obtain ⟨hw, hc⟩ := hV i hi'
      have hr : W.rangeAt b (off + i * 131) (V i).cells := fun j u hj => by
        have := hc j u hj
        rw [add_plain] at this
        rw [Nat.add_assoc]
        exact this
      refine ⟨b, off, rfl, ?_, hw, hr⟩
      have h32 := range_cell hr (Nd.drop32 _ hw)
      exact World.block_lt_of_cell? W _ h32
end Go.Proofs.Qxb6604552a
