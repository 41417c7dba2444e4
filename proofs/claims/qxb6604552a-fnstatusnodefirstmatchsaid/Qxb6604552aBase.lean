import Derived.Test.Qxb6604552aProg
import Derived.WalkKit
import Derived.WalkSpells
import Derived.WalkLawsBesides
import Derived.Outline
import Derived.OneCell
import Derived.Lib.SliceRun
import Derived.Deep.DeepMust
import Derived.Deep.QuietTactic
import Derived.BigQuiet
import Derived.RegionTactic
import Derived.BigRegion
import Derived.ChangeAlike
import Derived.Deep.CutBlock
import Derived.Deep.MidRow
import Derived.Deep.WholeRow
import Derived.Stop.BytesEq
namespace Go.Proofs.Qxb6604552a
open Go.RowKit
open Extern.Stop (cell)
set_option linter.unusedSimpArgs false
set_option linter.unusedVariables false

theorem hide {p : Prop} (h : p) : Hid p := h
theorem unhide {p : Prop} (h : Hid p) : p := h
theorem size_alloc (w : World) (b : Obj) : (w.alloc b).heap.size = w.heap.size + 1 := Array.size_push ..
theorem new_alloc (w : World) (b : Obj) : (w.alloc b).heap[w.heap.size]? = some b := Array.getElem?_push_size ..

/-- one node, in plain fields -/
structure Nd where
  nid : List UInt8
  back : Int
  eid : List UInt8
  rek : List UInt8
  ok : Bool
  addr : ByteArray
  reg : List UInt8

structure Nd.Wf (n : Nd) : Prop where
  nid : n.nid.length = 32
  eid : n.eid.length = 32
  rek : n.rek.length = 32
  reg : n.reg.length = 32

/-- its 131 cells -/
def Nd.cells (n : Nd) : List Value := n.nid.map cell ++ (.int .i64 n.back :: (n.eid.map cell ++ (n.rek.map cell ++ (.bool n.ok :: .string n.addr :: n.reg.map cell))))

theorem Nd.length (n : Nd) (h : n.Wf) : n.cells.length = 131 := by
  simp [Nd.cells, h.nid, h.eid, h.rek, h.reg]

theorem cell_one (b : UInt8) : (cell b).oneCell' = true := rfl

theorem Nd.one (n : Nd) : ∀ v ∈ n.cells, v.oneCell' = true := by
  intro v hv
  simp only [Nd.cells, List.mem_append, List.mem_cons, List.mem_map] at hv
  rcases hv with ⟨_, _, rfl⟩ | rfl | ⟨_, _, rfl⟩ | ⟨_, _, rfl⟩ | rfl | rfl | ⟨_, _, rfl⟩ <;> rfl

/-- the zero node -/
def zeroNd : Nd := ⟨List.replicate 32 0, 0, List.replicate 32 0, List.replicate 32 0, false, ⟨#[]⟩, List.replicate 32 0⟩
theorem zeroNd_wf : zeroNd.Wf := ⟨rfl, rfl, rfl, rfl⟩
theorem info38 : (Try.prog.info? 38).map (fun i => (i.zero, i.size)) = some (some (.agg zeroNd.cells.toArray), 131) := by kernel_rfl
theorem zero38 : (∀ w, (zeroValue 38).run Try.prog w = .ok (.agg zeroNd.cells.toArray) w) ∧ (Try.prog.info? 38).map (·.size) = some 131 := zero_of_info info38
theorem isz38 : (Try.prog.info? 38).map (·.size) = some 131 := zero38.2
theorem isz42 : (Try.prog.info? 42).map (·.size) = some 131 := by kernel_rfl
theorem isz23 : (Try.prog.info? 23).map (·.size) = some 32 := by kernel_rfl
theorem isz30 : (Try.prog.info? 30).map (·.size) = some 32 := by kernel_rfl
theorem isz32 : (Try.prog.info? 32).map (·.size) = some 33 := by kernel_rfl

/-! the parts of a node's cells -/
section
variable (n : Nd) (h : n.Wf)
include h
theorem Nd.drop32 : n.cells.drop 32 = .int .i64 n.back :: (n.eid.map cell ++ (n.rek.map cell ++ (.bool n.ok :: .string n.addr :: n.reg.map cell))) := by
  unfold Nd.cells
  rw [List.drop_append_of_le_length (by simp [h.nid]), List.drop_eq_nil_of_le (by simp [h.nid])]
  rfl
theorem Nd.drop33 : n.cells.drop 33 = n.eid.map cell ++ (n.rek.map cell ++ (.bool n.ok :: .string n.addr :: n.reg.map cell)) := by
  rw [show 33 = 32 + 1 by rfl, ← List.drop_drop, Nd.drop32 n h]
  rfl
theorem Nd.drop65 : n.cells.drop 65 = n.rek.map cell ++ (.bool n.ok :: .string n.addr :: n.reg.map cell) := by
  rw [show 65 = 33 + 32 by rfl, ← List.drop_drop, Nd.drop33 n h, List.drop_append_of_le_length (by simp [h.eid]), List.drop_eq_nil_of_le (by simp [h.eid])]
  rfl
theorem Nd.drop97 : n.cells.drop 97 = .bool n.ok :: .string n.addr :: n.reg.map cell := by
  rw [show 97 = 65 + 32 by rfl, ← List.drop_drop, Nd.drop65 n h, List.drop_append_of_le_length (by simp [h.rek]), List.drop_eq_nil_of_le (by simp [h.rek])]
  rfl
theorem Nd.drop98 : n.cells.drop 98 = .string n.addr :: n.reg.map cell := by
  rw [show 98 = 97 + 1 by rfl, ← List.drop_drop, Nd.drop97 n h]
  rfl
theorem Nd.drop99 : n.cells.drop 99 = n.reg.map cell := by
  rw [show 99 = 98 + 1 by rfl, ← List.drop_drop, Nd.drop98 n h]
  rfl
end

/-- what lies behind o in a range lies there -/
theorem range_drop {w : World} {b o k : Nat} {cs ds es : List Value} (h : w.rangeAt b o cs) (hd : cs.drop k = ds ++ es) : w.rangeAt b (o + k) ds := fun j v hv => by
  have hj : j < ds.length := (List.getElem?_eq_some_iff.1 hv).1
  have : cs[k + j]? = some v := by
    rw [← List.getElem?_drop, hd, List.getElem?_append_left hj, hv]
  rw [Nat.add_assoc]
  exact h _ _ this

theorem range_cell {w : World} {b o k : Nat} {cs es : List Value} {v : Value} (h : w.rangeAt b o cs) (hd : cs.drop k = v :: es) : w.cell? ⟨b, o + k, none⟩ = some v := by
  have := range_drop (ds := [v]) (es := es) h hd 0 v rfl
  rwa [Nat.add_zero] at this

/-- the parts of a node that lies in memory -/
structure NdAt (w : World) (b o : Nat) (n : Nd) : Prop where
  all : w.rangeAt b o n.cells
  nid : w.rangeAt b o (n.nid.map cell)
  back : w.cell? ⟨b, o + 32, none⟩ = some (.int .i64 n.back)
  eid : w.rangeAt b (o + 33) (n.eid.map cell)
  rek : w.rangeAt b (o + 65) (n.rek.map cell)
  ok : w.cell? ⟨b, o + 97, none⟩ = some (.bool n.ok)
  addr : w.cell? ⟨b, o + 98, none⟩ = some (.string n.addr)
  reg : w.rangeAt b (o + 99) (n.reg.map cell)
theorem NdAt.of {w : World} {b o : Nat} {n : Nd} (hn : n.Wf) (h : w.rangeAt b o n.cells) : NdAt w b o n :=
  ⟨h, range_drop (k := 0) h (ds := n.nid.map cell) rfl, range_cell h (Nd.drop32 n hn), range_drop h (Nd.drop33 n hn), range_drop h (Nd.drop65 n hn), range_cell h (Nd.drop97 n hn), range_cell h (Nd.drop98 n hn), range_drop h ((Nd.drop99 n hn).trans (List.append_nil _).symm)⟩

theorem rangeAt_below {w w' : World} {b o : Nat} {cs : List Value} (h : w.rangeAt b o cs) {B : Nat} (hb : Below B w w') (hB : b < B) : w'.rangeAt b o cs := fun j v hv => by
  rw [hb.cell (p := ⟨b, o + j, none⟩) hB]
  exact h j v hv

/-- the rows lie at o -/
def RowsAt (w : World) (o : Option Addr) (ns : List Nd) : Prop := ∀ i (h : i < ns.length), ∃ b off, o = some ⟨b, off, none⟩ ∧ b < w.heap.size ∧ ns[i].Wf ∧ w.rangeAt b (off + i * 131) ns[i].cells
theorem RowsAt.below {w w' : World} {o : Option Addr} {ns : List Nd} (h : RowsAt w o ns) {B : Nat} (hb : Below B w w') (hB : ∀ a, o = some a → a.block < B) : RowsAt w' o ns := fun i hi => by
  obtain ⟨b, off, e, h1, h2, h3⟩ := h i hi
  exact ⟨b, off, e, Nat.lt_of_lt_of_le h1 hb.size, h2, rangeAt_below h3 hb (hB _ e)⟩
theorem RowsAt.kept {w w' : World} {o : Option Addr} {ns : List Nd} (h : RowsAt w o ns) (hb : Below w.heap.size w w') : RowsAt w' o ns := fun i hi => by
  obtain ⟨b, off, e, h1, h2, h3⟩ := h i hi
  exact ⟨b, off, e, Nat.lt_of_lt_of_le h1 hb.size, h2, rangeAt_below h3 hb h1⟩

def SomeBool (e : Ending) : Prop := ∃ ok, e = .returned (.bool ok)
end Go.Proofs.Qxb6604552a
