import Derived.Test.Qxb6604552aBase
namespace Go.Proofs.Qxb6604552a
open Go.RowKit
open Extern.Stop (cell)
set_option linter.unusedSimpArgs false
set_option linter.unusedVariables false

theorem fold_list (off : Nat) : ∀ (vs : List Value) (k : Nat) (pre mid post : List Value), mid.length = vs.length → pre.length = off + k →
    (vs.zipIdx k).foldl (fun cs x => cs.setIfInBounds (off + x.2) x.1) (pre ++ mid ++ post).toArray = (pre ++ vs ++ post).toArray
  | [], k, pre, mid, post, hm, hp => by
    obtain rfl : mid = [] := List.length_eq_zero_iff.1 hm
    rfl
  | v :: vs, k, pre, mid, post, hm, hp => by
    obtain ⟨m, mid', rfl⟩ : ∃ m mid', mid = m :: mid' := by
      cases mid with
      | nil => simp at hm
      | cons m mid' => exact ⟨m, mid', rfl⟩
    rw [List.zipIdx_cons, List.foldl_cons]
    have e : (pre ++ m :: mid' ++ post).toArray.setIfInBounds (off + k) v = ((pre ++ [v]) ++ mid' ++ post).toArray := by
      rw [List.setIfInBounds_toArray, ← hp]
      simp
    show List.foldl _ ((pre ++ m :: mid' ++ post).toArray.setIfInBounds (off + k) v) _ = _
    rw [e, fold_list off vs (k + 1) (pre ++ [v]) mid' post (by simpa using hm) (by simp; omega)]
    simp

theorem fold_arr (off : Nat) (vs pre mid post : List Value) (hm : mid.length = vs.length) (hp : pre.length = off) :
    vs.toArray.zipIdx.foldl (fun cs (x : Value × Nat) => cs.setIfInBounds (off + x.2) x.1) (pre ++ mid ++ post).toArray = (pre ++ vs ++ post).toArray := by
  have := fold_list off vs 0 pre mid post hm (by omega)
  rw [← this, ← Array.foldl_toList]
  simp

theorem fill_step (place : Nat → Option (Nat × Nat)) (i off size : Nat) (v : Value) (vs pre mid post : List Value) (rest : List (Nat × Value)) (hp : place i = some (off, size)) (hv : v.cells = vs.toArray)
    (hs : vs.length = size) (hm : mid.length = size) (ho : pre.length = off) :
    Instr.fill place (pre ++ mid ++ post).toArray ((i, v) :: rest) = Instr.fill place (pre ++ vs ++ post).toArray rest := by
  rw [Instr.fill, hp]
  simp only [hv]
  rw [if_neg, ← fold_arr off vs pre mid post (by omega) ho]
  simp
  omega

theorem size_of {t n : Nat} (h : (Try.prog.info? t).map (·.size) = some n) (w : World) : (sizeOf t).run Try.prog w = .ok n w := by
  cases hq : Try.prog.info? t with
  | none => simp [hq] at h
  | some i =>
    have : i.size = n := by simpa [hq] using h
    simp [sizeOf, typeInfo, hq, this]

theorem isz36 : (Try.prog.info? 36).map (·.size) = some 1 := by kernel_rfl
theorem isz9 : (Try.prog.info? 9).map (·.size) = some 1 := by kernel_rfl
theorem isz4 : (Try.prog.info? 4).map (·.size) = some 1 := by kernel_rfl

def zero32 : List Value := (List.replicate 32 (0 : UInt8)).map cell ++ [.bool false]
theorem zv32 : ∀ w, (zeroValue 32).run Try.prog w = .ok (.agg zero32.toArray) w := Try.zeroValue32

theorem build32 (rek : List UInt8) (ok : Bool) (h : rek.length = 32) (w : World) :
    (Instr.build 32 #[(0, .agg (rek.map cell).toArray), (1, .bool ok)]).run Try.prog w = .ok (.agg (rek.map cell ++ [Value.bool ok]).toArray) w := by
  have hf : Instr.fill (fun x => [(0, 32), (32, 1)][x]?) zero32.toArray [(0, Value.agg (List.map cell rek).toArray), (1, Value.bool ok)] = some (rek.map cell ++ [Value.bool ok]).toArray := by
    have e0 : zero32.toArray = ([] ++ (List.replicate 32 (0 : UInt8)).map cell ++ [Value.bool false]).toArray := rfl
    rw [e0, fill_step _ 0 0 32 _ (rek.map cell) [] _ _ _ rfl rfl (by simp [h]) (by simp) rfl]
    have e1 : ([] ++ rek.map cell ++ [Value.bool false]).toArray = (rek.map cell ++ [Value.bool false] ++ []).toArray := by simp
    rw [e1, fill_step _ 1 32 1 _ [Value.bool ok] (rek.map cell) [Value.bool false] [] _ rfl rfl rfl rfl (by simp [h])]
    simp [Instr.fill]
  unfold Instr.build
  simp only [Sem.run_bind, zv32, Result.andThen_ok, run_underlying Try.underlying32, Value.cells]
  simp [size_of isz30, size_of isz4]
  rw [hf]
  simp

/-- the parts of a node, as they are handed to the literal -/
def nodeParts (n : Nd) : Array (Nat × Value) := #[(0, .agg (n.nid.map cell).toArray), (1, .int .i64 n.back), (2, .agg (n.eid.map cell).toArray), (3, .agg (n.rek.map cell ++ [Value.bool n.ok]).toArray), (4, .string n.addr), (5, .agg (n.reg.map cell).toArray)]

theorem build38 (n : Nd) (h : n.Wf) (w : World) : (Instr.build 38 (nodeParts n)).run Try.prog w = .ok (.agg n.cells.toArray) w := by
  have hf : Instr.fill (fun x => [(0, 32), (32, 1), (33, 32), (65, 33), (98, 1), (99, 32)][x]?) zeroNd.cells.toArray (nodeParts n).toList = some n.cells.toArray := by
    let Z : List Value := (List.replicate 32 (0 : UInt8)).map cell
    have hZ : Z.length = 32 := rfl
    have e0 : zeroNd.cells.toArray = ([] ++ Z ++ (Value.int .i64 0 :: (Z ++ (Z ++ (Value.bool false :: Value.string ⟨#[]⟩ :: Z))))).toArray := rfl
    have e1 : ∀ A : List Value, ([] ++ A ++ (Value.int .i64 0 :: (Z ++ (Z ++ (Value.bool false :: Value.string ⟨#[]⟩ :: Z))))).toArray = (A ++ [Value.int .i64 0] ++ (Z ++ (Z ++ (Value.bool false :: Value.string ⟨#[]⟩ :: Z)))).toArray := by intro A; simp
    have e2 : ∀ A C : List Value, (A ++ C ++ (Z ++ (Z ++ (Value.bool false :: Value.string ⟨#[]⟩ :: Z)))).toArray = ((A ++ C) ++ Z ++ (Z ++ (Value.bool false :: Value.string ⟨#[]⟩ :: Z))).toArray := by intro A C; simp
    have e3 : ∀ A C : List Value, (A ++ C ++ (Z ++ (Value.bool false :: Value.string ⟨#[]⟩ :: Z))).toArray = ((A ++ C) ++ (Z ++ [Value.bool false]) ++ (Value.string ⟨#[]⟩ :: Z)).toArray := by intro A C; simp
    have e4 : ∀ A C : List Value, (A ++ C ++ (Value.string ⟨#[]⟩ :: Z)).toArray = ((A ++ C) ++ [Value.string ⟨#[]⟩] ++ Z).toArray := by intro A C; simp
    have e5 : ∀ A C : List Value, (A ++ C ++ Z).toArray = ((A ++ C) ++ Z ++ []).toArray := by intro A C; simp
    unfold nodeParts
    rw [e0, fill_step _ 0 0 32 _ (n.nid.map cell) [] Z _ _ rfl rfl (by simp [h.nid]) rfl rfl, e1,
      fill_step _ 1 32 1 _ [Value.int .i64 n.back] (n.nid.map cell) _ _ _ rfl rfl rfl rfl (by simp [h.nid]), e2,
      fill_step _ 2 33 32 _ (n.eid.map cell) _ Z _ _ rfl rfl (by simp [h.eid]) rfl (by simp [h.nid]), e3,
      fill_step _ 3 65 33 _ (n.rek.map cell ++ [Value.bool n.ok]) _ (Z ++ [Value.bool false]) _ _ rfl rfl (by simp [h.rek]) rfl (by simp [h.nid, h.eid]), e4,
      fill_step _ 4 98 1 _ [Value.string n.addr] _ [Value.string ⟨#[]⟩] _ _ rfl rfl rfl rfl (by simp [h.nid, h.eid, h.rek]), e5,
      fill_step _ 5 99 32 _ (n.reg.map cell) _ Z _ _ rfl rfl (by simp [h.reg]) rfl (by simp [h.nid, h.eid, h.rek])]
    simp [Instr.fill, Nd.cells]
  unfold Instr.build
  simp only [Sem.run_bind, zero38.1, Result.andThen_ok, run_underlying Try.underlying38, Value.cells]
  simp [size_of isz30, size_of isz36, size_of isz32, size_of isz9]
  rw [hf]
  simp

/-- a literal without fields -/
theorem build38z (w : World) : (Instr.build 38 #[]).run Try.prog w = .ok (.agg zeroNd.cells.toArray) w := by
  unfold Instr.build
  simp only [Sem.run_bind, zero38.1, Result.andThen_ok, run_underlying Try.underlying38, Value.cells]
  simp [size_of isz30, size_of isz36, size_of isz32, size_of isz9, Instr.fill]

/-- an operation that gives a value and leaves the world as it is -/
theorem wpList_build {P : Program} {ops : Array Oper} {rest : List Oper} {op : Oper} {a : Act} {w : World} {Q : Exit → Act → World → Prop} (hgd : op.guard = none) (t : TypeId) (parts : Array (Nat × Operand)) (ho : op.op = .build t parts)
    (vs : Array (Nat × Value)) (hvs : (parts.map fun (i, x) => (i, a.eval x)) = vs) (v : Value) (hrun : (Instr.build t vs).run P w = .ok v w)
    (h : wpList P ops Q rest (a.put op.dst v) w) : wpList P ops Q (op :: rest) a w :=
  wpList_plain hgd fun _ hK => by
    unfold Oper.wp execOp
    simp only [ho, hvs, Sem.run_bind, hrun, Result.andThen_ok]
    exact hK _ _ h
end Go.Proofs.Qxb6604552a
