import Derived.Test.Qxb6627536aCommitted
import Derived.Laws.StructEq
namespace Go.Proofs.Qxb6627536a
open Go.ChangeShapes Go.WideShapes Go.ChangeAt Go.RowKit

/-- The appended abort. -/
def abRec (t : Int) : Rec := ⟨4, false, 0, 0, 0, t, -1, 0⟩
theorem aborts_snoc (L : List Rec) (t x : Int) : aborts (L ++ [abRec t]) x = (aborts L x || (t == x)) := by
  unfold aborts
  rw [List.any_append]
  simp [abRec]
/-- The operations that are not of t. -/
def notOf (t : Int) (L : List Rec) : List Rec := L.filter (fun o => !(o.txn == t))
theorem keep_snoc (L : List Rec) (t : Int) : keepBy (L ++ [abRec t]) (L ++ [abRec t]) = notOf t (keepBy L L) := by
  unfold notOf
  rw [show keepBy (L ++ [abRec t]) (L ++ [abRec t]) = L.filter (fun o => !aborts (L ++ [abRec t]) o.txn) by
    unfold keepBy
    rw [List.filter_append, List.filter_cons, aborts_snoc]
    simp [abRec]]
  unfold keepBy
  rw [List.filter_filter]
  refine List.filter_congr fun o _ => ?_
  rw [aborts_snoc]
  rw [show (t == o.txn) = (o.txn == t) from Bool.beq_comm]
  cases aborts L o.txn <;> cases (o.txn == t) <;> rfl
theorem keep_noAb (L : List Rec) : anyAb (keepBy L L) = false := by
  unfold anyAb
  rw [List.any_eq_false]
  intro o ho hact
  unfold keepBy at ho
  obtain ⟨h1, h2⟩ := List.mem_filter.1 ho
  have : aborts L o.txn = true := by
    unfold aborts
    exact List.any_eq_true.2 ⟨o, h1, by simp [hact]⟩
  simp [this] at h2
theorem notOf_step (t : Int) (M : List Rec) (j : Nat) (h : j < M.length) (hn : ((M.getD j r0).txn == t) = true) : (notOf t (M.take (j + 1))).length = (notOf t (M.take j)).length := by
  rw [take_snoc M r0 j h]
  unfold notOf
  rw [List.filter_append, List.filter_cons, hn]
  simp
theorem notOf_take (t : Int) (M : List Rec) (j : Nat) (h : j < M.length) (hn : ((M.getD j r0).txn == t) = false) :
    (notOf t (M.take (j + 1))).length = (notOf t (M.take j)).length + 1 ∧ (notOf t (M.take j)).length < (notOf t M).length ∧ (notOf t M).getD (notOf t (M.take j)).length r0 = M.getD j r0 := by
  have e1 : notOf t (M.take (j + 1)) = notOf t (M.take j) ++ [M.getD j r0] := by
    rw [take_snoc M r0 j h]
    unfold notOf
    rw [List.filter_append, List.filter_cons, hn]
    simp
  have e2 : notOf t M = notOf t (M.take j) ++ ([M.getD j r0] ++ notOf t (M.drop (j + 1))) := by
    rw [← List.append_assoc, ← e1]
    unfold notOf
    rw [← List.filter_append, List.take_append_drop]
  refine ⟨by rw [e1]; simp, by rw [e2]; simp, ?_⟩
  rw [e2]
  simp [List.getD]
theorem notOf_mem (t : Int) (M : List Rec) (j : Nat) (h : j < (notOf t M).length) : ((notOf t M).getD j r0).txn ≠ t := by
  have hm : (notOf t M).getD j r0 ∈ notOf t M := by simp [List.getD, h]
  have := (List.mem_filter.1 hm).2
  simpa using this
theorem noAb_at (M : List Rec) (h : anyAb M = false) (j : Nat) (hj : j < M.length) : (M.getD j r0).act ≠ 4 := by
  unfold anyAb at h
  rw [List.any_eq_false] at h
  have hm : M.getD j r0 ∈ M := by simp [List.getD, hj]
  simpa using h _ hm
theorem OkOps.keep {L : List Rec} (h : OkOps L) (M : List Rec) : OkOps (keepBy M L) := fun o ho => h o (List.mem_filter.1 ho).1
theorem OkOps.snoc {L : List Rec} (h : OkOps L) {t : Int} (ht : Ok64 t) : OkOps (L ++ [abRec t]) := by
  intro o ho
  rcases List.mem_append.1 ho with h1 | h1
  · exact h o h1
  · simp at h1
    subst h1
    exact ht

theorem equal42 (w : World) (a0 : Int) (a1 : Bool) (a2 a3 a4 a5 a6 a7 : Int) :
    (Op.equalIn 10000 42 (.agg #[.int .u8 a0, .bool a1, .int .u8 a2, .int .u8 a3, .int .u8 a4, .int .i64 a5, .int .i64 a6, .int .i64 a7]) (.agg #[.int .u8 a0, .bool a1, .int .u8 a2, .int .u8 a3, .int .u8 a4, .int .i64 a5, .int .i64 a6, .int .i64 a7])).run Try.prog w = .ok true w := by
  have hS : Try.prog.underlying 42 = some (.struct (Try.prog.fieldsOf 42)) := by kernel_rfl
  have hp : Try.prog.stoodInHeld 42 = false := by kernel_rfl
  rw [show (10000 : Nat) = 9999 + 1 from rfl, run_equalIn_agg w 9999 42 _ _ hS hp]
  simp only [Program.fieldsOf, Try.underlying42]
  go_simp
@[go_sem] theorem guard42 (op : BinOp) (x y : Operand) (xs ys : Array Value) (w : World) : (eqGuard op 42 x y (.agg xs) (.agg ys)).run Try.prog w = .ok () w := run_eqGuard_agg w op 42 x y xs ys (by kernel_rfl)
@[go_sem] theorem neq42 (w : World) (a0 : Int) (a1 : Bool) (a2 a3 a4 a5 a6 a7 : Int) :
    (binOp .neq 42 (.agg #[.int .u8 a0, .bool a1, .int .u8 a2, .int .u8 a3, .int .u8 a4, .int .i64 a5, .int .i64 a6, .int .i64 a7]) (.agg #[.int .u8 a0, .bool a1, .int .u8 a2, .int .u8 a3, .int .u8 a4, .int .i64 a5, .int .i64 a6, .int .i64 a7])).run Try.prog w = .ok (.bool false) w := by
  rw [run_neq_struct, equal42]
  rfl
end Go.Proofs.Qxb6627536a
