/- A route's variable is made: the world behind it left open. -/
import Derived.Test.Qxb6614736aFil
namespace Go.Proofs.Qxb6614736a
open Go.RowKit

theorem there_new (w : World) (cs : Array Value) (t : TypeId) (n : Nat) (h : n ≤ cs.size) : (w.alloc (.cells cs t)).there w.heap.size 0 n := fun j hj =>
  ⟨by rw [Nat.zero_add, cell_new, Array.getElem?_eq_getElem (by omega)]; rfl, by rw [Nat.zero_add]; exact frozen_new _ _ _ _⟩

theorem run_alloc42 (ρ : Operand → Value) (op : Oper) (ho : op.op = .alloc 42) (w : World) :
    (execOp ρ op).run Try.prog w = .ok (.value (.pointer (some ⟨w.heap.size, 0, none⟩))) (w.alloc (.cells (rcells false).toArray 42)) := by
  have hz := Try.zeroValue42 w
  unfold execOp
  simp only [ho]
  simp [go_sem, hz]
  rfl

theorem wpList_alloc42 {ops : Array Oper} {rest : List Oper} {op : Oper} {a : Act} {w : World} {Q : Exit → Act → World → Prop} (hgd : op.guard = none) (ho : op.op = .alloc 42)
    (h : ∀ X, Below w.heap.size w X → X.there w.heap.size 0 28 → w.heap.size < X.heap.size → wpList Try.prog ops Q rest (a.put op.dst (.pointer (some ⟨w.heap.size, 0, none⟩))) X) : wpList Try.prog ops Q (op :: rest) a w := by
  refine wpList_plain hgd fun K hK => ?_
  unfold Oper.wp
  rw [run_alloc42 _ _ ho, Oper.upon_value]
  exact hK _ _ (h _ ((Below.refl _ _).alloc (Nat.le_refl _) _) (there_new _ _ _ _ (Nat.le_refl _)) (by simp))

/-- A route is stored: the world behind it left open. -/
theorem wpList_store42 {ops : Array Oper} {rest : List Oper} {op : Oper} {a : Act} {X : World} {Q : Exit → Act → World → Prop} (hgd : op.guard = none) (x z : Operand) (ho : op.op = .store 42 x z) (nb : Nat) (y : Bool)
    (hx : a.eval x = .pointer (some ⟨nb, 0, none⟩)) (hy : a.eval z = .agg (rcells y).toArray) (ht : X.there nb 0 28)
    (h : ∀ Y, Below nb X Y → Y.rangeAt nb 0 (rcells y) → Y.heap.size = X.heap.size → wpList Try.prog ops Q rest (a.put op.dst undef) Y) : wpList Try.prog ops Q (op :: rest) a X := by
  have hs : (rcells y).toArray.size = 28 := by rw [List.size_toArray, rcells_len]
  refine wpList_store_mid hgd 42 x z ho nb 0 (rcells y).toArray hx hy (by rw [hs]; exact ht) (size42' y) (rcells_one y) ?_
  exact h _ (below_setCells _ _ _ _ _ (Nat.le_refl _)) (World.rangeAt_setCells_same _ _ _ _ (by rw [rcells_len]; exact ht)) (size_setCells _ _ _ _)

/-- A route is read. -/
theorem wpList_load42 {ops : Array Oper} {rest : List Oper} {op : Oper} {a : Act} {X : World} {Q : Exit → Act → World → Prop} (hgd : op.guard = none) (x : Operand) (ho : op.op = .load 42 x) (nb : Nat) (y : Bool)
    (hx : a.eval x = .pointer (some ⟨nb, 0, none⟩)) (ht : X.rangeAt nb 0 (rcells y))
    (h : wpList Try.prog ops Q rest (a.put op.dst (.agg (rcells y).toArray)) X) : wpList Try.prog ops Q (op :: rest) a X :=
  wpList_load_mid hgd 42 x ho nb 0 hx (rcells y) _ ht Try.underlying42 rfl (Try.size42.trans (by rw [rcells_len])) h
end Go.Proofs.Qxb6614736a
