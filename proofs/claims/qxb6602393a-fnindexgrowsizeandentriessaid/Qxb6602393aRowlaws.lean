/- 'make' and 'append' within the capacity, said of rows of the call's own. -/
import Derived.Test.Qxb6602393aChecked
import Derived.Test.Qxb6602393aBase
import Derived.Lib.SliceRun
set_option linter.unusedVariables false
namespace Go.Proofs.Qxb6602393a
open Go.RowKit Plain

theorem info29 : (Try.prog.info? 29).map (fun i => (i.zero, i.size, i.bytes)) = some (some (.int .u64 0), 1, 8) := by kernel_rfl

def zeroF : Nat → Int := fun _ => 0

theorem made_row (k : Nat) : madeCells (Value.int .u64 0).cells (k * 1) = row k zeroF := by
  apply Array.ext_getElem?
  intro j
  rw [Nat.mul_one]
  by_cases hj : j < k
  · rw [row_get k zeroF j hj]
    simp [madeCells, Value.cells, hj, zeroF, Nat.mod_one]
  · rw [Array.getElem?_eq_none (by rw [size_madeCells]; omega), Array.getElem?_eq_none (by rw [row_size]; omega)]

theorem make_row (w : World) {ops : Array Oper} {rest : List Oper} {o : Oper} {a : Act} {Q : Exit → Act → World → Prop}
    (hg : o.guard = none) (l c : Operand) (hop : o.op = Op.makeSlice 22 l c) (L C : Int) (n k : Nat) (hl : a.eval l = .int .i64 L) (hc : a.eval c = .int .i64 C)
    (hL : L = (n : Int)) (hC : C = (k : Int)) (hnk : n ≤ k) (hk : k ≤ 1073741824)
    (hK : ∀ w', Own w' w.heap.size k zeroF → Below w.heap.size w w' → w'.heap.size = w.heap.size + 1 → wpList Try.prog ops Q rest (a.put o.dst (.slice (some ⟨w.heap.size, 0, none⟩) n k)) w') :
    wpList Try.prog ops Q (o :: rest) a w := by
  refine wpList_plain hg fun K hK' => ?_
  obtain ⟨i, hi, hz0, hz1, hz2⟩ := info_parts info29
  have hrun := run_make (P := Try.prog) w 22 29 i (.int .u64 0) Try.underlying22 hi hz0 .i64 .i64 (n : Int) (k : Int) (by omega) (by omega) (by rw [hz2]; omega) (by omega)
  rw [Int.toNat_natCast, Int.toNat_natCast, hz1, made_row] at hrun
  subst hL
  subst hC
  unfold Oper.wp
  simp [execOp, hop, hl, hc, hrun, Result.andThen]
  exact hK' _ _ (hK _ (heap_alloc_new w _) ((Below.refl _ _).alloc (Nat.le_refl _) _) (by simp))

theorem row_append (c k : Nat) (f : Nat → Int) (v : Int) (hk : k < c) :
    ((row c f).toList.take (k * 1) ++ [Value.int .u64 v] ++ (row c f).toList.drop (k * 1 + [Value.int .u64 v].length)).toArray = row c (upd f k v) := by
  rw [← row_set, Nat.mul_one, ← Array.toList_inj, Array.toList_setIfInBounds, List.set_eq_take_append_cons_drop, if_pos (by rw [Array.length_toList, row_size]; exact hk)]
  simp

theorem append_row (w : World) {ops : Array Oper} {rest : List Oper} {o : Oper} {a : Act} {Q : Exit → Act → World → Prop}
    (hg : o.guard = none) (s x : Operand) (hop : o.op = Op.call { callee := Callee.builtin Builtin.append, args := #[s, x], argTypes := #[22, 22] })
    (g k cap : Nat) (f : Nat → Int) (v : Int) (hs : a.eval s = .slice (some ⟨g, 0, none⟩) k cap) (hown : Own w g cap f) (b : Nat) (c : Nat) (hx : a.eval x = .slice (some ⟨b, 0, none⟩) 1 c)
    (hv : w.cell? ⟨b, 0, none⟩ = some (.int .u64 v)) (hk : k < cap)
    (hK : ∀ w', Own w' g cap (upd f k v) → Kept (fun i => i = g) w w' → w'.heap.size = w.heap.size → wpList Try.prog ops Q rest (a.put o.dst (.slice (some ⟨g, 0, none⟩) (k + 1) cap)) w') :
    wpList Try.prog ops Q (o :: rest) a w := by
  refine wpList_plain hg fun K hK' => ?_
  obtain ⟨i, hi, hz0, hz1, hz2⟩ := info_parts info29
  have hrun := run_append_room (P := Try.prog) w 22 o.type 29 i Try.underlying22 hi g k cap (row cap f) hown ⟨b, 0, none⟩ 1 c [.int .u64 v] (by rw [hz1]; rfl)
    (fun j u hj => by
      match j, hj with
      | 0, hj => simp at hj; subst hj; simpa [Addr.add] using hv) (by intro u hu; simp at hu; subst hu; rfl) (by omega) (by rw [hz1, row_size]; simp; omega)
  rw [hz1, row_append cap k f v hk] at hrun
  unfold Oper.wp
  simp [execOp, hop, resolve, invoke, builtin, hs, hx, hrun, Result.andThen]
  refine hK' _ _ (hK _ (setRow_heap w g _ _ 29 (0, 0) hown) ⟨rfl, rfl, rfl, by simp, fun j hj hne => setRow_other w g j _ hne⟩ (by simp))

theorem new_one (w : World) (v : Value) : (w.alloc (.cells #[v] 29)).cell? ⟨w.heap.size, 0, none⟩ = some v := by
  rw [cell_of_row _ _ 0 _ 29 (0, 0) (heap_alloc_new w _)]; rfl

end Go.Proofs.Qxb6602393a
