/- WHAT THE WALKS SAY OF MEMORY: a slice that reads as f; a block of the call's own; what a call has kept. -/
import Derived.Test.Qxb6602393aPlain1
import Derived.WalkKit
import Derived.Deep.Quiet
import Derived.Deep.QuietTactic
import Derived.BigQuiet
import Derived.Deep.LoopGhost
import Derived.Deep.RegionWith
import Derived.WalkSpells
set_option linter.unusedVariables false
namespace Go.Proofs.Qxb6602393a
open Go.RowKit Plain

/-- The m cells from offset off of block b on read as f. -/
def Rd (w : World) (b off m : Nat) (f : Nat → Int) : Prop := ∀ i, i < m → w.cell? ⟨b, off + i, none⟩ = some (.int .u64 (f i))
/-- Each of the first m entries fits uint64. -/
def U64 (m : Nat) (f : Nat → Int) : Prop := ∀ i, i < m → 0 ≤ f i ∧ f i ≤ 18446744073709551615
/-- A row of m entries. -/
def row (m : Nat) (f : Nat → Int) : Array Value := ((List.range m).map fun i => Value.int .u64 (f i)).toArray
/-- Block g is a row of the call's own, of m entries f. -/
def Own (w : World) (g m : Nat) (f : Nat → Int) : Prop := w.heap[g]? = some (.cells (row m f) 29 (0, 0))

theorem row_size (m : Nat) (f : Nat → Int) : (row m f).size = m := by simp [row]
theorem row_get (m : Nat) (f : Nat → Int) (i : Nat) (h : i < m) : (row m f)[i]? = some (.int .u64 (f i)) := by simp [row, h]
theorem row_set (m : Nat) (f : Nat → Int) (i : Nat) (v : Int) : (row m f).setIfInBounds i (.int .u64 v) = row m (upd f i v) := by
  apply Array.ext_getElem?
  intro j
  rw [Array.getElem?_setIfInBounds, row_size]
  by_cases hj : j < m
  · rw [row_get m (upd f i v) j hj, row_get m f j hj]
    by_cases hij : i = j
    · subst hij; rw [if_pos rfl, if_pos hj, upd_same]
    · rw [if_neg hij, upd_other _ _ _ _ (by omega)]
  · have h1 : (row m f)[j]? = none := by rw [Array.getElem?_eq_none]; rw [row_size]; omega
    have h2 : (row m (upd f i v))[j]? = none := by rw [Array.getElem?_eq_none]; rw [row_size]; omega
    rw [h1, h2]
    split
    · rw [if_neg (by omega)]
    · rfl
theorem row_congr (m : Nat) (f g : Nat → Int) (h : ∀ i, i < m → f i = g i) : row m f = row m g := by
  unfold row
  congr 1
  apply List.map_congr_left
  intro i hi
  rw [h i (by simpa using hi)]

theorem Own.lt {w : World} {g m : Nat} {f : Nat → Int} (h : Own w g m f) : g < w.heap.size := (Array.getElem?_eq_some_iff.1 h).1
theorem Own.cell {w : World} {g m : Nat} {f : Nat → Int} (h : Own w g m f) {i : Nat} (hi : i < m) : w.cell? ⟨g, i, none⟩ = some (.int .u64 (f i)) := by
  rw [cell_of_row w g i _ 29 (0, 0) h, row_get m f i hi]
theorem Own.frozen {w : World} {g m : Nat} {f : Nat → Int} (h : Own w g m f) (i : Nat) : w.frozen? ⟨g, i, none⟩ = false := by
  unfold Own at h
  simp [World.frozen?, h]
theorem Own.rd {w : World} {g m : Nat} {f : Nat → Int} (h : Own w g m f) : Rd w g 0 m f := fun i hi => by rw [Nat.zero_add]; exact h.cell hi
theorem Own.rd_le {w : World} {g m n : Nat} {f : Nat → Int} (h : Own w g m f) (hn : n ≤ m) : Rd w g 0 n f := fun i hi => by rw [Nat.zero_add]; exact h.cell (by omega)
theorem Own.set {w : World} {g m : Nat} {f : Nat → Int} (h : Own w g m f) (i : Nat) (v : Int) : Own (w.setCell ⟨g, i, none⟩ (.int .u64 v)) g m (upd f i v) := by
  unfold Own
  rw [heap_setCell_same w g i _ 29 _ h, row_set]
theorem Own.set_other {w : World} {g m : Nat} {f : Nat → Int} (h : Own w g m f) (a : Addr) (v : Value) (hne : g ≠ a.block) : Own (w.setCell a v) g m f := by
  unfold Own
  rw [heap_setCell_other w a g v hne]
  exact h
theorem Own.alloc {w : World} {g m : Nat} {f : Nat → Int} (h : Own w g m f) (o : Obj) : Own (w.alloc o) g m f := by
  unfold Own
  rw [Below.heap_alloc w o g h.lt]
  exact h
theorem Own.drew {w : World} {g m : Nat} {f : Nat → Int} (h : Own w g m f) : Own w.drew g m f := h
theorem Own.below {w w' : World} {g m B : Nat} {f : Nat → Int} (h : Own w g m f) (hb : Below B w w') (hg : g < B) : Own w' g m f := by
  unfold Own
  rw [hb.block g hg]
  exact h
theorem Own.below' {w w' : World} {g m : Nat} {f : Nat → Int} (h : Own w g m f) (hb : Below w.heap.size w w') : Own w' g m f := h.below hb h.lt
theorem Own.congr {w : World} {g m : Nat} {f f' : Nat → Int} (h : Own w g m f) (he : ∀ i, i < m → f i = f' i) : Own w g m f' := by
  unfold Own
  rw [← row_congr m f f' he]
  exact h
theorem Rd.below {w w' : World} {b off m B : Nat} {f : Nat → Int} (h : Rd w b off m f) (hb : Below B w w') (hg : b < B) : Rd w' b off m f := fun i hi => (hb.cell (p := ⟨b, off + i, none⟩) hg).trans (h i hi)
theorem Rd.lt {w : World} {b off m : Nat} {f : Nat → Int} (h : Rd w b off m f) (hm : 0 < m) : b < w.heap.size := World.block_lt_of_cell? w ⟨b, off + 0, none⟩ (h 0 hm)

/-- What a call has kept: all blocks but those of which S holds, and new ones. -/
structure Kept (S : Nat → Prop) (w w' : World) : Prop where
  os : w'.os = w.os
  tape : w'.tape = w.tape
  output : w'.output = w.output
  size : w.heap.size ≤ w'.heap.size
  block : ∀ k, k < w.heap.size → ¬ S k → w'.heap[k]? = w.heap[k]?

theorem Kept.below {S : Nat → Prop} {w w' : World} {B : Nat} (h : Kept S w w') (hB : B ≤ w.heap.size) (hS : ∀ k, S k → B ≤ k) : Below B w w' :=
  ⟨h.os, h.tape, h.output, h.size, fun k hk => h.block k (by omega) (fun hs => by have := hS k hs; omega)⟩
theorem Kept.of_below {S : Nat → Prop} {w w' : World} (h : Below w.heap.size w w') : Kept S w w' := ⟨h.os, h.tape, h.output, h.size, fun k hk _ => h.block k hk⟩
theorem Kept.refl (S : Nat → Prop) (w : World) : Kept S w w := ⟨rfl, rfl, rfl, Nat.le_refl _, fun _ _ _ => rfl⟩
theorem Kept.trans {S : Nat → Prop} {a b c : World} (h : Kept S a b) (k : Kept S b c) : Kept S a c :=
  ⟨k.os.trans h.os, k.tape.trans h.tape, k.output.trans h.output, Nat.le_trans h.size k.size, fun i hi hs => (k.block i (by have := h.size; omega) hs).trans (h.block i hi hs)⟩
theorem Kept.setCell {S : Nat → Prop} {a w : World} (h : Kept S a w) (p : Addr) (hp : S p.block) (u : Value) : Kept S a (w.setCell p u) :=
  h.trans ⟨rfl, rfl, rfl, by simp [World.setCell], fun k hk hs => Below.heap_setCell _ _ _ _ (fun e => hs (e ▸ hp))⟩
theorem Kept.drew {S : Nat → Prop} {a w : World} (h : Kept S a w) : Kept S a w.drew := h.trans ⟨rfl, rfl, rfl, Nat.le_refl _, fun _ _ _ => rfl⟩
theorem Kept.drewN {S : Nat → Prop} {a w : World} (h : Kept S a w) (n : Nat) : Kept S a (w.drewN n) := h.trans ⟨rfl, rfl, rfl, Nat.le_refl _, fun _ _ _ => rfl⟩
theorem Kept.alloc {S : Nat → Prop} {a w : World} (h : Kept S a w) (o : Obj) : Kept S a (w.alloc o) :=
  h.trans ⟨rfl, rfl, rfl, by simp, fun k hk _ => Below.heap_alloc _ _ _ hk⟩
theorem Own.kept {S : Nat → Prop} {w w' : World} {g m : Nat} {f : Nat → Int} (h : Own w g m f) (hk : Kept S w w') (hs : ¬ S g) : Own w' g m f := by
  unfold Own
  rw [hk.block g h.lt hs]
  exact h
theorem Below.drewN' {B : Nat} {a w : World} (h : Below B a w) (n : Nat) : Below B a (w.drewN n) := h.trans ⟨rfl, rfl, rfl, Nat.le_refl _, fun _ _ => rfl⟩

end Go.Proofs.Qxb6602393a
