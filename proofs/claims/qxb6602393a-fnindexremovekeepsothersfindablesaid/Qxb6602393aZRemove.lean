import Derived.Test.Qxb6602393aRemove
set_option linter.unusedVariables false
namespace Go.Proofs.Qxb6602393a
open Go.RowKit Plain

theorem Kept.new {w w1 w2 : World} {g : Nat} (h1 : Kept (fun i => i = g) w w1) (h2 : Kept (fun i => i = g ∨ i = w.heap.size) w1 w2) : Kept (fun i => i = g) w w2 :=
  ⟨h2.os.trans h1.os, h2.tape.trans h1.tape, h2.output.trans h1.output, Nat.le_trans h1.size h2.size, fun k hk hne => (h2.block k (by have := h1.size; omega) (fun h => by
    rcases h with h | h
    · exact hne h
    · omega)).trans (h1.block k hk hne)⟩

def ZRem (g m : Nat) (F : Nat → Int) (w w' : World) : Prop := Own w' g m F ∧ Kept (fun i => i = g) w w'

set_option maxHeartbeats 1000000 in
theorem zremove_any (g m c : Nat) (nn : Int) (e s t : Nat) (f : Nat → Int) (w : World) (R : Run m e f s t) (hpw : Pw m) (hu : U64 m f) (hg : Own w g m f) (hn1 : 1 ≤ nn) (hn2 : nn ≤ 1048576) :
    Calls Try.prog 11 #[.slice (some ⟨g, 0, none⟩) m c, .int .i64 nn, .int .i64 (pos m e s : Nat)] w fun en w' => en = .returned (.tuple #[.slice (some ⟨g, 0, none⟩) m c, .int .i64 (nn - 1)]) ∧ ZRem g m (tab m e f s (t - 1 - s)) w w' := by
  have hgl := hg.lt
  have hX : Hid (IsX (w.alloc (.cells #[.slice (some ⟨g, 0, none⟩) m c, .int .i64 nn] 39)) w.heap.size g m c nn) := heap_alloc_new w _
  have hO : Hid (Own (w.alloc (.cells #[.slice (some ⟨g, 0, none⟩) m c, .int .i64 nn] 39)) g m f) := hg.alloc _
  have HR : Hid (Run m e f s t) := R
  have HK : Hid (Kept (fun i => i = g) w (w.alloc (.cells #[.slice (some ⟨g, 0, none⟩) m c, .int .i64 nn] 39))) := (Kept.refl _ _).alloc _
  clear hg R
  go_enter Try.func11, Try.ntmps11
  go_wp2_with fail
  refine (remove_any w.heap.size g m c nn e s t f _ HR.out hpw hu hX.out hO.out (by omega) hn1 hn2).mono ?_
  rintro en w1 ⟨rfl, hown, hx, hk, hsz⟩
  have hx0 := hx.cell0
  have hx1 := hx.cell1
  have H1 : Hid (Kept (fun i => i = g ∨ i = w.heap.size) (w.alloc (.cells #[.slice (some ⟨g, 0, none⟩) m c, .int .i64 nn] 39)) w1) := hk
  clear hk hsz hx hX hO
  go_wp2
  go_quiet (fail)
  go_wp2
  go_ret2
  exact ⟨rfl, hown, (Kept.new HK.out H1.out).drewN _⟩

end Go.Proofs.Qxb6602393a
