import Derived.Test.Qxb6602393aRowlaws
set_option linter.unusedVariables false
namespace Go.Proofs.Qxb6602393a
open Go.RowKit Plain

theorem eqlNil22 (w : World) (a : Option Addr) (n c n' c' : Nat) : (binOp .eql 22 (.slice a n c) (.slice none n' c')).run Try.prog w = .ok (.bool a.isNone) w := Lib.run_eql_slice_nil w _ _ a n c n' c' Try.underlying22

def CloneRes (n : Nat) (f : Nat → Int) (w w' : World) : Prop := Own w' w.heap.size n f ∧ Below w.heap.size w w' ∧ w'.heap.size = w.heap.size + 1

set_option maxHeartbeats 400000 in
theorem clone_any (b off n c : Nat) (f : Nat → Int) (w : World) (h0 : 0 < n) (hn : n ≤ 1048576) (h : Rd w b off n f) :
    Calls Try.prog 9 #[.slice (some ⟨b, off, none⟩) n c] w fun e w' => e = .returned (.slice (some ⟨w.heap.size, 0, none⟩) n n) ∧ CloneRes n f w w' := by
  have q22 := eqlNil22
  have hb := h.lt h0
  go_enter Try.func9, Try.ntmps9
  go_wp2_with (at_make; refine make_row _ rfl _ _ rfl _ _ n n rfl rfl rfl rfl (Nat.le_refl _) (by omega) ?_; intro w1 hown hbel hsz)
  clear q22
  go_loopw [4] (fun i wr => ∃ (k : Nat) (g : Nat → Int), k ≤ n ∧ i = .int .i64 k ∧ (∀ j, j < k → g j = f j) ∧ Own wr w.heap.size n g ∧ Below w.heap.size w wr ∧ wr.heap.size = w.heap.size + 1) (fun i _ => n - (intOf i).toNat)
  case atStart => exact ⟨0, zeroF, Nat.zero_le _, rfl, fun j hj => by omega, hown, hbel, hsz⟩
  case round =>
    obtain ⟨k, g, hk, rfl, hg0, hown1, hbel1, hsz1⟩ := hrel
    have hg : Hid (∀ j, j < k → g j = f j) := hg0
    clear hg0 hown hbel
    by_cases hlt : k < n
    · have hc : wr.cell? ⟨b, off + k, none⟩ = some (.int .u64 (f k)) := (hbel1.cell (p := ⟨b, off + k, none⟩) hb).trans (h k hlt)
      have hco := hown1.cell hlt
      have hfr := hown1.frozen k
      have H1 : Hid (wr.heap.size = w.heap.size + 1) := hsz1
      clear hsz1 hsz
      go_wp2
      go_roundw
      case rel =>
        refine ⟨k + 1, upd g k (f k), by omega, by go_num, fun j hj => ?_, hown1.set k (f k), hbel1.setCell (Nat.le_refl _) _, by simp; exact H1.out⟩
        by_cases hjk : j = k
        · subst hjk; exact upd_same _ _ _
        · rw [upd_other _ _ _ _ hjk]; exact hg.out j (by omega)
      case measure => simp [intOf]; omega
    · have hkn : k = n := by omega
      subst hkn
      go_wp2
      go_ret
      exact ⟨rfl, hown1.congr hg.out, hbel1, hsz1⟩

theorem clone_nil (w : World) : Calls Try.prog 9 #[.slice none 0 0] w fun e w' => e = .returned (.slice none 0 0) ∧ w' = w := by
  have q22 := eqlNil22
  go_enter Try.func9, Try.ntmps9
  go_wp2
  go_ret
  exact ⟨rfl, rfl⟩

set_option maxHeartbeats 400000 in
theorem clone_empty (x : Addr) (c : Nat) (f : Nat → Int) (w : World) : Calls Try.prog 9 #[.slice (some x) 0 c] w fun e w' => e = .returned (.slice (some ⟨w.heap.size, 0, none⟩) 0 0) ∧ CloneRes 0 f w w' := by
  have q22 := eqlNil22
  go_enter Try.func9, Try.ntmps9
  go_wp2_with (at_make; refine make_row _ rfl _ _ rfl _ _ 0 0 rfl rfl rfl rfl (Nat.le_refl _) (by omega) ?_; intro w1 hown hbel hsz)
  clear q22
  refine wp_loop_rounds 1 ?_
  rw [rounds_succ]
  go_wp2
  go_ret
  exact ⟨rfl, hown.congr (fun i hi => by omega), hbel, hsz⟩

end Go.Proofs.Qxb6602393a
