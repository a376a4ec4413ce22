import Derived.Test.Qxb6602393aRowlaws
set_option linter.unusedVariables false
namespace Go.Proofs.Qxb6602393a
open Go.RowKit Plain

set_option maxHeartbeats 400000 in
theorem equal_any (b1 o1 c1 b2 o2 c2 n : Nat) (f g : Nat → Int) (w : World) (h0 : 0 < n) (hn : n ≤ 1048576) (h1 : Rd w b1 o1 n f) (h2 : Rd w b2 o2 n g) (heq : ∀ i, i < n → f i = g i) :
    Calls Try.prog 12 #[.slice (some ⟨b1, o1, none⟩) n c1, .slice (some ⟨b2, o2, none⟩) n c2] w fun e w' => e = .returned (.bool true) ∧ Below w.heap.size w w' := by
  have hb1 := h1.lt h0
  have hb2 := h2.lt h0
  go_enter Try.func12, Try.ntmps12
  go_wp2
  go_loopw [5] (fun i wr => ∃ k : Nat, k ≤ n ∧ i = .int .i64 k ∧ Below w.heap.size w wr) (fun i _ => n - (intOf i).toNat)
  case atStart => exact ⟨0, Nat.zero_le _, rfl, Below.refl _ _⟩
  case round =>
    obtain ⟨k, hk, rfl, hbel⟩ := hrel
    by_cases hlt : k < n
    · have hc1 : wr.cell? ⟨b1, o1 + k, none⟩ = some (.int .u64 (f k)) := (hbel.cell (p := ⟨b1, o1 + k, none⟩) hb1).trans (h1 k hlt)
      have hc2 : wr.cell? ⟨b2, o2 + k, none⟩ = some (.int .u64 (f k)) := by rw [heq k hlt]; exact (hbel.cell (p := ⟨b2, o2 + k, none⟩) hb2).trans (h2 k hlt)
      have hi : (k : Int) < (n : Int) := by omega
      have hi0 : (0 : Int) ≤ (k : Int) := by omega
      have hne : (f k != f k) = false := by simp
      clear heq h1 h2
      go_wp2
      go_quiet (fail)
      go_wp2
      go_roundw
      case rel => exact ⟨k + 1, by omega, by go_num, Below.drewN' hbel _⟩
      case measure => simp [intOf]; omega
    · go_wp2
      go_ret
      exact ⟨rfl, hbel⟩

set_option maxHeartbeats 400000 in
theorem equal_zero (a1 a2 : Option Addr) (c1 c2 : Nat) (w : World) :
    Calls Try.prog 12 #[.slice a1 0 c1, .slice a2 0 c2] w fun e w' => e = .returned (.bool true) ∧ Below w.heap.size w w' := by
  go_enter Try.func12, Try.ntmps12
  go_wp2
  refine wp_loop_rounds 1 ?_
  rw [rounds_succ]
  go_wp2
  go_ret
  exact ⟨rfl, Below.refl _ _⟩

end Go.Proofs.Qxb6602393a
