import Derived.Test.Qxb6602393aChecked
import Derived.Test.Qxb6602393aBase
set_option linter.unusedVariables false
namespace Go.Proofs.Qxb6602393a
open Go.RowKit Plain

set_option maxHeartbeats 400000 in
theorem count_any (b off n c : Nat) (f : Nat → Int) (w : World) (hn : n ≤ 1048576) (h : Rd w b off n f) :
    Calls Try.prog 16 #[.slice (some ⟨b, off, none⟩) n c] w fun e w' => e = .returned (.int .i64 (cnt f n)) ∧ w' = w := by
  go_enter Try.func16, Try.ntmps16
  go_wp2
  go_loop [3, 4] (fun t i => ∃ k : Nat, k ≤ n ∧ i = .int .i64 k ∧ t = .int .i64 (cnt f k)) (fun _ i => n - (intOf i).toNat)
  case atStart => exact ⟨0, Nat.zero_le _, rfl, rfl⟩
  case round =>
    obtain ⟨k, hk, rfl, rfl⟩ := hrel
    have hcl := cnt_le f k
    by_cases hlt : k < n
    · have hc := h k hlt
      by_cases hz : f k = 0
      · have HS : Hid (cnt f (k + 1) = cnt f k) := by show cnt f (k + 1) = _; simp only [cnt]; rw [if_pos hz]; omega
        have hz' : (f k != 0) = false := by simp [hz]
        clear hz
        go_wp2
        go_round
        case rel => exact ⟨k + 1, by omega, by go_num, by rw [HS.out]⟩
        case measure => simp [intOf]; omega
      · have HS : Hid (cnt f (k + 1) = cnt f k + 1) := by show cnt f (k + 1) = _; simp only [cnt]; rw [if_neg hz]
        have hz' : (f k != 0) = true := by simp [hz]
        clear hz
        go_wp2
        go_round
        case rel => exact ⟨k + 1, by omega, by go_num, by rw [HS.out]; go_num⟩
        case measure => simp [intOf]; omega
    · obtain rfl : k = n := by omega
      go_wp2
      go_ret
      exact ⟨rfl, rfl⟩

end Go.Proofs.Qxb6602393a
