import Derived.Test.Qxb6602393aRowlaws
set_option linter.unusedVariables false
namespace Go.Proofs.Qxb6602393a
open Go.RowKit Plain

theorem bytes7_no (a : Option Addr) (n c : Nat) (a1 a2 : Int) (w : World) (h : 1048576 < n) (hm : n ≤ 9223372036854775807) : Calls Try.prog 7 #[.slice a n c, .int .i64 a1, .int .i64 a2] w fun e w' => e = .returned (.bool false) ∧ w' = w := by
  have hi : (1048576 : Int) < (n : Int) := by omega
  go_enter Try.func7, Try.ntmps7
  go_wp2
  go_ret
  exact ⟨rfl, rfl⟩
theorem bytes7_yes (a : Option Addr) (n c : Nat) (a1 a2 : Int) (w : World) (h : n ≤ 1048576) : Calls Try.prog 7 #[.slice a n c, .int .i64 a1, .int .i64 a2] w fun e w' => e = .returned (.bool true) ∧ w' = w := by
  go_enter Try.func7, Try.ntmps7
  go_wp2
  go_ret
  exact ⟨rfl, rfl⟩
theorem bytes13_no (a : Option Addr) (n c : Nat) (a1 a2 : Int) (w : World) (h : 1048576 < n) (hm : n ≤ 9223372036854775807) : Calls Try.prog 13 #[.slice a n c, .int .i64 a1, .int .i64 a2] w fun e w' => e = .returned (.bool false) ∧ w' = w := by
  have hi : (1048576 : Int) < (n : Int) := by omega
  go_enter Try.func13, Try.ntmps13
  go_wp2
  go_ret
  exact ⟨rfl, rfl⟩
theorem bytes13_yes (a : Option Addr) (n c : Nat) (a1 a2 : Int) (w : World) (h : n ≤ 1048576) : Calls Try.prog 13 #[.slice a n c, .int .i64 a1, .int .i64 a2] w fun e w' => e = .returned (.bool true) ∧ w' = w := by
  go_enter Try.func13, Try.ntmps13
  go_wp2
  go_ret
  exact ⟨rfl, rfl⟩
theorem bytes17_no (a : Option Addr) (n c : Nat) (a1 a2 : Int) (w : World) (h : 1048576 < n) (hm : n ≤ 9223372036854775807) : Calls Try.prog 17 #[.slice a n c, .int .i64 a1, .int .i64 a2] w fun e w' => e = .returned (.bool false) ∧ w' = w := by
  have hi : (1048576 : Int) < (n : Int) := by omega
  go_enter Try.func17, Try.ntmps17
  go_wp2
  go_ret
  exact ⟨rfl, rfl⟩
theorem bytes17_yes (a : Option Addr) (n c : Nat) (a1 a2 : Int) (w : World) (h : n ≤ 1048576) : Calls Try.prog 17 #[.slice a n c, .int .i64 a1, .int .i64 a2] w fun e w' => e = .returned (.bool true) ∧ w' = w := by
  go_enter Try.func17, Try.ntmps17
  go_wp2
  go_ret
  exact ⟨rfl, rfl⟩
theorem bytes21_no (a : Option Addr) (n c : Nat) (a1 a2 a3 : Int) (w : World) (h : 1048576 < n) (hm : n ≤ 9223372036854775807) : Calls Try.prog 21 #[.slice a n c, .int .i64 a1, .int .i64 a2, .int .i64 a3] w fun e w' => e = .returned (.bool false) ∧ w' = w := by
  have hi : (1048576 : Int) < (n : Int) := by omega
  go_enter Try.func21, Try.ntmps21
  go_wp2
  go_ret
  exact ⟨rfl, rfl⟩
theorem bytes21_yes (a : Option Addr) (n c : Nat) (a1 a2 a3 : Int) (w : World) (h : n ≤ 1048576) : Calls Try.prog 21 #[.slice a n c, .int .i64 a1, .int .i64 a2, .int .i64 a3] w fun e w' => e = .returned (.bool true) ∧ w' = w := by
  go_enter Try.func21, Try.ntmps21
  go_wp2
  go_ret
  exact ⟨rfl, rfl⟩

end Go.Proofs.Qxb6602393a
