import Derived.Test.Qxb6602393aRowlaws
import Derived.Test.Qxb6602393aPlain4
set_option linter.unusedVariables false
namespace Go.Proofs.Qxb6602393a
open Go.RowKit Plain

set_option maxHeartbeats 400000 in
theorem gsize_any (m need E : Nat) (w : World) (hm : m ≤ 1048576) (hn : need ≤ 131072) (hE3 : 3 ≤ E) (hE : E ≤ 18) (h1 : 4 * need ≤ 3 * 2 ^ E) (h2 : ∀ x, 3 ≤ x → x < E → 3 * 2 ^ x < 4 * need) :
    Calls Try.prog 19 #[.int .i64 (m : Nat), .int .i64 (need : Nat)] w fun e w' => e = .returned (.int .i64 (max m (2 ^ E) : Nat)) ∧ w' = w := by
  have H : Hid (4 * need ≤ 3 * 2 ^ E ∧ ∀ x, 3 ≤ x → x < E → 3 * 2 ^ x < 4 * need) := ⟨h1, h2⟩
  clear h1 h2
  go_enter Try.func19, Try.ntmps19
  go_wp2
  go_loopg [5] (E - 3) (fun gk ev wr => ∃ x : Nat, 3 ≤ x ∧ x ≤ E ∧ gk = E - x ∧ ev = .int .i64 (x : Nat) ∧ wr = w)
  case atStart => exact ⟨3, Nat.le_refl _, hE3, rfl, rfl, rfl⟩
  case round =>
    obtain ⟨x, hx3, hxE, hgk, rfl, hwr⟩ := hrel
    subst hwr
    have HG : Hid (gk = E - x) := hgk
    clear hgk
    obtain ⟨q, hq⟩ : ∃ q : Nat, q = 2 ^ x := ⟨_, rfl⟩
    have hr : (2 : Int) ^ x = (q : Int) := by rw [hq]; simp
    have hqb : q ≤ 262144 := by
      rw [hq]; exact (Nat.pow_le_pow_right (by decide) (by omega) : 2 ^ x ≤ 2 ^ 18)
    by_cases hlt : x < E
    · have hc : 3 * q < 4 * need := by rw [hq]; exact H.out.2 x hx3 hlt
      clear hq
      go_wp2
      go_roundg (E - (x + 1))
      case measure => have := HG.out; omega
      case rel => exact ⟨x + 1, by omega, by omega, rfl, by go_num, rfl⟩
    · have hxe : x = E := by omega
      have hc : 4 * need ≤ 3 * q := by rw [hq, hxe]; exact H.out.1
      have HQ : Hid (2 ^ E = q) := by show 2 ^ E = q; rw [hq, hxe]
      clear hq hxe
      by_cases hmq : q < m
      · go_wp2
        go_ret
        exact ⟨by rw [HQ.out, Nat.max_eq_left (by omega)]; rfl, rfl⟩
      · go_wp2
        go_ret
        exact ⟨by rw [HQ.out, Nat.max_eq_right (by omega)]; rfl, rfl⟩

end Go.Proofs.Qxb6602393a
