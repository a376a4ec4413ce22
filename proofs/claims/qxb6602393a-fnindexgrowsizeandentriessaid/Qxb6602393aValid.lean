import Derived.Test.Qxb6602393aChecked
import Derived.Test.Qxb6602393aBase
import Derived.Test.Qxb6602393aBits
set_option linter.unusedVariables false
namespace Go.Proofs.Qxb6602393a
open Go.RowKit Plain

theorem rl_zero (m e : Nat) (f : Nat → Int) (k : Nat) (h : f (pos m e (k + 1)) = 0) : rl m e f (k + 1) = 0 := by simp only [rl]; rw [if_pos h]
theorem rl_next (m e : Nat) (f : Nat → Int) (k : Nat) (h : ¬ f (pos m e (k + 1)) = 0) : rl m e f (k + 1) = rl m e f k + 1 := by simp only [rl]; rw [if_neg h]

/-- what zzValid hands back: whether the table is well formed -/
def VRes (n : Nat) (f : Nat → Int) (e : Ending) : Prop := ∃ r : Bool, e = .returned (.bool r) ∧ (r = true ↔ V n f)

set_option maxHeartbeats 1000000 in
theorem valid_any (b off n c : Nat) (f : Nat → Int) (w : World) (hpw : Pw n) (hu : U64 n f) (h : Rd w b off n f) :
    Calls Try.prog 15 #[.slice (some ⟨b, off, none⟩) n c] w fun e w' => VRes n f e ∧ w' = w := by
  have h0 := hpw.pos
  have hn := hpw.le
  have hne : ((n : Int) == 0) = false := by simp; omega
  have hpow : (bits .and .i64 (n : Int) ((n : Int) - 1) != 0) = false := by rw [pw_yes hpw]; rfl
  go_enter Try.func15, Try.ntmps15
  go_wp2
  go_loop [5, 6] (fun t i => ∃ k : Nat, k ≤ n ∧ i = .int .i64 k ∧ t = .int .i64 (-1) ∧ ∀ j, j < k → f j ≠ 0) (fun _ i => n - (intOf i).toNat)
  case atStart => exact ⟨0, Nat.zero_le _, rfl, rfl, fun j hj => by omega⟩
  case round =>
    obtain ⟨k, hk, rfl, rfl, hall0⟩ := hrel
    have hall : Hid (∀ j, j < k → f j ≠ 0) := hall0
    clear hall0
    by_cases hlt : k < n
    · have hc := h k hlt
      by_cases hz : f k = 0
      · have HZ : Hid (f k = 0) := hz
        have hz' : (f k == 0) = true := by simp [hz]
        clear hz hall
        have hle : (k : Int) ≤ 1048576 := by omega
        go_wp2
        go_loop [7, 8] (fun t i => ∃ q : Nat, q ≤ n ∧ i = .int .i64 ((q : Int) + 1) ∧ t = .int .i64 (rl n k f q) ∧ ∀ j, 1 ≤ j → j ≤ q → Ok n k f j) (fun _ i => n + 1 - (intOf i).toNat)
        case atStart => exact ⟨0, Nat.zero_le _, rfl, rfl, fun j h1 h2 => by omega⟩
        case round =>
          obtain ⟨q, hq, rfl, rfl, hok0⟩ := hrel
          have hok : Hid (∀ j, 1 ≤ j → j ≤ q → Ok n k f j) := hok0
          clear hok0
          have hrl := rl_le n k f q
          by_cases hlt2 : q < n
          · obtain ⟨p, hpe⟩ : ∃ p, p = pos n k (q + 1) := ⟨_, rfl⟩
            have hp : p < n := by rw [hpe]; exact pos_lt n k (q + 1) hlt (by omega)
            have hb1 : bits .and .i64 ((k : Int) + ((q : Int) + 1)) ((n : Int) - 1) = (p : Int) := by
              rw [hpe]; exact mask_pos hpw k (q + 1) hlt (by omega)
            have HP : Hid (p = pos n k (q + 1)) := hpe
            clear hpe
            have hcp := h p hp
            have hup := hu p hp
            have hcz := hc
            clear hc
            by_cases hzp : f p = 0
            · have HZP : Hid (rl n k f (q + 1) = 0 ∧ Ok n k f (q + 1)) := ⟨rl_zero n k f q (by rw [← HP.out]; exact hzp), fun hne => absurd (by rw [← HP.out]; exact hzp) hne⟩
              have hzp' : (f p == 0) = true := by simp [hzp]
              clear hzp
              go_wp2
              go_round
              case rel => exact ⟨q + 1, by omega, by go_num, by rw [HZP.out.1]; rfl, fun j h1 h2 => by
                            by_cases hj : j = q + 1
                            · subst hj; exact HZP.out.2
                            · exact hok.out j h1 (by omega)⟩
              case measure => simp [intOf]; omega
            · have hzp' : (f p == 0) = false := by simp [hzp]
              have HR : Hid (rl n k f (q + 1) = rl n k f q + 1) := rl_next n k f q (by rw [← HP.out]; exact hzp)
              obtain ⟨a, hae⟩ : ∃ a, a = hm n (f p) := ⟨_, rfl⟩
              have ha : a < n := by rw [hae]; exact hm_lt n _ h0
              have hb2 : bits .and .i64 (f p / 4294967296) ((n : Int) - 1) = (a : Int) := by rw [hae]; exact mask_hm hpw _ hup.1
              have HA : Hid (a = hm n (f p)) := hae
              clear hae
              obtain ⟨d, hde⟩ : ∃ d, d = dst n a p := ⟨_, rfl⟩
              have hd : d < n := by rw [hde]; exact dst_lt n _ _ ha hp
              have hb3 : bits .and .i64 ((p : Int) - (a : Int)) ((n : Int) - 1) = (d : Int) := by rw [hde]; exact mask_dst hpw _ _ ha hp
              have HD : Hid (d = dst n a p) := hde
              have HNZ : Hid (¬ f p = 0) := hzp
              clear hde hzp
              by_cases htest : rl n k f q + 1 ≤ d
              · go_wp2
                go_ret
                exact ⟨⟨false, rfl, ⟨fun hf => Bool.noConfusion hf, fun hv => absurd hv (valid_no n k f hlt HZ.out (q + 1) (by omega) (by omega) (fun ok => by
                  have := ok (by rw [← HP.out]; exact HNZ.out)
                  rw [← HP.out, ← HA.out, ← HD.out, HR.out] at this
                  omega))⟩⟩, rfl⟩
              · go_wp2
                go_round
                case rel => exact ⟨q + 1, by omega, by go_num, by rw [HR.out]; go_num, fun j h1 h2 => by
                              by_cases hj : j = q + 1
                              · subst hj; intro _; rw [← HP.out, ← HA.out, ← HD.out, HR.out]; omega
                              · exact hok.out j h1 (by omega)⟩
                case measure => simp [intOf]; omega
          · go_wp2
            go_ret
            exact ⟨⟨true, rfl, ⟨fun _ => valid_yes n k f hlt HZ.out (fun j h1 h2 => hok.out j h1 (by omega)), fun _ => rfl⟩⟩, rfl⟩
      · have HZ : Hid (¬ f k = 0) := hz
        have hz' : (f k == 0) = false := by simp [hz]
        clear hz
        go_wp2
        go_round
        case rel => exact ⟨k + 1, by omega, by go_num, rfl, fun j hj => by
                      by_cases hjk : j = k
                      · subst hjk; exact HZ.out
                      · exact hall.out j (by omega)⟩
        case measure => simp [intOf]; omega
    · go_wp2
      go_ret
      exact ⟨⟨false, rfl, ⟨fun hf => Bool.noConfusion hf, fun hv => absurd hv (valid_full n f (fun j hj => hall.out j (by omega)))⟩⟩, rfl⟩

end Go.Proofs.Qxb6602393a
