import Derived.Test.Qxb6602393aValid
import Derived.Test.Qxb6602393aCount
set_option linter.unusedVariables false
namespace Go.Proofs.Qxb6602393a
open Go.RowKit Plain

/-- zzRemoveDomain says yes -/
def RDom (n : Nat) (f : Nat → Int) (a1 a2 : Int) : Prop := Pw n ∧ 0 ≤ a2 ∧ a2 < (n : Int) ∧ f a2.toNat ≠ 0 ∧ V n f ∧ a1 = (cnt f n : Nat)
def DRes (D : Prop) (e : Ending) : Prop := ∃ r : Bool, e = .returned (.bool r) ∧ (r = true → D)

theorem dres_no (D : Prop) : DRes D (.returned (.bool false)) := ⟨false, rfl, fun h => Bool.noConfusion h⟩

set_option maxHeartbeats 1000000 in
theorem rdom_zero (a : Option Addr) (c : Nat) (a1 a2 : Int) (w : World) (D : Prop) :
    Calls Try.prog 8 #[.slice a 0 c, .int .i64 a1, .int .i64 a2] w fun e w' => DRes D e ∧ w' = w := by
  go_enter Try.func8, Try.ntmps8
  go_wp2
  go_ret
  exact ⟨dres_no D, rfl⟩

set_option maxHeartbeats 1000000 in
theorem rdom_any (b off n c : Nat) (f : Nat → Int) (a1 a2 : Int) (w : World) (h0 : 0 < n) (hn : n ≤ 65536) (hu : U64 n f) (h : Rd w b off n f) :
    Calls Try.prog 8 #[.slice (some ⟨b, off, none⟩) n c, .int .i64 a1, .int .i64 a2] w fun e w' => DRes (RDom n f a1 a2) e ∧ w' = w := by
  have hne : ((n : Int) == 0) = false := by simp; omega
  by_cases hp : bits .and .i64 (n : Int) ((n : Int) - 1) = 0
  · have hpw := pw_of h0 (by omega) hp
    have hpow : (bits .and .i64 (n : Int) ((n : Int) - 1) != 0) = false := by rw [hp]; rfl
    clear hp
    by_cases ha : a2 < 0
    · go_enter Try.func8, Try.ntmps8
      go_wp2
      go_ret
      exact ⟨dres_no _, rfl⟩
    · by_cases hb : a2 < (n : Int)
      · obtain ⟨s, rfl⟩ : ∃ s : Nat, a2 = (s : Int) := ⟨a2.toNat, by omega⟩
        have hs : s < n := by omega
        have hc := h s hs
        by_cases hz : f s = 0
        · have hz' : (f s == 0) = true := by simp [hz]
          clear hz
          go_enter Try.func8, Try.ntmps8
          go_wp2
          go_ret
          exact ⟨dres_no _, rfl⟩
        · have hz' : (f s == 0) = false := by simp [hz]
          have HZ : Hid (¬ f s = 0) := hz
          clear hz
          have HV := valid_any b off n c f w hpw hu h
          have HC := count_any b off n c f w (by omega) h
          have HV' : Hid (Calls Try.prog 15 #[.slice (some ⟨b, off, none⟩) n c] w fun e w' => VRes n f e ∧ w' = w) := HV
          have HC' : Hid (Calls Try.prog 16 #[.slice (some ⟨b, off, none⟩) n c] w fun e w' => e = .returned (.int .i64 (cnt f n)) ∧ w' = w) := HC
          clear HV HC
          go_enter Try.func8, Try.ntmps8
          go_wp2_with fail
          refine HV'.out.mono ?_
          rintro e w' ⟨⟨r, rfl, hr⟩, rfl⟩
          have HR : Hid (r = true ↔ V n f) := hr
          clear hr
          cases r
          · go_wp2_with fail
            go_ret
            exact ⟨dres_no _, rfl⟩
          · go_wp2_with fail
            refine HC'.out.mono ?_
            rintro e w' ⟨rfl, rfl⟩
            go_wp2_with fail
            go_ret
            refine ⟨⟨_, rfl, fun he => ⟨hpw, by omega, hb, HZ.out, HR.out.1 (by trivial), by simpa using he⟩⟩, rfl⟩
      · go_enter Try.func8, Try.ntmps8
        go_wp2
        go_ret
        exact ⟨dres_no _, rfl⟩
  · have hpow : (bits .and .i64 (n : Int) ((n : Int) - 1) != 0) = true := by simp [hp]
    clear hp
    go_enter Try.func8, Try.ntmps8
    go_wp2
    go_ret
    exact ⟨dres_no _, rfl⟩

end Go.Proofs.Qxb6602393a
