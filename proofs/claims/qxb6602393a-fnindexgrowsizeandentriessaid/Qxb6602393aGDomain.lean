import Derived.Test.Qxb6602393aDomain
set_option linter.unusedVariables false
namespace Go.Proofs.Qxb6602393a
open Go.RowKit Plain

/-- zzGrowDomain says yes -/
def GDom (n : Nat) (f : Nat → Int) (a1 : Int) : Prop := Pw n ∧ 8 ≤ n ∧ V n f ∧ a1 = (cnt f n : Nat)

set_option maxHeartbeats 1000000 in
theorem gdom_zero (a : Option Addr) (c : Nat) (a1 : Int) (w : World) :
    Calls Try.prog 18 #[.slice a 0 c, .int .i64 a1] w fun e w' => DRes (a1 = 0) e ∧ w' = w := by
  go_enter Try.func18, Try.ntmps18
  go_wp2
  go_ret
  exact ⟨⟨_, rfl, fun h => by simpa using h⟩, rfl⟩

set_option maxHeartbeats 1000000 in
theorem gdom_any (b off n c : Nat) (f : Nat → Int) (a1 : Int) (w : World) (h0 : 0 < n) (hn : n ≤ 65536) (hu : U64 n f) (h : Rd w b off n f) :
    Calls Try.prog 18 #[.slice (some ⟨b, off, none⟩) n c, .int .i64 a1] w fun e w' => DRes (GDom n f a1) e ∧ w' = w := by
  have hne : ((n : Int) == 0) = false := by simp; omega
  by_cases hp : bits .and .i64 (n : Int) ((n : Int) - 1) = 0
  · have hpw := pw_of h0 (by omega) hp
    have hpow : (bits .and .i64 (n : Int) ((n : Int) - 1) != 0) = false := by rw [hp]; rfl
    clear hp
    by_cases h8 : n < 8
    · go_enter Try.func18, Try.ntmps18
      go_wp2
      go_ret
      exact ⟨dres_no _, rfl⟩
    · have h8' : 8 ≤ n := by omega
      have HV' : Hid (Calls Try.prog 15 #[.slice (some ⟨b, off, none⟩) n c] w fun e w' => VRes n f e ∧ w' = w) := valid_any b off n c f w hpw hu h
      have HC' : Hid (Calls Try.prog 16 #[.slice (some ⟨b, off, none⟩) n c] w fun e w' => e = .returned (.int .i64 (cnt f n)) ∧ w' = w) := count_any b off n c f w (by omega) h
      go_enter Try.func18, Try.ntmps18
      go_wp2_with fail
      refine HV'.out.mono ?_
      rintro e w' ⟨⟨r, rfl, hr⟩, rfl⟩
      have HR : Hid (r = true ↔ V n f) := hr
      clear hr
      cases r
      · go_wp2_with fail
        go_ret
        exact ⟨dres_no _, rfl⟩
      · go_wp2_with fail
        refine HC'.out.mono ?_
        rintro e w' ⟨rfl, rfl⟩
        go_wp2_with fail
        go_ret
        refine ⟨⟨_, rfl, fun he => ⟨hpw, h8', HR.out.1 (by trivial), by simpa using he⟩⟩, rfl⟩
  · have hpow : (bits .and .i64 (n : Int) ((n : Int) - 1) != 0) = true := by simp [hp]
    clear hp
    go_enter Try.func18, Try.ntmps18
    go_wp2
    go_ret
    exact ⟨dres_no _, rfl⟩

end Go.Proofs.Qxb6602393a
