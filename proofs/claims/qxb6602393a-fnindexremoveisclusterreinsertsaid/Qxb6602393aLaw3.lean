import Derived.Test.Qxb6602393aBytes
import Derived.Test.Qxb6602393aDomain
import Derived.Test.Qxb6602393aEqual
import Derived.Test.Qxb6602393aModel
import Derived.Test.Qxb6602393aZRemove
set_option linter.unusedVariables false
namespace Go.Proofs.Qxb6602393a
open Go.RowKit Plain

theorem law3_big (a : Option Addr) (n c : Nat) (a1 a2 : Int) (w : World) (h : 65536 < n) (hm : n ≤ 9223372036854775807) :
    Calls Try.prog 3 #[.slice a n c, .int .i64 a1, .int .i64 a2] w fun e w' => e = .returned (.bool true) ∧ Below w.heap.size w w' := by
  have hi : (65536 : Int) < (n : Int) := by omega
  by_cases hb : 1048576 < n
  · have HB : Hid (Calls Try.prog 7 #[.slice a n c, .int .i64 a1, .int .i64 a2] w fun e w' => e = .returned (.bool false) ∧ w' = w) := bytes7_no a n c a1 a2 w hb hm
    go_enter Try.func3, Try.ntmps3
    go_wp2_with fail
    refine HB.out.mono ?_
    rintro e w' ⟨rfl, rfl⟩
    go_wp2_with fail
    go_ret
    exact ⟨rfl, Below.refl _ _⟩
  · have HB : Hid (Calls Try.prog 7 #[.slice a n c, .int .i64 a1, .int .i64 a2] w fun e w' => e = .returned (.bool true) ∧ w' = w) := bytes7_yes a n c a1 a2 w (by omega)
    go_enter Try.func3, Try.ntmps3
    go_wp2_with fail
    refine HB.out.mono ?_
    rintro e w' ⟨rfl, rfl⟩
    go_wp2_with fail
    go_ret
    exact ⟨rfl, Below.refl _ _⟩

theorem law3_zero (a : Option Addr) (c : Nat) (a1 a2 : Int) (w : World) :
    Calls Try.prog 3 #[.slice a 0 c, .int .i64 a1, .int .i64 a2] w fun e w' => e = .returned (.bool true) ∧ Below w.heap.size w w' := by
  have HB : Hid (Calls Try.prog 7 #[.slice a 0 c, .int .i64 a1, .int .i64 a2] w fun e w' => e = .returned (.bool true) ∧ w' = w) := bytes7_yes a 0 c a1 a2 w (by omega)
  have HD : Hid (Calls Try.prog 8 #[.slice a 0 c, .int .i64 a1, .int .i64 a2] w fun e w' => DRes False e ∧ w' = w) := rdom_zero a c a1 a2 w False
  go_enter Try.func3, Try.ntmps3
  go_wp2_with fail
  refine HB.out.mono ?_
  rintro e w' ⟨rfl, rfl⟩
  go_wp2_with fail
  refine HD.out.mono ?_
  rintro e w' ⟨⟨r, rfl, hr⟩, rfl⟩
  cases r
  · go_wp2_with fail
    go_ret
    exact ⟨rfl, Below.refl _ _⟩
  · exact absurd rfl hr

set_option maxHeartbeats 1000000 in
theorem law3_any (b off n c : Nat) (f : Nat → Int) (a1 a2 : Int) (w : World) (h0 : 0 < n) (hn : n ≤ 65536) (hu : U64 n f) (h : Rd w b off n f) :
    Calls Try.prog 3 #[.slice (some ⟨b, off, none⟩) n c, .int .i64 a1, .int .i64 a2] w fun e w' => e = .returned (.bool true) ∧ Below w.heap.size w w' := by
  have HB : Hid (Calls Try.prog 7 #[.slice (some ⟨b, off, none⟩) n c, .int .i64 a1, .int .i64 a2] w fun e w' => e = .returned (.bool true) ∧ w' = w) := bytes7_yes _ n c a1 a2 w (by omega)
  have HD : Hid (Calls Try.prog 8 #[.slice (some ⟨b, off, none⟩) n c, .int .i64 a1, .int .i64 a2] w fun e w' => DRes (RDom n f a1 a2) e ∧ w' = w) := rdom_any b off n c f a1 a2 w h0 hn hu h
  have HC : Hid (Calls Try.prog 9 #[.slice (some ⟨b, off, none⟩) n c] w fun e w' => e = .returned (.slice (some ⟨w.heap.size, 0, none⟩) n n) ∧ CloneRes n f w w') := clone_any b off n c f w h0 (by omega) h
  clear h
  go_enter Try.func3, Try.ntmps3
  go_wp2_with fail
  refine HB.out.mono ?_
  rintro e w' ⟨rfl, rfl⟩
  go_wp2_with fail
  refine HD.out.mono ?_
  rintro e w' ⟨⟨r, rfl, hr⟩, rfl⟩
  cases r
  · go_wp2_with fail
    go_ret
    exact ⟨rfl, Below.refl _ _⟩
  · obtain ⟨hpw, hs0, hs1, hne, hv, hcnt⟩ := hr rfl
    obtain ⟨ex, s, t, R, hsl⟩ := run_of n f hv a2.toNat (by omega) hne
    have ha2 : a2 = ((pos n ex s : Nat) : Int) := by omega
    have hc1 := empty_cnt_lt f n ex R.he R.h0
    have hc2 := cnt_upd_zero f (pos n ex s) n (by omega) (by rw [← hsl]; exact hne)
    obtain ⟨nn, hnn⟩ : ∃ nn : Int, nn = a1 := ⟨_, rfl⟩
    have hn1 : 1 ≤ a1 := by omega
    have hn2 : a1 ≤ 1048576 := by omega
    subst ha2
    clear hnn nn hcnt hc1 hc2 hne hsl hv hr HB HD hs0 hs1
    go_wp2_with fail
    refine HC.out.mono ?_
    rintro e w1 ⟨rfl, hown, hbel, hsz⟩
    clear HC
    have hB : w'.heap.size < w1.heap.size := by omega
    clear hsz
    go_wp2_with fail
    refine (model_any w'.heap.size n n ex s t f w1 R hpw hu hown).mono ?_
    rintro e w2 ⟨rfl, hown2, hbel2⟩
    have hown1 := hown.below' hbel2
    go_wp2_with fail
    refine (zremove_any w'.heap.size n n a1 ex s t f w2 R hpw hu hown1 hn1 hn2).mono ?_
    rintro e w3 ⟨rfl, hown3, hk3⟩
    have hown4 := hown2.kept hk3 (by omega)
    have hne2 : (a1 - 1 != a1 - 1) = false := by simp
    go_wp2_with fail
    refine (equal_any _ 0 n _ 0 n n _ _ w3 h0 (by omega) hown3.rd hown4.rd (fun i _ => rfl)).mono ?_
    rintro e w4 ⟨rfl, hbel4⟩
    go_wp2_with fail
    go_ret
    have hs2 := hbel2.size
    have hs3 := hk3.size
    exact ⟨rfl, ((hbel.trans (hbel2.mono (by omega))).trans (hk3.below (by omega) (fun k hk => by omega))).trans (hbel4.mono (by omega))⟩

end Go.Proofs.Qxb6602393a
