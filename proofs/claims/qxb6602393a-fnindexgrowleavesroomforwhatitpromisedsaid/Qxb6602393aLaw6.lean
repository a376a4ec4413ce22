import Derived.Test.Qxb6602393aGBase
import Derived.Test.Qxb6602393aBytes
import Derived.Test.Qxb6602393aEqual
set_option linter.unusedVariables false
namespace Go.Proofs.Qxb6602393a
open Go.RowKit Plain

theorem law6_big (a : Option Addr) (n c : Nat) (a1 a2 a3 : Int) (w : World) (h : 65536 < n) (hm : n ≤ 9223372036854775807) :
    Calls Try.prog 6 #[.slice a n c, .int .i64 a1, .int .i64 a2, .int .i64 a3] w fun e w' => e = .returned (.bool true) ∧ Below w.heap.size w w' := by
  have hi : (65536 : Int) < (n : Int) := by omega
  by_cases hb : 1048576 < n
  · have HB : Hid (Calls Try.prog 21 #[.slice a n c, .int .i64 a1, .int .i64 a2, .int .i64 a3] w fun e w' => e = .returned (.bool false) ∧ w' = w) := bytes21_no a n c a1 a2 a3 w hb hm
    go_enter Try.func6, Try.ntmps6
    go_wp2_with fail
    refine HB.out.mono ?_
    rintro e w' ⟨rfl, rfl⟩
    go_wp2_with fail
    go_ret
    exact ⟨rfl, Below.refl _ _⟩
  · have HB : Hid (Calls Try.prog 21 #[.slice a n c, .int .i64 a1, .int .i64 a2, .int .i64 a3] w fun e w' => e = .returned (.bool true) ∧ w' = w) := bytes21_yes a n c a1 a2 a3 w (by omega)
    go_enter Try.func6, Try.ntmps6
    go_wp2_with fail
    refine HB.out.mono ?_
    rintro e w' ⟨rfl, rfl⟩
    go_wp2_with fail
    go_ret
    exact ⟨rfl, Below.refl _ _⟩

/-- 'more' or k out of range -/
theorem law6_out (a : Option Addr) (n c : Nat) (a1 a2 a3 : Int) (w : World) (h : n ≤ 65536) (ho : a2 < 0 ∨ 65536 < a2 ∨ a3 < 0 ∨ a2 < a3) :
    Calls Try.prog 6 #[.slice a n c, .int .i64 a1, .int .i64 a2, .int .i64 a3] w fun e w' => e = .returned (.bool true) ∧ Below w.heap.size w w' := by
  have HB : Hid (Calls Try.prog 21 #[.slice a n c, .int .i64 a1, .int .i64 a2, .int .i64 a3] w fun e w' => e = .returned (.bool true) ∧ w' = w) := bytes21_yes a n c a1 a2 a3 w (by omega)
  by_cases h1 : a2 < 0
  · clear ho
    go_enter Try.func6, Try.ntmps6
    go_wp2_with fail
    refine HB.out.mono ?_
    rintro e w' ⟨rfl, rfl⟩
    go_wp2_with fail
    go_ret
    exact ⟨rfl, Below.refl _ _⟩
  · by_cases h2 : 65536 < a2
    · clear ho
      go_enter Try.func6, Try.ntmps6
      go_wp2_with fail
      refine HB.out.mono ?_
      rintro e w' ⟨rfl, rfl⟩
      go_wp2_with fail
      go_ret
      exact ⟨rfl, Below.refl _ _⟩
    · by_cases h3 : a3 < 0
      · clear ho
        go_enter Try.func6, Try.ntmps6
        go_wp2_with fail
        refine HB.out.mono ?_
        rintro e w' ⟨rfl, rfl⟩
        go_wp2_with fail
        go_ret
        exact ⟨rfl, Below.refl _ _⟩
      · have h4 : a2 < a3 := by omega
        clear ho
        go_enter Try.func6, Try.ntmps6
        go_wp2_with fail
        refine HB.out.mono ?_
        rintro e w' ⟨rfl, rfl⟩
        go_wp2_with fail
        go_ret
        exact ⟨rfl, Below.refl _ _⟩

set_option maxHeartbeats 2000000 in
theorem law6_in (a : Option Addr) (n c : Nat) (f : Nat → Int) (a1 : Int) (mo k : Nat) (w : World) (hn : n ≤ 65536) (hmo : mo ≤ 65536) (hk : k ≤ mo) (hu : U64 n f) (h : Inp w a n c f) :
    Calls Try.prog 6 #[.slice a n c, .int .i64 a1, .int .i64 (mo : Nat), .int .i64 (k : Nat)] w fun e w' => e = .returned (.bool true) ∧ Below w.heap.size w w' := by
  have HB : Hid (Calls Try.prog 21 #[.slice a n c, .int .i64 a1, .int .i64 (mo : Nat), .int .i64 (k : Nat)] w fun e w' => e = .returned (.bool true) ∧ w' = w) := bytes21_yes a n c a1 _ _ w (by omega)
  have HD : Hid (Calls Try.prog 18 #[.slice a n c, .int .i64 a1] w fun e w' => DRes (GD n f a1) e ∧ w' = w) := gdom_all a n c f a1 w hn hu h
  have HC : Hid (Calls Try.prog 9 #[.slice a n c] w fun e w' => ClRes n f w e w') := clone_all a n c f w (by omega) h
  clear h
  go_enter Try.func6, Try.ntmps6
  go_wp2_with fail
  refine HB.out.mono ?_
  rintro e w' ⟨rfl, rfl⟩
  clear HB
  go_wp2_with fail
  refine HD.out.mono ?_
  rintro e w' ⟨⟨r, rfl, hr⟩, rfl⟩
  clear HD
  cases r
  · go_wp2_with fail
    go_ret
    exact ⟨rfl, Below.refl _ _⟩
  · obtain ⟨hsz, hcnt⟩ := hr rfl
    obtain ⟨nn, hnn⟩ : ∃ nn, nn = cnt f n := ⟨_, rfl⟩
    have ha1 : a1 = ((nn : Nat) : Int) := by rw [hcnt, hnn]
    subst ha1
    have hsz' : n = 0 ∨ (Pw n ∧ 8 ≤ n) := by rcases hsz with h | h; exact .inl h; exact .inr ⟨h.1, h.2.1⟩
    have hcl := cnt_le f n
    have hnl : nn ≤ 65536 := by omega
    obtain ⟨M, hM⟩ := size_ex (max n 8) (nn + mo) (by omega)
    have hpM := pw_size hsz' hn (by omega) hM
    have hML := hpM.le
    have h8 : 8 ≤ M := by have := hM.ge; omega
    have hroom : 4 * (nn + mo) ≤ 3 * M := by obtain ⟨_, _, h4, _⟩ := hM; exact h4
    have HG : Hid (∀ wx a' c', Slots wx a' n c' f → Calls Try.prog 20 #[.slice a' n c', .int .i64 (nn : Nat), .int .i64 (mo : Nat)] wx fun e w' => ZOut M n nn f wx e w') :=
      fun wx a' c' hs => zgrow_any a' n c' nn mo M f wx hs hsz' hn hu hM hnn hmo
    clear hcl hnn hcnt hsz hsz' hM hr hu
    go_wp2_with fail
    refine HC.out.mono ?_
    rintro e w1 ⟨a1', c1', rfl, hs1, hb1⟩
    clear HC
    go_wp2_with fail
    refine (HG.out w1 a1' c1' hs1).mono ?_
    rintro e w2 ⟨g, F, rfl, hO, _, hb2⟩
    have hbA : Below w'.heap.size w' w2 := hb1.trans (hb2.mono hb1.size)
    have hne1 : ((nn : Int) != (nn : Int)) = false := by simp
    clear HG hs1 hb1 hb2
    go_wp2_with fail
    refine (clone_any g 0 M M F w2 (by omega) hML hO.rd).mono ?_
    rintro e w3 ⟨rfl, hO3, hb3, _⟩
    have hO2 := hO.below' hb3
    have hbB : Below w'.heap.size w' w3 := hbA.trans (hb3.mono hbA.size)
    go_wp2_with fail
    refine (zgrow_same M M nn k (some ⟨g, 0, none⟩) w3 h8 hML (by omega) (by omega) (by omega)).mono ?_
    rintro e w4 ⟨rfl, hb4⟩
    have hO4 := hO2.below' hb4
    have hO5 := hO3.below' hb4
    have hbC : Below w'.heap.size w' w4 := hbB.trans (hb4.mono hbB.size)
    have heq : ((nn : Int) == (nn : Int)) = true := by simp
    clear hO hO2 hO3 hbA hbB hb3 hb4 hne1
    go_wp2_with fail
    refine (equal_any g 0 M w2.heap.size 0 M M F F w4 (by omega) hML hO4.rd hO5.rd (fun _ _ => rfl)).mono ?_
    rintro e w5 ⟨rfl, hb5⟩
    go_wp2_with fail
    go_ret
    exact ⟨rfl, hbC.trans (hb5.mono hbC.size)⟩

theorem law6_any (a : Option Addr) (n c : Nat) (f : Nat → Int) (a1 a2 a3 : Int) (w : World) (hm : n ≤ 9223372036854775807) (hu : U64 n f) (h : Inp w a n c f) :
    Calls Try.prog 6 #[.slice a n c, .int .i64 a1, .int .i64 a2, .int .i64 a3] w fun e w' => e = .returned (.bool true) ∧ Below w.heap.size w w' := by
  by_cases hb : 65536 < n
  · exact law6_big a n c a1 a2 a3 w hb hm
  · by_cases ho : a2 < 0 ∨ 65536 < a2 ∨ a3 < 0 ∨ a2 < a3
    · exact law6_out a n c a1 a2 a3 w (by omega) ho
    · obtain ⟨mo, rfl⟩ : ∃ mo : Nat, a2 = (mo : Int) := ⟨a2.toNat, by omega⟩
      obtain ⟨k, rfl⟩ : ∃ k : Nat, a3 = (k : Int) := ⟨a3.toNat, by omega⟩
      exact law6_in a n c f a1 mo k w (by omega) (by omega) (by omega) hu h

end Go.Proofs.Qxb6602393a
