import Derived.Test.Qxb6602393aGBase
import Derived.Test.Qxb6602393aGSize
import Derived.Test.Qxb6602393aBytes
import Derived.Test.Qxb6602393aEqual
set_option linter.unusedVariables false
namespace Go.Proofs.Qxb6602393a
open Go.RowKit Plain

/-- a clone that can be cloned again -/
def Cl2 (n : Nat) (f : Nat → Int) (w : World) (e : Ending) (w' : World) : Prop := ∃ a' c', e = .returned (.slice a' n c') ∧ Slots w' a' n c' f ∧ Inp w' a' n c' f ∧ Below w.heap.size w w'

theorem clone_two (a : Option Addr) (n c : Nat) (f : Nat → Int) (w : World) (hn : n ≤ 1048576) (h : Inp w a n c f) : Calls Try.prog 9 #[.slice a n c] w fun e w' => Cl2 n f w e w' := by
  rcases h with ⟨rfl, rfl, rfl⟩ | ⟨⟨x, rfl⟩, rfl⟩ | ⟨b, off, rfl, h0, hr⟩
  · exact (clone_nil w).mono fun e w' ⟨he, hw⟩ => ⟨none, 0, he, .inl rfl, .inl ⟨rfl, rfl, rfl⟩, by rw [hw]; exact Below.refl _ _⟩
  · exact (clone_empty x c f w).mono fun e w' ⟨he, ho, hb, _⟩ => ⟨_, _, he, .inl rfl, .inr (.inl ⟨⟨_, rfl⟩, rfl⟩), hb⟩
  · exact (clone_any b off n c f w h0 hn hr).mono fun e w' ⟨he, ho, hb, _⟩ => ⟨_, _, he, .inr ⟨_, rfl, rfl, ho⟩, .inr (.inr ⟨_, 0, rfl, h0, ho.rd⟩), hb⟩

theorem law5_big (a : Option Addr) (n c : Nat) (a1 a2 : Int) (w : World) (h : 65536 < n) (hm : n ≤ 9223372036854775807) :
    Calls Try.prog 5 #[.slice a n c, .int .i64 a1, .int .i64 a2] w fun e w' => e = .returned (.bool true) ∧ Below w.heap.size w w' := by
  have hi : (65536 : Int) < (n : Int) := by omega
  by_cases hb : 1048576 < n
  · have HB : Hid (Calls Try.prog 17 #[.slice a n c, .int .i64 a1, .int .i64 a2] w fun e w' => e = .returned (.bool false) ∧ w' = w) := bytes17_no a n c a1 a2 w hb hm
    go_enter Try.func5, Try.ntmps5
    go_wp2_with fail
    refine HB.out.mono ?_
    rintro e w' ⟨rfl, rfl⟩
    go_wp2_with fail
    go_ret
    exact ⟨rfl, Below.refl _ _⟩
  · have HB : Hid (Calls Try.prog 17 #[.slice a n c, .int .i64 a1, .int .i64 a2] w fun e w' => e = .returned (.bool true) ∧ w' = w) := bytes17_yes a n c a1 a2 w (by omega)
    go_enter Try.func5, Try.ntmps5
    go_wp2_with fail
    refine HB.out.mono ?_
    rintro e w' ⟨rfl, rfl⟩
    go_wp2_with fail
    go_ret
    exact ⟨rfl, Below.refl _ _⟩

/-- 'more' out of range -/
theorem law5_out (a : Option Addr) (n c : Nat) (a1 a2 : Int) (w : World) (h : n ≤ 65536) (ho : a2 < 0 ∨ 65536 < a2) :
    Calls Try.prog 5 #[.slice a n c, .int .i64 a1, .int .i64 a2] w fun e w' => e = .returned (.bool true) ∧ Below w.heap.size w w' := by
  have HB : Hid (Calls Try.prog 17 #[.slice a n c, .int .i64 a1, .int .i64 a2] w fun e w' => e = .returned (.bool true) ∧ w' = w) := bytes17_yes a n c a1 a2 w (by omega)
  by_cases h1 : a2 < 0
  · clear ho
    go_enter Try.func5, Try.ntmps5
    go_wp2_with fail
    refine HB.out.mono ?_
    rintro e w' ⟨rfl, rfl⟩
    go_wp2_with fail
    go_ret
    exact ⟨rfl, Below.refl _ _⟩
  · have h2 : 65536 < a2 := by omega
    clear ho
    go_enter Try.func5, Try.ntmps5
    go_wp2_with fail
    refine HB.out.mono ?_
    rintro e w' ⟨rfl, rfl⟩
    go_wp2_with fail
    go_ret
    exact ⟨rfl, Below.refl _ _⟩

set_option maxHeartbeats 2000000 in
theorem law5_in (a : Option Addr) (n c : Nat) (f : Nat → Int) (a1 : Int) (mo : Nat) (w : World) (hn : n ≤ 65536) (hmo : mo ≤ 65536) (hu : U64 n f) (h : Inp w a n c f) :
    Calls Try.prog 5 #[.slice a n c, .int .i64 a1, .int .i64 (mo : Nat)] w fun e w' => e = .returned (.bool true) ∧ Below w.heap.size w w' := by
  have HB : Hid (Calls Try.prog 17 #[.slice a n c, .int .i64 a1, .int .i64 (mo : Nat)] w fun e w' => e = .returned (.bool true) ∧ w' = w) := bytes17_yes a n c a1 _ w (by omega)
  have HD : Hid (Calls Try.prog 18 #[.slice a n c, .int .i64 a1] w fun e w' => DRes (GD n f a1) e ∧ w' = w) := gdom_all a n c f a1 w hn hu h
  have HC : Hid (Calls Try.prog 9 #[.slice a n c] w fun e w' => Cl2 n f w e w') := clone_two a n c f w (by omega) h
  clear h
  go_enter Try.func5, Try.ntmps5
  go_wp2_with fail
  refine HB.out.mono ?_
  rintro e w' ⟨rfl, rfl⟩
  clear HB
  go_wp2_with fail
  refine HD.out.mono ?_
  rintro e w' ⟨⟨r, rfl, hr⟩, rfl⟩
  clear HD
  cases r
  · go_wp2_with fail
    go_ret
    exact ⟨rfl, Below.refl _ _⟩
  · obtain ⟨hsz, hcnt⟩ := hr rfl
    obtain ⟨nn, hnn⟩ : ∃ nn, nn = cnt f n := ⟨_, rfl⟩
    have ha1 : a1 = ((nn : Nat) : Int) := by rw [hcnt, hnn]
    subst ha1
    have hsz' : n = 0 ∨ (Pw n ∧ 8 ≤ n) := by rcases hsz with h | h; exact .inl h; exact .inr ⟨h.1, h.2.1⟩
    have hcl := cnt_le f n
    have hnl : nn ≤ 65536 := by omega
    obtain ⟨M, hM⟩ := size_ex (max n 8) (nn + mo) (by omega)
    have hpM := pw_size hsz' hn (by omega) hM
    have hML := hpM.le
    have h8 : 8 ≤ M := by have := hM.ge; omega
    have hroom : 4 * (nn + mo) ≤ 3 * M := by obtain ⟨_, _, h4, _⟩ := hM; exact h4
    obtain ⟨E, hE1, hE2, hE3, hE4⟩ := exp_ex (nn + mo) (by omega)
    have hME : M = max n (2 ^ E) := by
      rcases hsz' with h | ⟨⟨j, _, hj⟩, h8⟩
      · exact size_is n (nn + mo) M E 0 (.inl h) hM hE1 hE3 hE4
      · exact size_is n (nn + mo) M E j (.inr ⟨hj, h8⟩) hM hE1 hE3 hE4
    have HS : Hid (∀ wx, Calls Try.prog 19 #[.int .i64 (n : Nat), .int .i64 ((nn : Int) + (mo : Int))] wx fun e w' => e = .returned (.int .i64 (M : Nat)) ∧ w' = wx) := by
      intro wx
      rw [hME]
      exact gsize_any n (nn + mo) E wx (by omega) (by omega) hE1 hE2 hE3 hE4
    have HG : Hid (∀ wx a' c', Slots wx a' n c' f → Calls Try.prog 20 #[.slice a' n c', .int .i64 (nn : Nat), .int .i64 (mo : Nat)] wx fun e w' => ZOut M n nn f wx e w') :=
      fun wx a' c' hs => zgrow_any a' n c' nn mo M f wx hs hsz' hn hu hM hnn hmo
    have HN : Hid (cnt f n < M) := by show cnt f n < M; omega
    clear hcl hnn hcnt hsz hsz' hM hr hu hE1 hE2 hE3 hE4 hME
    go_wp2_with fail
    refine HC.out.mono ?_
    rintro e w1 ⟨a1', c1', rfl, hs1, hi1, hb1⟩
    clear HC
    go_wp2_with fail
    refine (clone_two a1' n c1' f w1 (by omega) hi1).mono ?_
    rintro e w2 ⟨a2', c2', rfl, hs2, _, hb2⟩
    have hs12 := hs1.below hb2
    have hbA : Below w'.heap.size w' w2 := hb1.trans (hb2.mono hb1.size)
    clear hs1 hi1 hb1 hb2
    go_wp2_with fail
    refine (HS.out w2).mono ?_
    rintro e w2' ⟨rfl, hw2⟩
    subst hw2
    go_wp2_with fail
    refine (HG.out w2' a1' c1' hs12).mono ?_
    rintro e w3 ⟨g, F, rfl, hO, hF, hb3⟩
    have hs3 := hs2.below hb3
    have hbB : Below w'.heap.size w' w3 := hbA.trans (hb3.mono hbA.size)
    have hne1 : ((nn : Int) != (nn : Int)) = false := by simp
    clear hs2 hs12 hbA hb3 HS HG
    rcases hF with ⟨rfl, hFe⟩ | ⟨hMn, hGI⟩
    · have heq : ((M : Int) == (M : Int)) = true := by simp
      rcases hs3 with h0 | ⟨g2, rfl, rfl, hO2⟩
      · omega
      · have HE : Hid (∀ i, i < c2' → F i = f i) := hFe
        clear hFe
        go_wp2_with fail
        refine (equal_any g 0 c2' g2 0 c2' c2' F f w3 (by omega) hML hO.rd hO2.rd HE.out).mono ?_
        rintro e w4 ⟨rfl, hb4⟩
        go_wp2_with fail
        go_ret
        exact ⟨rfl, hbB.trans (hb4.mono hbB.size)⟩
    · have heq : ((M : Int) == (n : Int)) = false := by
        have : ¬ (M : Int) = (n : Int) := by omega
        simp [this]
      have hne2 : ((M : Int) != (M : Int)) = false := by simp
      have HI : Hid (GInv M f F n) := hGI
      clear hGI hMn
      go_wp2_with fail
      refine (valid_any g 0 M M F w3 hpM HI.out.u hO.rd).mono ?_
      rintro e w4 ⟨⟨r, rfl, hr⟩, hw4⟩
      subst hw4
      have hr1 : r = true := hr.2 ⟨cnt_lt_empty F M (by rw [HI.out.c]; exact HN.out), HI.out.r⟩
      subst hr1
      clear hr
      go_wp2_with fail
      refine (sort_any _ M M F w4 hML (fun _ => ⟨g, 0, rfl, hO.rd⟩)).mono ?_
      rintro e w5 ⟨g5, c5, cap5, h5, rfl, o5, hcc5, hcn5, hg5, hS5, bel5⟩
      have hs5 := hs3.below bel5
      have hbC : Below w'.heap.size w' w5 := hbB.trans (bel5.mono hbB.size)
      have HS5 : Hid (Sorted F h5 M c5) := hS5
      clear hS5 bel5 hbB hs3 hO hg5
      go_wp2_with fail
      refine (sort_any a2' n c2' f w5 (by omega) hs5.rda).mono ?_
      rintro e w6 ⟨g6, c6, cap6, h6, rfl, o6, hcc6, hcn6, hg6, hS6, bel6⟩
      have o56 := o5.below' bel6
      have hbD : Below w'.heap.size w' w6 := hbC.trans (bel6.mono hbC.size)
      obtain ⟨hce, hev⟩ := sorted_same HS5.out hS6 HI.out.c HI.out.o
      subst hce
      have HE : Hid (∀ i, i < c5 → h5 i = h6 i) := hev
      clear hev hS6 bel6 o5 hbC hg6 hs5
      go_wp2_with fail
      by_cases hc0 : c5 = 0
      · subst hc0
        refine (equal_zero _ _ _ _ w6).mono ?_
        rintro e w7 ⟨rfl, bel7⟩
        go_wp2_with fail
        go_ret
        exact ⟨rfl, hbD.trans (bel7.mono hbD.size)⟩
      · refine (equal_any g5 0 cap5 g6 0 cap6 c5 h5 h6 w6 (by omega) (by omega) (o56.rd_le hcc5) (o6.rd_le hcc6) HE.out).mono ?_
        rintro e w7 ⟨rfl, bel7⟩
        go_wp2_with fail
        go_ret
        exact ⟨rfl, hbD.trans (bel7.mono hbD.size)⟩

theorem law5_any (a : Option Addr) (n c : Nat) (f : Nat → Int) (a1 a2 : Int) (w : World) (hm : n ≤ 9223372036854775807) (hu : U64 n f) (h : Inp w a n c f) :
    Calls Try.prog 5 #[.slice a n c, .int .i64 a1, .int .i64 a2] w fun e w' => e = .returned (.bool true) ∧ Below w.heap.size w w' := by
  by_cases hb : 65536 < n
  · exact law5_big a n c a1 a2 w hb hm
  · by_cases ho : a2 < 0 ∨ 65536 < a2
    · exact law5_out a n c a1 a2 w (by omega) ho
    · obtain ⟨mo, rfl⟩ : ∃ mo : Nat, a2 = (mo : Int) := ⟨a2.toNat, by omega⟩
      exact law5_in a n c f a1 mo w (by omega) (by omega) hu h

end Go.Proofs.Qxb6602393a
