import Derived.Test.Qxb6602393aBytes
import Derived.Test.Qxb6602393aDomain
import Derived.Test.Qxb6602393aEqual
import Derived.Test.Qxb6602393aClone
import Derived.Test.Qxb6602393aZRemove
import Derived.Test.Qxb6602393aSort
set_option linter.unusedVariables false
namespace Go.Proofs.Qxb6602393a
open Go.RowKit Plain

/-- all that the law asks of the table behind the removal -/
structure RemFacts (m sl rn : Nat) (f F : Nat → Int) : Prop where
  v : V m F
  c : cnt F m + 1 = cnt f m
  o : ∀ v, occ F v m = occ (upd f sl 0) v m
  out : ∀ p, p < m → rn ≤ dst m sl p → F p = f p
  u : U64 m F

theorem u64_of_occ {m : Nat} {F G : Nat → Int} (h : ∀ v, occ F v m = occ G v m) (hu : U64 m G) : U64 m F := by
  intro i hi
  have hp : 0 < occ G (F i) m := by rw [← h]; exact occ_ex_pos F (F i) m i hi rfl
  obtain ⟨j, hj, he⟩ := occ_pos_ex G (F i) m hp
  rw [← he]; exact hu j hj

theorem rem_facts {m e s t : Nat} {f : Nat → Int} (R : Run m e f s t) (hu : U64 m f) : RemFacts m (pos m e s) (t - s) f (tab m e f s (t - 1 - s)) := by
  have hst := R.st
  have htm := R.tm
  have hs1 := R.s1
  have hsl : pos m e s < m := pos_lt m e s R.he (by omega)
  have I := inv_all R (t - 1 - s) (by omega)
  have E := inv_end R I
  have ho : ∀ v, occ (tab m e f s (t - 1 - s)) v m = occ (upd f (pos m e s) 0) v m := fun v => occ_tab R v _ (by omega)
  refine ⟨⟨⟨e, R.he, E.2⟩, (reach_lr m e _ R.he E.2).2 E.1⟩, ?_, ho, ?_, ?_⟩
  · rw [cnt_of_occ _ _ _ (ho 0)]
    exact cnt_upd_zero f _ m hsl (R.full s (Nat.le_refl _) hst)
  · intro p hp hd
    have hk := dst_lt m e p R.he hp
    have hpe := pos_dst m e p R.he hp
    generalize dst m e p = k at *
    subst hpe
    rw [dst_pos_pos m e s k R.he (by omega) hk] at hd
    refine I.out k hk ?_
    unfold dst at hd
    split at hd <;> omega
  · refine u64_of_occ ho (fun i hi => ?_)
    by_cases his : i = pos m e s
    · subst his; rw [upd_same]; omega
    · rw [upd_other _ _ _ _ his]; exact hu i hi

theorem law4_big (a : Option Addr) (n c : Nat) (a1 a2 : Int) (w : World) (h : 65536 < n) (hm : n ≤ 9223372036854775807) :
    Calls Try.prog 4 #[.slice a n c, .int .i64 a1, .int .i64 a2] w fun e w' => e = .returned (.bool true) ∧ Below w.heap.size w w' := by
  have hi : (65536 : Int) < (n : Int) := by omega
  by_cases hb : 1048576 < n
  · have HB : Hid (Calls Try.prog 13 #[.slice a n c, .int .i64 a1, .int .i64 a2] w fun e w' => e = .returned (.bool false) ∧ w' = w) := bytes13_no a n c a1 a2 w hb hm
    go_enter Try.func4, Try.ntmps4
    go_wp2_with fail
    refine HB.out.mono ?_
    rintro e w' ⟨rfl, rfl⟩
    go_wp2_with fail
    go_ret
    exact ⟨rfl, Below.refl _ _⟩
  · have HB : Hid (Calls Try.prog 13 #[.slice a n c, .int .i64 a1, .int .i64 a2] w fun e w' => e = .returned (.bool true) ∧ w' = w) := bytes13_yes a n c a1 a2 w (by omega)
    go_enter Try.func4, Try.ntmps4
    go_wp2_with fail
    refine HB.out.mono ?_
    rintro e w' ⟨rfl, rfl⟩
    go_wp2_with fail
    go_ret
    exact ⟨rfl, Below.refl _ _⟩

theorem law4_zero (a : Option Addr) (c : Nat) (a1 a2 : Int) (w : World) :
    Calls Try.prog 4 #[.slice a 0 c, .int .i64 a1, .int .i64 a2] w fun e w' => e = .returned (.bool true) ∧ Below w.heap.size w w' := by
  have HB : Hid (Calls Try.prog 13 #[.slice a 0 c, .int .i64 a1, .int .i64 a2] w fun e w' => e = .returned (.bool true) ∧ w' = w) := bytes13_yes a 0 c a1 a2 w (by omega)
  have HD : Hid (Calls Try.prog 8 #[.slice a 0 c, .int .i64 a1, .int .i64 a2] w fun e w' => DRes False e ∧ w' = w) := rdom_zero a c a1 a2 w False
  go_enter Try.func4, Try.ntmps4
  go_wp2_with fail
  refine HB.out.mono ?_
  rintro e w' ⟨rfl, rfl⟩
  go_wp2_with fail
  refine HD.out.mono ?_
  rintro e w' ⟨⟨r, rfl, hr⟩, rfl⟩
  cases r
  · go_wp2_with fail
    go_ret
    exact ⟨rfl, Below.refl _ _⟩
  · exact absurd rfl hr

/-- the law at a removal that is in the domain: from the first clone on all is told of blocks B, B + 1, .. -/
def ZR (B n : Nat) (a1 : Int) (sl : Nat) (f F : Nat → Int) : Prop := ∀ wx, Own wx B n f → Calls Try.prog 11 #[.slice (some ⟨B, 0, none⟩) n n, .int .i64 a1, .int .i64 (sl : Nat)] wx fun en w' => en = .returned (.tuple #[.slice (some ⟨B, 0, none⟩) n n, .int .i64 (a1 - 1)]) ∧ ZRem B n F wx w'

set_option maxRecDepth 100000 in
set_option maxHeartbeats 4000000 in
theorem law4_any (b off n c : Nat) (f : Nat → Int) (a1 a2 : Int) (w : World) (h0 : 0 < n) (hn : n ≤ 65536) (hu : U64 n f) (h : Rd w b off n f) :
    Calls Try.prog 4 #[.slice (some ⟨b, off, none⟩) n c, .int .i64 a1, .int .i64 a2] w fun e w' => e = .returned (.bool true) ∧ Below w.heap.size w w' := by
  have HB : Hid (Calls Try.prog 13 #[.slice (some ⟨b, off, none⟩) n c, .int .i64 a1, .int .i64 a2] w fun e w' => e = .returned (.bool true) ∧ w' = w) := bytes13_yes _ n c a1 a2 w (by omega)
  have HD : Hid (Calls Try.prog 8 #[.slice (some ⟨b, off, none⟩) n c, .int .i64 a1, .int .i64 a2] w fun e w' => DRes (RDom n f a1 a2) e ∧ w' = w) := rdom_any b off n c f a1 a2 w h0 hn hu h
  obtain ⟨B, hB⟩ : ∃ B, B = w.heap.size := ⟨_, rfl⟩
  have HC : Hid (Calls Try.prog 9 #[.slice (some ⟨b, off, none⟩) n c] w fun e w' => e = .returned (.slice (some ⟨B, 0, none⟩) n n) ∧ Own w' B n f ∧ Below B w w' ∧ w'.heap.size = B + 1) := by
    rw [hB]; exact clone_any b off n c f w h0 (by omega) h
  rw [← hB]
  clear h hB
  go_enter Try.func4, Try.ntmps4
  go_wp2_with fail
  refine HB.out.mono ?_
  rintro e w' ⟨rfl, rfl⟩
  go_wp2_with fail
  refine HD.out.mono ?_
  rintro e w' ⟨⟨r, rfl, hr⟩, rfl⟩
  cases r
  · go_wp2_with fail
    go_ret
    exact ⟨rfl, Below.refl _ _⟩
  · obtain ⟨hpw, hs0, hs1, hne, hv, hcnt⟩ := hr rfl
    obtain ⟨ex, s, t, R, hsl⟩ := run_of n f hv a2.toNat (by omega) hne
    obtain ⟨sl, hsle⟩ : ∃ sl, sl = pos n ex s := ⟨_, rfl⟩
    have ha2 : a2 = (sl : Int) := by omega
    have hslm : sl < n := by omega
    have hc1 := empty_cnt_lt f n ex R.he R.h0
    have HF0 := rem_facts R hu
    have hc2 := HF0.c
    have hn1 : 1 ≤ a1 := by omega
    have hn2 : a1 ≤ 65536 := by omega
    obtain ⟨F, hF⟩ : ∃ F, F = tab n ex f s (t - 1 - s) := ⟨_, rfl⟩
    have HZ : Hid (ZR B n a1 sl f F) := by
      intro wx hwx
      rw [hsle, hF]
      exact zremove_any B n n a1 ex s t f wx R hpw hu hwx hn1 (by omega)
    rw [← hF, ← hsle] at HF0
    have HF : Hid (RemFacts n sl (t - s) f F) := HF0
    have HN : Hid (a1 - 1 = ((cnt F n : Nat) : Int)) := by show a1 - 1 = _; have := HF.out.c; omega
    subst ha2
    have HR : Hid (Run n ex f s t ∧ sl = pos n ex s) := ⟨R, hsle⟩
    have hst := R.st
    have htm := R.tm
    have hs1' := R.s1
    clear hF HF0 hc1 hc2 hcnt hsle hsl hne hv hr HB HD hs0 hs1 R
    go_wp2_with fail
    refine HC.out.mono ?_
    rintro e w1 ⟨rfl, o1, bel1, sz1⟩
    clear HC
    have HC2 : Hid (Calls Try.prog 9 #[.slice (some ⟨B, 0, none⟩) n n] w1 fun e w' => e = .returned (.slice (some ⟨B + 1, 0, none⟩) n n) ∧ Own w' (B + 1) n f ∧ Below (B + 1) w1 w' ∧ w'.heap.size = B + 1 + 1) := by
      rw [← sz1]; exact clone_any B 0 n n f w1 h0 (by omega) o1.rd
    clear sz1
    go_wp2_with fail
    refine HC2.out.mono ?_
    rintro e w2 ⟨rfl, o2, bel2, sz2⟩
    clear HC2
    have o12 : Own w2 B n f := o1.below bel2 (by omega)
    have belA : Below B w' w2 := bel1.trans (bel2.mono (by omega))
    clear o1 bel1 bel2
    have SZ2 : Hid (w2.heap.size = B + 1 + 1) := sz2
    clear sz2
    go_wp2
    go_loop [10, 11] (fun rv iv => ∃ j : Nat, s + j + 1 ≤ t ∧ rv = .int .i64 ((j : Int) + 1) ∧ iv = .int .i64 ((j : Int) + 1)) (fun _ iv => n - (intOf iv).toNat)
    case atStart => exact ⟨0, by omega, rfl, rfl⟩
    case round =>
      obtain ⟨j, hj, rfl, rfl⟩ := hrel
      obtain ⟨q, hqe⟩ : ∃ q, q = pos n ex (s + j + 1) := ⟨_, rfl⟩
      have hq : q < n := by rw [hqe]; exact pos_lt n ex _ HR.out.1.he (by omega)
      have hb1 : bits .and .i64 ((sl : Int) + ((j : Int) + 1)) ((n : Int) - 1) = (q : Int) := by
        have := mask_pos hpw sl (j + 1) hslm (by omega)
        rw [HR.out.2, pos_pos n ex s (j + 1) HR.out.1.he (by omega) (by omega)] at this
        rw [hqe, HR.out.2]
        exact this
      have hcq := o2.cell hq
      have hjm : (j : Int) + 1 < (n : Int) := by omega
      by_cases hend : s + j + 1 = t
      · have hvz : (f q == 0) = true := by rw [hqe, hend, HR.out.1.tz]; rfl
        have hjt1 : j + 1 ≤ t - s := by omega
        have hjt2 : t - s ≤ j + 1 := by omega
        clear hqe hend
        go_wp2_with fail
        clear hcq hvz hb1 hjm
        have HC3 : Hid (Calls Try.prog 9 #[.slice (some ⟨B + 1, 0, none⟩) n n] w2 fun e w' => e = .returned (.slice (some ⟨B + 2, 0, none⟩) n n) ∧ Own w' (B + 2) n f ∧ Below (B + 2) w2 w' ∧ w'.heap.size = B + 3) := by
          have := clone_any (B + 1) 0 n n f w2 h0 (by omega) o2.rd
          unfold CloneRes at this
          rw [SZ2.out] at this
          exact this
        refine HC3.out.mono ?_
        rintro e w3 ⟨rfl, o3, bel3, sz3⟩
        clear HC3 SZ2
        have o13 : Own w3 B n f := o12.below bel3 (by omega)
        have o23 : Own w3 (B + 1) n f := o2.below bel3 (by omega)
        have belB : Below B w' w3 := belA.trans (bel3.mono (by omega))
        clear o12 o2 bel3 belA
        have hc3 := o3.cell hslm
        have hf3 := o3.frozen sl
        go_wp2_with fail
        have o14 : Own (w3.setCell ⟨B + 2, sl, none⟩ (.int .u64 0)) B n f := o13.set_other _ _ (by simp)
        have o24 : Own (w3.setCell ⟨B + 2, sl, none⟩ (.int .u64 0)) (B + 1) n f := o23.set_other _ _ (by simp)
        have o34 : Own (w3.setCell ⟨B + 2, sl, none⟩ (.int .u64 0)) (B + 2) n (upd f sl 0) := o3.set sl 0
        have belC : Below B w' (w3.setCell ⟨B + 2, sl, none⟩ (.int .u64 0)) := belB.setCell (by simp) _
        refine (sort_any _ n n (upd f sl 0) _ (by omega) (fun _ => ⟨B + 2, 0, rfl, o34.rd⟩)).mono ?_
        rintro e w4 ⟨g4, c4, cap4, h4, rfl, o4, hcc4, hcn4, hg4, hS4, bel4⟩
        have hg4' : B + 3 ≤ g4 := by simp only [World.size_setCell] at hg4; omega
        have o15 : Own w4 B n f := o14.below' bel4
        have o25 : Own w4 (B + 1) n f := o24.below' bel4
        have belD : Below B w' w4 := belC.trans (bel4.mono (by simp only [World.size_setCell]; omega))
        have HS4 : Hid (Sorted (upd f sl 0) h4 n c4) := hS4
        clear hS4 hg4 bel4 belC o34 o24 o14 hc3 hf3 o3 sz3 o13 o23 belB
        go_wp2_with fail
        refine (HZ.out w4 o15).mono ?_
        rintro e w5 ⟨rfl, o16, hk5⟩
        have o26 : Own w5 (B + 1) n f := o25.kept hk5 (by omega)
        have o46 : Own w5 g4 cap4 h4 := o4.kept hk5 (by omega)
        have hBl := o15.lt
        have belE : Below B w' w5 := belD.trans (hk5.below (by omega) (fun k hk => by omega))
        clear o15 o25 o4 hk5 belD hBl HZ
        have hne1 : (a1 - 1 != a1 - 1) = false := by simp
        have hne2 : ((n : Int) != (n : Int)) = false := by simp
        go_wp2_with fail
        refine (valid_any B 0 n n F w5 hpw HF.out.u o16.rd).mono ?_
        rintro e w6 ⟨⟨r, rfl, hr⟩, rfl⟩
        have hr1 : r = true := hr.2 HF.out.v
        subst hr1
        clear hr
        go_wp2_with fail
        refine (count_any B 0 n n F w6 (by omega) o16.rd).mono ?_
        rintro e w7 ⟨rfl, rfl⟩
        have hne3 : (((cnt F n : Nat) : Int) != a1 - 1) = false := by rw [HN.out]; simp
        go_wp2_with fail
        go_loopw [16] (fun pv wr => ∃ p : Nat, p ≤ n ∧ pv = .int .i64 (p : Nat) ∧ Below w7.heap.size w7 wr) (fun pv _ => n - (intOf pv).toNat)
        case atStart => exact ⟨0, Nat.zero_le _, rfl, Below.refl _ _⟩
        case round =>
          clear hne1 hne2 hne3
          obtain ⟨p, hp, rfl, belF⟩ := hrel
          by_cases hlt : p < n
          · have o17 := o16.below' belF
            have o27 := o26.below' belF
            obtain ⟨d, hde⟩ : ∃ d, d = dst n sl p := ⟨_, rfl⟩
            have hb1 : bits .and .i64 ((p : Int) - (sl : Int)) ((n : Int) - 1) = (d : Int) := by rw [hde]; exact mask_dst hpw _ _ hslm hlt
            have hdn : d < n := by rw [hde]; exact dst_lt n _ _ hslm hlt
            have hp0 : (0 : Int) ≤ (p : Int) := by omega
            have hpn : (p : Int) < (n : Int) := by omega
            have HD : Hid (d = dst n sl p) := hde
            clear hde
            by_cases hrun : j + 1 ≤ d
            · have d1 : decide ((j : Int) + 1 ≤ (d : Int)) = true := decide_eq_true (by omega)
              have hrun' : (j : Int) + 1 ≤ (d : Int) := by omega
              have hFp : F p = f p := HF.out.out p hlt (by rw [← HD.out]; omega)
              have hcF := o17.cell hlt
              rw [hFp] at hcF
              have hcf := o27.cell hlt
              have hne4 : (f p != f p) = false := by simp
              clear hFp o16 o26 o46 o17 o27
              go_wp2
              go_quiet (fail)
              go_wp2
              go_roundw
              case rel => exact ⟨p + 1, by omega, by go_num, Below.drewN' belF _⟩
              case measure => simp [intOf]; omega
            · have d1 : decide ((j : Int) + 1 ≤ (d : Int)) = false := decide_eq_false (by omega)
              clear o16 o26 o46 o17 o27
              go_wp2
              go_quiet (fail)
              go_wp2
              go_roundw
              case rel => exact ⟨p + 1, by omega, by go_num, Below.drewN' belF _⟩
              case measure => simp [intOf]; omega
          · have o17 : Own wr B n F := o16.below' belF
            have o47 : Own wr g4 cap4 h4 := o46.below' belF
            have belG : Below B w' wr := belE.trans (belF.mono (by have := o16.lt; omega))
            have hBw : B ≤ wr.heap.size := by have := o17.lt; omega
            clear o16 o46 belE belF o26
            go_wp2_with fail
            refine (sort_any _ n n F wr (by omega) (fun _ => ⟨B, 0, rfl, o17.rd⟩)).mono ?_
            rintro e w8 ⟨g5, c5, cap5, h5, rfl, o5, hcc5, hcn5, hg5, hS5, bel5⟩
            have o48 : Own w8 g4 cap4 h4 := o47.below' bel5
            have belH : Below B w' w8 := belG.trans (bel5.mono hBw)
            have hsm := sorted_same hS5 HS4.out (cnt_of_occ _ _ _ (HF.out.o 0)) (fun v _ => HF.out.o v)
            obtain ⟨hce, heq⟩ := hsm
            subst hce
            have HEQ : Hid (∀ i, i < c5 → h5 i = h4 i) := heq
            have hBw8 : B ≤ w8.heap.size := by have := bel5.size; omega
            clear heq hS5 bel5 o47 belG HS4 HF HN HR hBw
            go_wp2_with fail
            by_cases hc0 : c5 = 0
            · subst hc0
              refine (equal_zero _ _ _ _ w8).mono ?_
              rintro e w9 ⟨rfl, bel9⟩
              go_wp2_with fail
              go_ret
              exact ⟨rfl, belH.trans (bel9.mono hBw8)⟩
            · refine (equal_any g5 0 cap5 g4 0 cap4 c5 h5 h4 w8 (by omega) (by omega) (o5.rd_le hcc5) (o48.rd_le hcc4) HEQ.out).mono ?_
              rintro e w9 ⟨rfl, bel9⟩
              go_wp2_with fail
              go_ret
              exact ⟨rfl, belH.trans (bel9.mono hBw8)⟩
      · have hvz : (f q == 0) = false := by
          have : f q ≠ 0 := by rw [hqe]; exact HR.out.1.full _ (by omega) (by omega)
          simp [this]
        have hlt2 : s + j + 1 < t := by omega
        clear hqe hend
        go_wp2
        go_round
        case rel => exact ⟨j + 1, by omega, by go_num, by go_num⟩
        case measure => simp [intOf]; omega

end Go.Proofs.Qxb6602393a
