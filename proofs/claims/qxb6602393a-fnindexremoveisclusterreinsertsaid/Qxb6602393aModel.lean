import Derived.Test.Qxb6602393aClone
import Derived.Test.Qxb6602393aBits
import Derived.Test.Qxb6602393aPlain2
set_option linter.unusedVariables false
namespace Go.Proofs.Qxb6602393a
open Go.RowKit Plain

/-- the state at the head of the model's first loop, behind j entries -/
def Mod1 (m e s t B j : Nat) (f F P : Nat → Int) (w wr : World) : Prop :=
  (∀ k, k < m → F (pos m e k) = if s ≤ k ∧ k ≤ s + j then 0 else f (pos m e k)) ∧ (∀ i, i < j → P i = f (pos m e (s + 1 + i))) ∧
  Own wr B m F ∧ Own wr (B + 1) m P ∧ Below B w wr ∧ B + 2 ≤ wr.heap.size

/-- the state at the head of the model's second loop, j entries put back -/
def Mod2 (m e s t B j : Nat) (f P : Nat → Int) (w wr : World) : Prop :=
  (∀ i, i < t - 1 - s → P i = f (pos m e (s + 1 + i))) ∧ Own wr B m (wt m e f s t j) ∧ Own wr (B + 1) m P ∧ Below B w wr ∧ B + 2 ≤ wr.heap.size

theorem mod1_zero {m e s t : Nat} {f F : Nat → Int} (R : Run m e f s t) (j : Nat) (hF : ∀ k, k < m → F (pos m e k) = if s ≤ k ∧ k ≤ s + j then 0 else f (pos m e k)) (hj : s + j + 1 ≤ t) :
    F (pos m e (s + j + 1)) = f (pos m e (s + j + 1)) := by
  have htm := R.tm
  have he := R.he
  have hs1 := R.s1
  by_cases h : s + j + 1 < m
  · rw [hF _ h, if_neg (by omega)]
  · rw [show s + j + 1 = m by omega, pos_full m e he]
    have := hF 0 (by omega)
    rw [if_neg (by omega), pos_zero m e he] at this
    exact this

theorem mod1_next {m e s t : Nat} {f F : Nat → Int} (R : Run m e f s t) (j : Nat) (hF : ∀ k, k < m → F (pos m e k) = if s ≤ k ∧ k ≤ s + j then 0 else f (pos m e k)) (hj : s + j + 1 < t) :
    ∀ k, k < m → upd F (pos m e (s + j + 1)) 0 (pos m e k) = if s ≤ k ∧ k ≤ s + (j + 1) then 0 else f (pos m e k) := by
  intro k hk
  have htm := R.tm
  by_cases hkk : k = s + j + 1
  · subst hkk; rw [upd_same, if_pos (by omega)]
  · rw [upd_other _ _ _ _ (fun hh => by have := pos_inj m e _ _ R.he hk (by omega) hh; omega), hF k hk]
    by_cases hr : s ≤ k ∧ k ≤ s + j
    · rw [if_pos hr, if_pos (by omega)]
    · rw [if_neg hr, if_neg (by omega)]

theorem mod1_start {m e s t : Nat} {f : Nat → Int} (R : Run m e f s t) : ∀ k, k < m → upd f (pos m e s) 0 (pos m e k) = if s ≤ k ∧ k ≤ s + 0 then 0 else f (pos m e k) := by
  intro k hk
  have htm := R.tm
  have hst := R.st
  by_cases hkk : k = s
  · subst hkk; rw [upd_same, if_pos (by omega)]
  · rw [upd_other _ _ _ _ (fun hh => by have := pos_inj m e _ _ R.he hk (by omega) hh; omega), if_neg (by omega)]

theorem mod1_end {m e s t : Nat} {f F : Nat → Int} (R : Run m e f s t) (hF : ∀ k, k < m → F (pos m e k) = if s ≤ k ∧ k ≤ s + (t - 1 - s) then 0 else f (pos m e k)) : ∀ x, x < m → F x = wt m e f s t 0 x := by
  intro x hx
  have hst := R.st
  have hk := dst_lt m e x R.he hx
  have hp := pos_dst m e x R.he hx
  generalize dst m e x = k at *
  subst hp
  rw [hF k hk, wt_zero R k hk]
  by_cases hr : s ≤ k ∧ k < t
  · rw [if_pos hr, if_pos (by omega)]
  · rw [if_neg hr, if_neg (by omega)]

set_option maxHeartbeats 2000000 in
theorem model_any (g m c : Nat) (e s t : Nat) (f : Nat → Int) (w : World) (R : Run m e f s t) (hpw : Pw m) (hu : U64 m f) (hg : Own w g m f) :
    Calls Try.prog 10 #[.slice (some ⟨g, 0, none⟩) m c, .int .i64 (pos m e s : Nat)] w fun en w' => en = .returned (.slice (some ⟨w.heap.size, 0, none⟩) m m) ∧ Own w' w.heap.size m (tab m e f s (t - 1 - s)) ∧ Below w.heap.size w w' := by
  have hm0 := hpw.pos
  have hml := hpw.le
  have hst := R.st
  have htm := R.tm
  have hs1 := R.s1
  have he := R.he
  obtain ⟨sl, hsle⟩ : ∃ sl, sl = pos m e s := ⟨_, rfl⟩
  have hsl : sl < m := by rw [hsle]; exact pos_lt m e s he (by omega)
  rw [← hsle]
  have HS : Hid (sl = pos m e s) := hsle
  clear hsle
  obtain ⟨B, hB⟩ : ∃ B, B = w.heap.size := ⟨_, rfl⟩
  rw [← hB]
  have HB : Hid (B = w.heap.size) := hB
  have HC : Hid (Calls Try.prog 9 #[.slice (some ⟨g, 0, none⟩) m c] w fun e w' => e = .returned (.slice (some ⟨B, 0, none⟩) m m) ∧ Own w' B m f ∧ Below B w w' ∧ w'.heap.size = B + 1) := by
    rw [hB]; exact clone_any g 0 m c f w hm0 hml hg.rd
  clear hB hg
  go_enter Try.func10, Try.ntmps10
  go_wp2_with fail
  refine HC.out.mono ?_
  rintro en w1 ⟨rfl, hown1, hbel1, hsz1⟩
  clear HC
  have hc1 := hown1.cell hsl
  have hf1 := hown1.frozen sl
  have hown2 := hown1.set sl 0
  have hbel2 : Below B w (w1.setCell ⟨B, sl, none⟩ (.int .u64 0)) := hbel1.setCell (Nat.le_refl _) _
  obtain ⟨F0, hF0⟩ : ∃ F0, F0 = upd f sl 0 := ⟨_, rfl⟩
  rw [← hF0] at hown2
  have HF : Hid (F0 = upd f sl 0 ∧ w1.heap.size = B + 1) := ⟨hF0, hsz1⟩
  clear hF0 hown1 hbel1 hsz1
  go_wp2_with (at_make; refine make_row _ rfl _ _ rfl _ _ 0 m rfl rfl rfl rfl (Nat.zero_le _) (by omega) ?_; intro w2 hown3 hbel3 hsz3)
  have hown3' : Own w2 (B + 1) m zeroF := by
    have := hown3
    simp only [World.size_setCell] at this
    rw [HF.out.2] at this
    exact this
  have hsz3' : w2.heap.size = B + 2 := by
    have := hsz3
    simp only [World.size_setCell] at this
    rw [HF.out.2] at this
    exact this
  have hown2' : Own w2 B m F0 := hown2.below' hbel3
  have hbel4 : Below B w w2 := hbel2.trans (hbel3.mono (by simp only [World.size_setCell]; rw [HF.out.2]; omega))
  rw [HF.out.2]
  have HM : Hid (Mod1 m e s t B 0 f F0 zeroF w w2) := ⟨by rw [HF.out.1, HS.out]; exact mod1_start R, fun i hi => by omega, hown2', hown3', hbel4, by omega⟩
  clear hown3' hsz3' hown2' hbel4 hown3 hbel3 hsz3 hown2 hbel2 hc1 hf1 HF
  go_loopw [8, 9] (fun pd i wr => ∃ (j : Nat) (F P : Nat → Int), s + j + 1 ≤ t ∧ i = .int .i64 ((j : Int) + 1) ∧ pd = .slice (some ⟨B + 1, 0, none⟩) j m ∧ Mod1 m e s t B j f F P w wr) (fun _ i _ => m - (intOf i).toNat)
  case atStart => exact ⟨0, F0, zeroF, by omega, rfl, rfl, HM.out⟩
  case round =>
    clear HM
    obtain ⟨j, F, P, hj, rfl, rfl, hF0, hP0, hO1, hO2, hbel, hsz⟩ := hrel
    have hF : Hid (∀ k, k < m → F (pos m e k) = if s ≤ k ∧ k ≤ s + j then 0 else f (pos m e k)) := hF0
    have hP : Hid (∀ i, i < j → P i = f (pos m e (s + 1 + i))) := hP0
    clear hF0 hP0
    have hjm : (j : Int) + 1 < (m : Int) := by omega
    obtain ⟨q, hqe⟩ : ∃ q, q = pos m e (s + j + 1) := ⟨_, rfl⟩
    have hq : q < m := by rw [hqe]; exact pos_lt m e _ he (by omega)
    have hb1 : bits .and .i64 ((sl : Int) + ((j : Int) + 1)) ((m : Int) - 1) = (q : Int) := by
      have := mask_pos hpw sl (j + 1) hsl (by omega)
      rw [HS.out, pos_pos m e s (j + 1) he (by omega) (by omega)] at this
      rw [hqe, ← Nat.add_assoc] at *
      rw [HS.out]
      exact this
    have hcq := hO1.cell hq
    have hfq := hO1.frozen q
    obtain ⟨v, hve⟩ : ∃ v, v = F q := ⟨_, rfl⟩
    rw [← hve] at hcq
    have HV : Hid (v = f (pos m e (s + j + 1))) := by show v = _; rw [hve, hqe]; exact mod1_zero R j hF.out hj
    have HQ : Hid (q = pos m e (s + j + 1)) := hqe
    clear hve hqe
    by_cases hend : s + j + 1 = t
    · have hvz : (v == 0) = true := by rw [HV.out, hend, R.tz]; rfl
      have HJ : Hid (j = t - 1 - s) := by show j = _; omega
      have HM2 : Hid (Mod2 m e s t B 0 f P w wr) := by
        have e1 := HJ.out
        refine ⟨by rw [← e1]; exact hP.out, hO1.congr (mod1_end R (by rw [← e1]; exact hF.out)), hO2, hbel, hsz⟩
      clear hend hO1 hO2 hbel hsz hP hF
      go_wp2
      clear hcq hfq hvz hb1
      have hjt : s + j + 1 ≤ t := by have := HJ.out; omega
      go_loopw [11, 12, 13] (fun jv _ _ wx => ∃ (i : Nat), i ≤ j ∧ jv = .int .i64 (i : Nat) ∧ Mod2 m e s t B i f P w wx) (fun jv _ _ _ => j - (intOf jv).toNat)
      case atStart => exact ⟨0, Nat.zero_le _, rfl, HM2.out⟩
      case round =>
        clear HM2
        obtain ⟨wo, hwo⟩ : ∃ wo : World, wo = wr := ⟨_, rfl⟩
        obtain ⟨i, hi, rfl, hP0, hO1, hO2, hbel, hsz⟩ := hrel
        have hP : Hid (∀ i, i < t - 1 - s → P i = f (pos m e (s + 1 + i))) := hP0
        clear hP0
        by_cases hlt : i < j
        · have hi1 : s + i + 1 < t := by omega
          obtain ⟨v, hve⟩ : ∃ v, v = P i := ⟨_, rfl⟩
          have hv1 : v = f (pos m e (s + i + 1)) := by rw [hve, hP.out i (by have := HJ.out; omega)]; congr 2; omega
          have hcv := hO2.cell (i := i) (by omega)
          rw [← hve] at hcv
          have huv : 0 ≤ v ∧ v ≤ 18446744073709551615 := by rw [hv1]; exact hu _ (pos_lt m e _ he (by omega))
          obtain ⟨hT1, hT2, hT3, hT4, hT5⟩ := tgt_facts R i hi1
          rw [← hv1] at hT1 hT4 hT5
          have hhl := hl_lt m e v he
          have hb2 : bits .and .i64 (v / 4294967296) ((m : Int) - 1) = (pos m e (hl m e v) : Nat) := by rw [mask_hm hpw _ huv.1, hm_hl m e v he]
          obtain ⟨h, hhe⟩ : ∃ h, h = hl m e v := ⟨_, rfl⟩
          rw [← hhe] at hT1 hT4 hhl hb2
          obtain ⟨tg, htg⟩ : ∃ tg, tg = tgt m e f s i := ⟨_, rfl⟩
          rw [← htg] at hT1 hT2 hT3 hT4 hT5
          obtain ⟨p0, hp0⟩ : ∃ p0, p0 = pos m e h := ⟨_, rfl⟩
          rw [← hp0] at hb2
          have HH : Hid (p0 = pos m e h ∧ wt m e f s t i (pos m e tg) = 0 ∧ (∀ k, h ≤ k → k < tg → wt m e f s t i (pos m e k) ≠ 0) ∧ ∀ x, x < m → upd (wt m e f s t i) (pos m e tg) v x = wt m e f s t (i + 1) x) := ⟨hp0, hT3, hT4, hT5⟩
          clear hve hv1 hhe htg hT3 hT4 hT5 hp0
          go_wp2
          go_loop [13, 14] (fun pv iv => ∃ d : Nat, h + d ≤ tg ∧ pv = .int .i64 (pos m e (h + d) : Nat) ∧ iv = .int .i64 (d : Nat)) (fun _ iv => m - (intOf iv).toNat)
          case atStart => exact ⟨0, by omega, by rw [HH.out.1]; rfl, rfl⟩
          case round =>
            obtain ⟨d, hd, rfl, rfl⟩ := hrel
            obtain ⟨p, hpe⟩ : ∃ p, p = pos m e (h + d) := ⟨_, rfl⟩
            have hp : p < m := by rw [hpe]; exact pos_lt m e _ he (by omega)
            have hcp := hO1.cell hp
            have hfp := hO1.frozen p
            rw [← hpe]
            by_cases hend : h + d = tg
            · have hz : (wt m e f s t i p == 0) = true := by rw [hpe, hend, HH.out.2.1]; rfl
              have HP : Hid (p = pos m e tg) := by show p = _; rw [hpe, hend]
              have hdm : (d : Int) < (m : Int) := by omega
              clear hpe hend
              go_wp2
              go_roundw
              case rel =>
                refine ⟨i + 1, by omega, by go_num, hP.out, ?_, hO2.set_other _ _ (by simp), hbel.setCell (Nat.le_refl _) _, by simp only [World.size_setCell]; omega⟩
                have := hO1.set p v
                refine this.congr (fun x hx => ?_)
                rw [HP.out]
                exact HH.out.2.2.2 x hx
              case measure => simp [intOf]; omega
            · have hz : (wt m e f s t i p == 0) = false := by
                have : wt m e f s t i p ≠ 0 := by rw [hpe]; exact HH.out.2.2.1 _ (by omega) (by omega)
                simp [this]
              have hdm : (d : Int) < (m : Int) := by omega
              obtain ⟨p', hpe'⟩ : ∃ p', p' = pos m e (h + d + 1) := ⟨_, rfl⟩
              have hb3 : bits .and .i64 ((p : Int) + 1) ((m : Int) - 1) = (p' : Int) := by
                rw [mask_nx hpw p hp, hpe, nx_pos m e _ he (by omega), hpe']
              have HP : Hid (p' = pos m e (h + (d + 1))) := hpe'
              have hlt2 : h + d + 1 ≤ tg := by omega
              clear hpe hend hpe'
              go_wp2
              go_round
              case rel => exact ⟨d + 1, by omega, by rw [HP.out], by go_num⟩
              case measure => simp [intOf]; omega
        · have hij : i = j := by omega
          have HIJ : Hid (i = t - 1 - s) := by show i = _; rw [hij]; exact HJ.out
          clear hij
          go_wp2
          go_ret
          refine ⟨rfl, ?_, hbel⟩
          have e1 := HIJ.out
          subst e1
          exact hO1.congr (fun x _ => wt_last R x)
    · have hlt : s + j + 1 < t := by omega
      have hvz : (v == 0) = false := by
        have : v ≠ 0 := by rw [HV.out]; exact R.full _ (by omega) hlt
        simp [this]
      have hcn := new_one wr (.int .u64 v)
      have hOa := hO1.alloc (.cells #[.int .u64 v] 29)
      have hOb := hO2.alloc (.cells #[.int .u64 v] 29)
      have HBel : Hid (Below B w (wr.alloc (.cells #[.int .u64 v] 29)) ∧ B + 2 ≤ (wr.alloc (.cells #[.int .u64 v] 29)).heap.size) := ⟨hbel.alloc (by omega) _, by simp; omega⟩
      clear hbel hO1 hO2
      go_wp2_with (at_builtin; refine append_row _ rfl _ _ rfl (B + 1) j m P v rfl hOb wr.heap.size 1 rfl hcn (by omega) ?_; intro w3 ho3 hk3 hs3; have ho4 := hOa.kept hk3 (by omega); have hcq3 := ho4.cell hq; have hfq3 := ho4.frozen q)
      go_roundw
      case rel =>
        refine ⟨j + 1, upd F q 0, upd P j v, by omega, by go_num, rfl, ?_, ?_, ho4.set q 0, ho3.set_other _ _ (by simp), ?_, ?_⟩
        · rw [HQ.out]; exact mod1_next R j hF.out hlt
        · intro i hi
          by_cases hij : i = j
          · subst hij; rw [upd_same, HV.out]; congr 2; omega
          · rw [upd_other _ _ _ _ hij]; exact hP.out i (by omega)
        · exact (HBel.out.1.trans (hk3.below (by have := HBel.out.2; omega) (fun k hk => by omega))).setCell (Nat.le_refl _) _
        · simp only [World.size_setCell]; have := HBel.out.2; have := hk3.size; omega
      case measure => simp [intOf]; omega

end Go.Proofs.Qxb6602393a
