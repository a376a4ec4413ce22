/- PLAIN MATHEMATICS OF THE REMOVAL: the shift back and the putting back anew come to one table. No Go in sight. -/
import Derived.Test.Qxb6602393aPlain1
set_option linter.unusedVariables false
namespace Go.Proofs.Qxb6602393a.Plain

/-- the hole behind i slots -/
def hole (m e : Nat) (f : Nat → Int) (s : Nat) : Nat → Nat
  | 0 => s
  | i + 1 => if hl m e (f (pos m e (s + i + 1))) ≤ hole m e f s i then s + i + 1 else hole m e f s i
/-- the table behind i slots -/
def tab (m e : Nat) (f : Nat → Int) (s : Nat) : Nat → (Nat → Int)
  | 0 => upd f (pos m e s) 0
  | i + 1 => if hl m e (f (pos m e (s + i + 1))) ≤ hole m e f s i then upd (upd (tab m e f s i) (pos m e (hole m e f s i)) (f (pos m e (s + i + 1)))) (pos m e (s + i + 1)) 0 else tab m e f s i

/-- the set-up: e an empty slot, the entry to go at s (counted from e), t the next empty slot -/
structure Run (m e : Nat) (f : Nat → Int) (s t : Nat) : Prop where
  he : e < m
  h0 : f e = 0
  lr : LR m e f
  s1 : 1 ≤ s
  st : s < t
  tm : t ≤ m
  tz : f (pos m e t) = 0
  full : ∀ i, s ≤ i → i < t → f (pos m e i) ≠ 0

structure Inv (m e : Nat) (f : Nat → Int) (s i h : Nat) (F : Nat → Int) : Prop where
  lo : s ≤ h
  hi : h ≤ s + i
  out : ∀ k, k < m → k < s ∨ s + i < k → F (pos m e k) = f (pos m e k)
  zero : F (pos m e h) = 0
  one : ∀ k, s ≤ k → k ≤ s + i → k ≠ h → F (pos m e k) ≠ 0 ∧ 1 ≤ hl m e (F (pos m e k)) ∧ hl m e (F (pos m e k)) ≤ k ∧ (h < k → h < hl m e (F (pos m e k))) ∧
    ∀ j, hl m e (F (pos m e k)) ≤ j → j < s → f (pos m e j) ≠ 0

theorem inv_step {m e : Nat} {f : Nat → Int} {s t i h : Nat} {F : Nat → Int} (R : Run m e f s t) (hi : s + i + 1 < t) (I : Inv m e f s i h F) :
    (hl m e (f (pos m e (s + i + 1))) ≤ h → Inv m e f s (i + 1) (s + i + 1) (upd (upd F (pos m e h) (f (pos m e (s + i + 1)))) (pos m e (s + i + 1)) 0)) ∧
    (¬ hl m e (f (pos m e (s + i + 1))) ≤ h → Inv m e f s (i + 1) h F) := by
  have htm := R.tm
  have hs1 := R.s1
  have hlo := I.lo
  have hhi := I.hi
  have hv := R.lr (s + i + 1) (by omega) (by omega) (R.full _ (by omega) hi)
  have inj : ∀ a b, a < m → b < m → pos m e a = pos m e b → a = b := fun a b ha hb => pos_inj m e a b R.he ha hb
  constructor
  · intro hc
    refine ⟨by omega, by omega, ?_, upd_same _ _ _, ?_⟩
    · intro k hk hor
      rw [upd_other _ _ _ _ (fun hh => by have := inj _ _ hk (by omega) hh; omega), upd_other _ _ _ _ (fun hh => by have := inj _ _ hk (by omega) hh; omega)]
      exact I.out k hk (by omega)
    · intro k hk1 hk2 hne
      rw [upd_other _ _ _ _ (fun hh => by have := inj _ _ (by omega) (by omega) hh; omega)]
      by_cases hkh : k = h
      · subst hkh
        rw [upd_same]
        refine ⟨R.full _ (by omega) hi, hv.1, hc, fun hh => by omega, fun j h1 h2 => hv.2.2 j h1 (by omega)⟩
      · rw [upd_other _ _ _ _ (fun hh => by have := inj _ _ (by omega) (by omega) hh; omega)]
        have := I.one k hk1 (by omega) hkh
        exact ⟨this.1, this.2.1, this.2.2.1, fun hh => by omega, this.2.2.2.2⟩
  · intro hc
    refine ⟨by omega, by omega, fun k hk hor => I.out k hk (by omega), I.zero, ?_⟩
    intro k hk1 hk2 hne
    by_cases hkk : k = s + i + 1
    · subst hkk
      rw [I.out _ (by omega) (by omega)]
      exact ⟨R.full _ (by omega) hi, hv.1, hv.2.1, fun _ => by omega, fun j h1 h2 => hv.2.2 j h1 (by omega)⟩
    · exact I.one k hk1 (by omega) hne

theorem inv_zero {m e : Nat} {f : Nat → Int} {s t : Nat} (R : Run m e f s t) : Inv m e f s 0 s (upd f (pos m e s) 0) := by
  have htm := R.tm
  have hst := R.st
  have inj : ∀ a b, a < m → b < m → pos m e a = pos m e b → a = b := fun a b ha hb => pos_inj m e a b R.he ha hb
  refine ⟨Nat.le_refl _, by omega, ?_, upd_same _ _ _, fun k h1 h2 h3 => by omega⟩
  intro k hk hor
  exact upd_other _ _ _ _ (fun hh => by have := inj _ _ hk (by omega) hh; omega)

theorem inv_all {m e : Nat} {f : Nat → Int} {s t : Nat} (R : Run m e f s t) (i : Nat) (hi : s + i < t) : Inv m e f s i (hole m e f s i) (tab m e f s i) := by
  induction i with
  | zero => exact inv_zero R
  | succ i ih =>
    have I := ih (by omega)
    have S := inv_step R (by omega) I
    simp only [hole, tab]
    by_cases hc : hl m e (f (pos m e (s + i + 1))) ≤ hole m e f s i
    · rw [if_pos hc, if_pos hc]; exact S.1 hc
    · rw [if_neg hc, if_neg hc]; exact S.2 hc

/-- the last table is well formed -/
theorem inv_end {m e : Nat} {f : Nat → Int} {s t h : Nat} {F : Nat → Int} (R : Run m e f s t) (I : Inv m e f s (t - 1 - s) h F) : LR m e F ∧ F e = 0 := by
  have htm := R.tm
  have hst := R.st
  have hs1 := R.s1
  have hlo := I.lo
  have hhi := I.hi
  refine ⟨?_, ?_⟩
  · intro k hk1 hk hne
    by_cases hks : k < s
    · rw [I.out k hk (by omega)] at hne ⊢
      have := R.lr k hk1 hk hne
      exact ⟨this.1, this.2.1, fun j h1 h2 => by rw [I.out j (by omega) (by omega)]; exact this.2.2 j h1 h2⟩
    · by_cases hkt : k < t
      · have hkh : k ≠ h := fun hh => by rw [hh] at hne; exact hne I.zero
        have := I.one k (by omega) (by omega) hkh
        refine ⟨this.2.1, this.2.2.1, fun j h1 h2 => ?_⟩
        by_cases hjs : j < s
        · rw [I.out j (by omega) (by omega)]; exact this.2.2.2.2 j h1 hjs
        · by_cases hjh : j = h
          · exfalso
            by_cases hhk : h < k
            · have := this.2.2.2.1 hhk; omega
            · omega
          · exact (I.one j (by omega) (by omega) hjh).1
      · rw [I.out k hk (by omega)] at hne ⊢
        have := R.lr k hk1 hk hne
        have hgt : t < hl m e (f (pos m e k)) := by
          apply Classical.byContradiction
          intro hle
          by_cases hkt2 : k = t
          · subst hkt2; exact hne R.tz
          · exact this.2.2 t (by omega) (by omega) R.tz
        exact ⟨this.1, this.2.1, fun j h1 h2 => by rw [I.out j (by omega) (by omega)]; exact this.2.2 j h1 h2⟩
  · have := I.out 0 (by have := R.he; omega) (by omega)
    rw [pos_zero m e R.he] at this
    rw [this]; exact R.h0

/-- a move turns no count -/
theorem occ_move (F : Nat → Int) (m a b : Nat) (v x : Int) (ha : a < m) (hb : b < m) (hab : a ≠ b) (hza : F a = 0) (hvb : F b = v) : occ (upd (upd F a v) b 0) x m = occ F x m := by
  have h1 := occ_upd_in F a v x m ha
  have h2 := occ_upd_in (upd F a v) b 0 x m hb
  rw [upd_other _ _ _ _ (Ne.symm hab), hvb] at h2
  rw [hza] at h1
  omega

theorem occ_tab {m e : Nat} {f : Nat → Int} {s t : Nat} (R : Run m e f s t) (x : Int) (i : Nat) (hi : s + i < t) : occ (tab m e f s i) x m = occ (upd f (pos m e s) 0) x m := by
  induction i with
  | zero => rfl
  | succ i ih =>
    rw [← ih (by omega)]
    have I := inv_all R i (by omega)
    have htm := R.tm
    have hhi := I.hi
    simp only [tab]
    by_cases hc : hl m e (f (pos m e (s + i + 1))) ≤ hole m e f s i
    · rw [if_pos hc]
      exact occ_move _ _ _ _ _ _ (pos_lt m e _ R.he (by omega)) (pos_lt m e _ R.he (by omega)) (fun hh => by have := pos_inj m e _ _ R.he (by omega) (by omega) hh; omega) I.zero (I.out _ (by omega) (by omega))
    · rw [if_neg hc]

theorem cnt_of_occ (F G : Nat → Int) (m : Nat) (h : occ F 0 m = occ G 0 m) : cnt F m = cnt G m := by
  have := cnt_occ F m
  have := cnt_occ G m
  omega

theorem cnt_upd_zero (f : Nat → Int) (p m : Nat) (hp : p < m) (hne : f p ≠ 0) : cnt (upd f p 0) m + 1 = cnt f m := by
  have h1 := occ_upd_in f p 0 0 m hp
  rw [if_neg hne, if_pos rfl] at h1
  have := cnt_occ (upd f p 0) m
  have := cnt_occ f m
  omega

/-! ### The model: the run emptied, and each entry put back -/
def wt (m e : Nat) (f : Nat → Int) (s t j : Nat) : Nat → Int := fun x => if s + j < dst m e x ∧ dst m e x < t then 0 else tab m e f s j x

theorem wt_pos {m e : Nat} {f : Nat → Int} {s t : Nat} (R : Run m e f s t) (j k : Nat) (hk : k < m) : wt m e f s t j (pos m e k) = if s + j < k ∧ k < t then 0 else tab m e f s j (pos m e k) := by
  unfold wt; rw [dst_pos m e k R.he hk]

/-- where the next entry goes -/
def tgt (m e : Nat) (f : Nat → Int) (s j : Nat) : Nat := if hl m e (f (pos m e (s + j + 1))) ≤ hole m e f s j then hole m e f s j else s + j + 1

theorem tgt_facts {m e : Nat} {f : Nat → Int} {s t : Nat} (R : Run m e f s t) (j : Nat) (hj : s + j + 1 < t) :
    hl m e (f (pos m e (s + j + 1))) ≤ tgt m e f s j ∧ tgt m e f s j < t ∧ wt m e f s t j (pos m e (tgt m e f s j)) = 0 ∧
    (∀ k, hl m e (f (pos m e (s + j + 1))) ≤ k → k < tgt m e f s j → wt m e f s t j (pos m e k) ≠ 0) ∧
    (∀ x, x < m → upd (wt m e f s t j) (pos m e (tgt m e f s j)) (f (pos m e (s + j + 1))) x = wt m e f s t (j + 1) x) := by
  have I := inv_all R j (by omega)
  have htm := R.tm
  have hs1 := R.s1
  have hlo := I.lo
  have hhi := I.hi
  have hv := R.lr (s + j + 1) (by omega) (by omega) (R.full _ (by omega) hj)
  have inj : ∀ a b, a < m → b < m → pos m e a = pos m e b → a = b := fun a b ha hb => pos_inj m e a b R.he ha hb
  have full : ∀ k, hl m e (f (pos m e (s + j + 1))) ≤ k → k ≤ s + j → k ≠ hole m e f s j → wt m e f s t j (pos m e k) ≠ 0 := by
    intro k h1 h2 h3
    rw [wt_pos R j k (by omega), if_neg (by omega)]
    by_cases hks : k < s
    · rw [I.out k (by omega) (by omega)]; exact hv.2.2 k h1 (by omega)
    · exact (I.one k (by omega) h2 h3).1
  by_cases hc : hl m e (f (pos m e (s + j + 1))) ≤ hole m e f s j
  · have ht : tgt m e f s j = hole m e f s j := if_pos hc
    rw [ht]
    refine ⟨hc, by omega, ?_, fun k h1 h2 => full k h1 (by omega) (by omega), fun x hx => ?_⟩
    · rw [wt_pos R j _ (by omega), if_neg (by omega)]; exact I.zero
    · have hk := dst_lt m e x R.he hx
      have hp := pos_dst m e x R.he hx
      generalize dst m e x = k at *
      subst hp
      rw [wt_pos R (j + 1) k hk]
      have htab : tab m e f s (j + 1) = upd (upd (tab m e f s j) (pos m e (hole m e f s j)) (f (pos m e (s + j + 1)))) (pos m e (s + j + 1)) 0 := by simp only [tab]; rw [if_pos hc]
      rw [htab]
      by_cases hkh : k = hole m e f s j
      · subst hkh
        rw [upd_same, if_neg (by omega), upd_other _ _ _ _ (fun hh => by have := inj _ _ hk (by omega) hh; omega), upd_same]
      · rw [upd_other _ _ _ _ (fun hh => by have := inj _ _ hk (by omega) hh; omega), wt_pos R j k hk]
        by_cases hkk : k = s + j + 1
        · subst hkk
          rw [if_pos (by omega), if_neg (by omega), upd_same]
        · rw [upd_other _ _ _ _ (fun hh => by have := inj _ _ hk (by omega) hh; omega), upd_other _ _ _ _ (fun hh => by have := inj _ _ hk (by omega) hh; omega)]
          by_cases hr : s + j < k ∧ k < t
          · rw [if_pos hr, if_pos (by omega)]
          · rw [if_neg hr, if_neg (by omega)]
  · have ht : tgt m e f s j = s + j + 1 := if_neg hc
    rw [ht]
    refine ⟨hv.2.1, hj, ?_, fun k h1 h2 => full k h1 (by omega) (by omega), fun x hx => ?_⟩
    · rw [wt_pos R j _ (by omega), if_pos (by omega)]
    · have hk := dst_lt m e x R.he hx
      have hp := pos_dst m e x R.he hx
      generalize dst m e x = k at *
      subst hp
      have htab : tab m e f s (j + 1) = tab m e f s j := by simp only [tab]; rw [if_neg hc]
      rw [wt_pos R (j + 1) k hk, htab]
      by_cases hkk : k = s + j + 1
      · subst hkk
        rw [upd_same, if_neg (by omega), I.out _ hk (by omega)]
      · rw [upd_other _ _ _ _ (fun hh => by have := inj _ _ hk (by omega) hh; omega), wt_pos R j k hk]
        by_cases hr : s + j < k ∧ k < t
        · rw [if_pos hr, if_pos (by omega)]
        · rw [if_neg hr, if_neg (by omega)]

/-- the run emptied -/
theorem wt_zero {m e : Nat} {f : Nat → Int} {s t : Nat} (R : Run m e f s t) (k : Nat) (hk : k < m) : wt m e f s t 0 (pos m e k) = if s ≤ k ∧ k < t then 0 else f (pos m e k) := by
  have htm := R.tm
  have hst := R.st
  rw [wt_pos R 0 k hk]
  by_cases hks : k = s
  · subst hks
    rw [if_neg (by omega), if_pos (by omega)]
    exact upd_same _ _ _
  · by_cases hr : s ≤ k ∧ k < t
    · rw [if_pos hr, if_pos (by omega)]
    · rw [if_neg hr, if_neg (by omega)]
      exact upd_other _ _ _ _ (fun hh => by have := pos_inj m e _ _ R.he hk (by omega) hh; omega)

theorem wt_last {m e : Nat} {f : Nat → Int} {s t : Nat} (R : Run m e f s t) (x : Nat) : wt m e f s t (t - 1 - s) x = tab m e f s (t - 1 - s) x := by
  have := R.st
  unfold wt
  rw [if_neg (by omega)]

/-- there is a next empty slot -/
theorem next_empty (m e : Nat) (f : Nat → Int) (s : Nat) (hs : s < m) (he : e < m) (h0 : f e = 0) (hne : f (pos m e s) ≠ 0) : ∃ t, s < t ∧ t ≤ m ∧ f (pos m e t) = 0 ∧ ∀ i, s ≤ i → i < t → f (pos m e i) ≠ 0 := by
  have key : ∀ d, s + d ≤ m → (∃ t, s < t ∧ t ≤ m ∧ f (pos m e t) = 0 ∧ ∀ i, s ≤ i → i < t → f (pos m e i) ≠ 0) ∨ ∀ i, s ≤ i → i ≤ s + d → f (pos m e i) ≠ 0 := by
    intro d
    induction d with
    | zero => intro _; right; intro i h1 h2; rw [show i = s by omega]; exact hne
    | succ d ih =>
      intro hd
      rcases ih (by omega) with h | h
      · exact .inl h
      · by_cases hz : f (pos m e (s + (d + 1))) = 0
        · exact .inl ⟨s + (d + 1), by omega, hd, hz, fun i h1 h2 => h i h1 (by omega)⟩
        · right
          intro i h1 h2
          by_cases hi : i = s + (d + 1)
          · subst hi; exact hz
          · exact h i h1 (by omega)
  rcases key (m - s) (by omega) with h | h
  · exact h
  · have := h m (by omega) (by omega)
    rw [pos_full m e he] at this
    exact absurd h0 this

/-- the set-up out of a well-formed table -/
theorem run_of (m : Nat) (f : Nat → Int) (hv : V m f) (slot : Nat) (hs : slot < m) (hne : f slot ≠ 0) : ∃ e s t, Run m e f s t ∧ slot = pos m e s := by
  obtain ⟨⟨e, he, h0⟩, hr⟩ := hv
  have hp := pos_dst m e slot he hs
  have hlt := dst_lt m e slot he hs
  generalize dst m e slot = s at *
  subst hp
  obtain ⟨t, h1, h2, h3, h4⟩ := next_empty m e f s hlt he h0 hne
  refine ⟨e, s, t, ⟨he, h0, (reach_lr m e f he h0).1 hr, ?_, h1, h2, h3, h4⟩, rfl⟩
  apply Classical.byContradiction
  intro hh
  rw [show s = 0 by omega, pos_zero m e he] at hne
  exact hne h0

end Go.Proofs.Qxb6602393a.Plain
