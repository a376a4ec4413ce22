/- PLAIN MATHEMATICS OF THE SLOT TABLE: no Go in sight. -/
set_option linter.unusedVariables false
namespace Go.Proofs.Qxb6602393a.Plain

/-! ### Functions as tables -/
def upd (f : Nat → Int) (p : Nat) (v : Int) : Nat → Int := fun i => if i = p then v else f i
theorem upd_same (f : Nat → Int) (p : Nat) (v : Int) : upd f p v p = v := by simp [upd]
theorem upd_other (f : Nat → Int) (p : Nat) (v : Int) (i : Nat) (h : i ≠ p) : upd f p v i = f i := by simp [upd, h]

/-- how often the value v stands among the first k entries -/
def occ (f : Nat → Int) (v : Int) : Nat → Nat
  | 0 => 0
  | k + 1 => occ f v k + if f k = v then 1 else 0

/-- how many of the first k entries are not nought -/
def cnt (f : Nat → Int) : Nat → Nat
  | 0 => 0
  | k + 1 => cnt f k + if f k = 0 then 0 else 1

theorem cnt_occ (f : Nat → Int) (k : Nat) : cnt f k + occ f 0 k = k := by
  induction k with
  | zero => rfl
  | succ k ih => simp only [cnt, occ]; split <;> omega

theorem cnt_le (f : Nat → Int) (k : Nat) : cnt f k ≤ k := by have := cnt_occ f k; omega

theorem cnt_mono (f : Nat → Int) (a d : Nat) : cnt f a ≤ cnt f (a + d) := by
  induction d with
  | zero => exact Nat.le_refl _
  | succ d ih => rw [← Nat.add_assoc]; simp only [cnt]; omega

theorem occ_le (f : Nat → Int) (v : Int) (k : Nat) : occ f v k ≤ k := by
  induction k with
  | zero => exact Nat.le_refl _
  | succ k ih => simp only [occ]; split <;> omega

theorem occ_congr (f g : Nat → Int) (v : Int) (k : Nat) (h : ∀ i, i < k → f i = g i) : occ f v k = occ g v k := by
  induction k with
  | zero => rfl
  | succ k ih => simp only [occ]; rw [ih (fun i hi => h i (by omega)), h k (by omega)]

theorem cnt_congr (f g : Nat → Int) (k : Nat) (h : ∀ i, i < k → f i = g i) : cnt f k = cnt g k := by
  induction k with
  | zero => rfl
  | succ k ih => simp only [cnt]; rw [ih (fun i hi => h i (by omega)), h k (by omega)]

theorem occ_upd_out (f : Nat → Int) (p : Nat) (x v : Int) (k : Nat) (h : k ≤ p) : occ (upd f p x) v k = occ f v k :=
  occ_congr _ _ _ _ fun i hi => upd_other _ _ _ _ (by omega)

theorem occ_upd_in (f : Nat → Int) (p : Nat) (x v : Int) (k : Nat) (h : p < k) : occ (upd f p x) v k + (if f p = v then 1 else 0) = occ f v k + if x = v then 1 else 0 := by
  induction k with
  | zero => omega
  | succ k ih =>
    by_cases hp : p = k
    · subst hp
      simp only [occ, upd_same]
      rw [occ_upd_out _ _ _ _ _ (Nat.le_refl _)]
      omega
    · have := ih (by omega)
      simp only [occ]
      rw [upd_other _ _ _ _ (by omega : k ≠ p)]
      omega

theorem occ_pos_ex (f : Nat → Int) (v : Int) (k : Nat) (h : 0 < occ f v k) : ∃ i, i < k ∧ f i = v := by
  induction k with
  | zero => simp [occ] at h
  | succ k ih =>
    by_cases hk : f k = v
    · exact ⟨k, by omega, hk⟩
    · simp only [occ, hk, if_false] at h
      obtain ⟨i, hi, h2⟩ := ih (by omega)
      exact ⟨i, by omega, h2⟩

theorem occ_ex_pos (f : Nat → Int) (v : Int) (k i : Nat) (hi : i < k) (h : f i = v) : 0 < occ f v k := by
  induction k with
  | zero => omega
  | succ k ih =>
    simp only [occ]
    by_cases hk : i = k
    · subst hk; simp [h]
    · have := ih (by omega); omega

theorem cnt_lt_empty (f : Nat → Int) (k : Nat) (h : cnt f k < k) : ∃ i, i < k ∧ f i = 0 := by
  have := cnt_occ f k
  exact occ_pos_ex f 0 k (by omega)

theorem empty_cnt_lt (f : Nat → Int) (k i : Nat) (hi : i < k) (h : f i = 0) : cnt f k < k := by
  have := cnt_occ f k
  have := occ_ex_pos f 0 k i hi h
  omega

/-! ### Going round the table -/
def nx (m q : Nat) : Nat := if q + 1 < m then q + 1 else 0
def dst (m h p : Nat) : Nat := if h ≤ p then p - h else p + m - h
def pos (m e k : Nat) : Nat := if e + k < m then e + k else e + k - m
def hm (m : Nat) (v : Int) : Nat := (v.toNat / 4294967296) % m

theorem hm_lt (m : Nat) (v : Int) (h : 0 < m) : hm m v < m := Nat.mod_lt _ h
theorem pos_lt (m e k : Nat) (he : e < m) (hk : k ≤ m) : pos m e k < m := by unfold pos; split <;> omega
theorem pos_zero (m e : Nat) (he : e < m) : pos m e 0 = e := by unfold pos; split <;> omega
theorem pos_full (m e : Nat) (he : e < m) : pos m e m = e := by unfold pos; split <;> omega
theorem dst_lt (m h p : Nat) (hh : h < m) (hp : p < m) : dst m h p < m := by unfold dst; split <;> omega
theorem pos_dst (m e p : Nat) (he : e < m) (hp : p < m) : pos m e (dst m e p) = p := by unfold pos dst; split <;> split <;> omega
theorem dst_pos (m e k : Nat) (he : e < m) (hk : k < m) : dst m e (pos m e k) = k := by unfold pos dst; split <;> split <;> omega
theorem nx_pos (m e k : Nat) (he : e < m) (hk : k < m) : nx m (pos m e k) = pos m e (k + 1) := by unfold nx pos; split <;> split <;> (try split) <;> omega
theorem nx_lt (m q : Nat) (h : 0 < m) : nx m q < m := by unfold nx; split <;> omega
theorem dst_pos_pos (m e a b : Nat) (he : e < m) (ha : a < m) (hb : b < m) : dst m (pos m e a) (pos m e b) = dst m a b := by
  unfold dst pos; split <;> split <;> (try split) <;> (try split) <;> omega
theorem pos_inj (m e a b : Nat) (he : e < m) (ha : a < m) (hb : b < m) (h : pos m e a = pos m e b) : a = b := by
  rw [← dst_pos m e a he ha, ← dst_pos m e b he hb, h]
theorem pos_pos (m e a i : Nat) (he : e < m) (h : a + i ≤ m) (ha : a < m) : pos m (pos m e a) i = pos m e (a + i) := by
  unfold pos; split <;> split <;> (try split) <;> omega
theorem pos_pos_over (m e a i : Nat) (he : e < m) (h : m ≤ a + i) (ha : a < m) (hi : i ≤ m) : pos m (pos m e a) i = pos m e (a + i - m) := by
  unfold pos; split <;> split <;> (try split) <;> omega

/-! ### Every entry can be reached from its home -/
def Reach (m : Nat) (f : Nat → Int) : Prop := ∀ p, p < m → f p ≠ 0 → ∀ i, i ≤ dst m (hm m (f p)) p → f (pos m (hm m (f p)) i) ≠ 0
def V (m : Nat) (f : Nat → Int) : Prop := (∃ e, e < m ∧ f e = 0) ∧ Reach m f

/-- the home of v, counted from e on -/
def hl (m e : Nat) (v : Int) : Nat := dst m e (hm m v)
theorem hl_lt (m e : Nat) (v : Int) (he : e < m) : hl m e v < m := dst_lt _ _ _ he (hm_lt _ _ (by omega))
theorem hm_hl (m e : Nat) (v : Int) (he : e < m) : hm m v = pos m e (hl m e v) := (pos_dst m e _ he (hm_lt _ _ (by omega))).symm

/-- the same, counted from an empty slot e on -/
def LR (m e : Nat) (f : Nat → Int) : Prop := ∀ k, 1 ≤ k → k < m → f (pos m e k) ≠ 0 →
  1 ≤ hl m e (f (pos m e k)) ∧ hl m e (f (pos m e k)) ≤ k ∧ ∀ i, hl m e (f (pos m e k)) ≤ i → i ≤ k → f (pos m e i) ≠ 0

theorem reach_lr (m e : Nat) (f : Nat → Int) (he : e < m) (h0 : f e = 0) : Reach m f ↔ LR m e f := by
  constructor
  · intro H k hk1 hk hne
    have hp := pos_lt m e k he (by omega)
    have R := H (pos m e k) hp hne
    have hh := hl_lt m e (f (pos m e k)) he
    rw [hm_hl m e _ he] at R
    generalize hv : hl m e (f (pos m e k)) = a at *
    rw [dst_pos_pos m e a k he hh hk] at R
    have key : a ≤ k := by
      apply Classical.byContradiction
      intro hak
      have hd : dst m a k = k + m - a := by unfold dst; rw [if_neg (by omega)]
      have := R (m - a) (by omega)
      rw [pos_pos_over m e a (m - a) he (by omega) hh (by omega)] at this
      rw [show a + (m - a) - m = 0 by omega, pos_zero m e he] at this
      exact this h0
    have hd : dst m a k = k - a := by unfold dst; rw [if_pos key]
    have all : ∀ i, a ≤ i → i ≤ k → f (pos m e i) ≠ 0 := by
      intro i h1 h2
      have := R (i - a) (by omega)
      rw [pos_pos m e a (i - a) he (by omega) hh, show a + (i - a) = i by omega] at this
      exact this
    refine ⟨?_, key, all⟩
    apply Classical.byContradiction
    intro ha
    have := all 0 (by omega) (by omega)
    rw [pos_zero m e he] at this
    exact this h0
  · intro H p hp hne i hi
    have hk := dst_lt m e p he hp
    have hpe := pos_dst m e p he hp
    generalize hkk : dst m e p = k at *
    have hk1 : 1 ≤ k := by
      apply Classical.byContradiction
      intro h
      rw [show k = 0 by omega, pos_zero m e he] at hpe
      rw [← hpe] at hne
      exact hne h0
    have R := H k hk1 hk (by rw [hpe]; exact hne)
    rw [hpe] at R
    have hh := hl_lt m e (f p) he
    rw [hm_hl m e (f p) he] at hi ⊢
    generalize hv : hl m e (f p) = a at *
    rw [← hpe, dst_pos_pos m e a k he hh hk] at hi
    have hd : dst m a k = k - a := by unfold dst; rw [if_pos R.2.1]
    rw [pos_pos m e a i he (by omega) hh]
    exact R.2.2 (a + i) (by omega) (by omega)

/-! ### What zzValid reckons: the run of full slots that ends at k -/
def rl (m e : Nat) (f : Nat → Int) : Nat → Nat
  | 0 => 0
  | k + 1 => if f (pos m e (k + 1)) = 0 then 0 else rl m e f k + 1
/-- slot k has passed zzValid's test -/
def Ok (m e : Nat) (f : Nat → Int) (k : Nat) : Prop := f (pos m e k) ≠ 0 → dst m (hm m (f (pos m e k))) (pos m e k) < rl m e f k

theorem rl_le (m e : Nat) (f : Nat → Int) (k : Nat) : rl m e f k ≤ k := by
  induction k with
  | zero => exact Nat.le_refl _
  | succ k ih => simp only [rl]; split <;> omega

theorem rl_full (m e : Nat) (f : Nat → Int) (k : Nat) : ∀ i, k < i + rl m e f k → i ≤ k → f (pos m e i) ≠ 0 := by
  induction k with
  | zero => intro i h1 h2; simp [rl] at h1; omega
  | succ k ih =>
    intro i h1 h2
    simp only [rl] at h1
    split at h1
    · omega
    · by_cases hi : i = k + 1
      · subst hi; assumption
      · exact ih i (by omega) (by omega)

theorem rl_ge (m e : Nat) (f : Nat → Int) (k a : Nat) (ha : 1 ≤ a) (hak : a ≤ k) (h : ∀ i, a ≤ i → i ≤ k → f (pos m e i) ≠ 0) : k - a < rl m e f k := by
  induction k with
  | zero => omega
  | succ k ih =>
    simp only [rl]
    rw [if_neg (h (k + 1) hak (Nat.le_refl _))]
    by_cases hk : a = k + 1
    · omega
    · have := ih (by omega) (fun i h1 h2 => h i h1 (by omega)); omega

theorem ok_lr (m e : Nat) (f : Nat → Int) (he : e < m) (h0 : f e = 0) : (∀ k, 1 ≤ k → k ≤ m → Ok m e f k) ↔ LR m e f := by
  constructor
  · intro H k hk1 hk hne
    have R := H k hk1 (by omega) hne
    have hh := hl_lt m e (f (pos m e k)) he
    rw [hm_hl m e _ he] at R
    generalize hv : hl m e (f (pos m e k)) = a at *
    rw [dst_pos_pos m e a k he hh hk] at R
    have hrk := rl_le m e f k
    have hak : a ≤ k := by
      apply Classical.byContradiction
      intro hak
      have hd : dst m a k = k + m - a := by unfold dst; rw [if_neg (by omega)]
      omega
    have hd : dst m a k = k - a := by unfold dst; rw [if_pos hak]
    have all : ∀ i, a ≤ i → i ≤ k → f (pos m e i) ≠ 0 := fun i h1 h2 => rl_full m e f k i (by omega) h2
    refine ⟨?_, hak, all⟩
    apply Classical.byContradiction
    intro ha
    have := all 0 (by omega) (by omega)
    rw [pos_zero m e he] at this
    exact this h0
  · intro H k hk1 hk hne
    have hkm : k < m := by
      apply Classical.byContradiction
      intro h
      rw [show k = m by omega, pos_full m e he] at hne
      exact hne h0
    have R := H k hk1 hkm hne
    have hh := hl_lt m e (f (pos m e k)) he
    rw [hm_hl m e _ he]
    generalize hv : hl m e (f (pos m e k)) = a at *
    rw [dst_pos_pos m e a k he hh hkm]
    have hd : dst m a k = k - a := by unfold dst; rw [if_pos R.2.1]
    rw [hd]
    exact rl_ge m e f k a R.1 R.2.1 R.2.2

/-- the two ends of zzValid -/
theorem valid_yes (m e : Nat) (f : Nat → Int) (he : e < m) (h0 : f e = 0) (h : ∀ k, 1 ≤ k → k ≤ m → Ok m e f k) : V m f :=
  ⟨⟨e, he, h0⟩, (reach_lr m e f he h0).2 ((ok_lr m e f he h0).1 h)⟩
theorem valid_no (m e : Nat) (f : Nat → Int) (he : e < m) (h0 : f e = 0) (k : Nat) (h1 : 1 ≤ k) (h2 : k ≤ m) (h : ¬ Ok m e f k) : ¬ V m f :=
  fun hv => h ((ok_lr m e f he h0).2 ((reach_lr m e f he h0).1 hv.2) k h1 h2)
theorem valid_full (m : Nat) (f : Nat → Int) (h : ∀ i, i < m → f i ≠ 0) : ¬ V m f := fun hv => by
  obtain ⟨⟨e, he, h0⟩, _⟩ := hv
  exact h e he h0

end Go.Proofs.Qxb6602393a.Plain
