/- PLAIN MATHEMATICS OF THE GROWTH. No Go in sight. -/
import Derived.Test.Qxb6602393aPlain1
set_option linter.unusedVariables false
namespace Go.Proofs.Qxb6602393a.Plain

/-- the first empty slot from h on is d steps away -/
def Fst (m : Nat) (f : Nat → Int) (h d : Nat) : Prop := d < m ∧ f (pos m h d) = 0 ∧ ∀ i, i < d → f (pos m h i) ≠ 0

theorem first_ex (m : Nat) (f : Nat → Int) (h : Nat) (hh : h < m) (he : ∃ e, e < m ∧ f e = 0) : ∃ d, Fst m f h d := by
  obtain ⟨e, he, h0⟩ := he
  have key : ∀ k, k ≤ m → (∃ d, Fst m f h d) ∨ ∀ i, i < k → f (pos m h i) ≠ 0 := by
    intro k
    induction k with
    | zero => intro _; right; intro i hi; omega
    | succ k ih =>
      intro hk
      rcases ih (by omega) with H | H
      · exact .inl H
      · by_cases hz : f (pos m h k) = 0
        · exact .inl ⟨k, by omega, hz, H⟩
        · right
          intro i hi
          by_cases hik : i = k
          · subst hik; exact hz
          · exact H i (by omega)
  rcases key m (Nat.le_refl _) with H | H
  · exact H
  · have := H (dst m h e) (dst_lt m h e hh he)
    rw [pos_dst m h e hh he] at this
    exact absurd h0 this

/-- the new table F of M slots holds the first k entries of f -/
structure GInv (M : Nat) (f F : Nat → Int) (k : Nat) : Prop where
  r : Reach M F
  o : ∀ v, v ≠ 0 → occ F v M = occ f v k
  c : cnt F M = cnt f k
  u : ∀ i, i < M → 0 ≤ F i ∧ F i ≤ 18446744073709551615

theorem occ_zero (v : Int) (hv : v ≠ 0) (M : Nat) : occ (fun _ => 0) v M = 0 := by
  induction M with
  | zero => rfl
  | succ M ih => simp only [occ]; rw [ih, if_neg (Ne.symm hv)]
theorem cnt_zero (M : Nat) : cnt (fun _ => 0) M = 0 := by
  induction M with
  | zero => rfl
  | succ M ih => simp only [cnt]; rw [ih]; rfl

theorem ginv_start (M : Nat) (f : Nat → Int) : GInv M f (fun _ => 0) 0 :=
  ⟨fun p hp hne => absurd rfl hne, fun v hv => occ_zero v hv M, cnt_zero M, fun i _ => by omega⟩

theorem ginv_skip {M : Nat} {f F : Nat → Int} {k : Nat} (G : GInv M f F k) (hz : f k = 0) : GInv M f F (k + 1) := by
  refine ⟨G.r, fun v hv => ?_, ?_, G.u⟩
  · simp only [occ]; rw [if_neg (by rw [hz]; exact Ne.symm hv)]; exact G.o v hv
  · simp only [cnt]; rw [if_pos hz]; exact G.c

theorem ginv_put {M : Nat} {f F : Nat → Int} {k d : Nat} (G : GInv M f F k) (hM : 0 < M) (hne : f k ≠ 0) (hu : 0 ≤ f k ∧ f k ≤ 18446744073709551615) (hd : Fst M F (hm M (f k)) d) : GInv M f (upd F (pos M (hm M (f k)) d) (f k)) (k + 1) := by
  have hh := hm_lt M (f k) hM
  have hp : pos M (hm M (f k)) d < M := pos_lt M _ d hh (by have := hd.1; omega)
  have h0 := hd.2.1
  have keep : ∀ x, F x ≠ 0 → upd F (pos M (hm M (f k)) d) (f k) x ≠ 0 := by
    intro x hx
    by_cases hxp : x = pos M (hm M (f k)) d
    · subst hxp; rw [upd_same]; exact hne
    · rw [upd_other _ _ _ _ hxp]; exact hx
  refine ⟨?_, fun v hv => ?_, ?_, fun i hi => ?_⟩
  · intro p hp' hpne i hi
    by_cases hpp : p = pos M (hm M (f k)) d
    · subst hpp
      rw [upd_same] at hi ⊢
      rw [dst_pos M _ d hh hd.1] at hi
      by_cases hid : i = d
      · subst hid; rw [upd_same]; exact hne
      · exact keep _ (hd.2.2 i (by omega))
    · rw [upd_other _ _ _ _ hpp] at hpne hi ⊢
      exact keep _ (G.r p hp' hpne i hi)
  · have := occ_upd_in F _ (f k) v M hp
    rw [h0, if_neg (Ne.symm hv), G.o v hv] at this
    simp only [occ]
    omega
  · have := occ_upd_in F _ (f k) 0 M hp
    rw [h0, if_pos rfl, if_neg hne] at this
    have a := cnt_occ F M
    have b := cnt_occ (upd F (pos M (hm M (f k)) d) (f k)) M
    have c := G.c
    simp only [cnt]
    rw [if_neg hne]
    omega
  · by_cases hip : i = pos M (hm M (f k)) d
    · subst hip; rw [upd_same]; exact hu
    · rw [upd_other _ _ _ _ hip]; exact G.u i hi

/-- the size that grow comes to from s0 -/
def SizeOf (s0 need M : Nat) : Prop := ∃ i, M = s0 * 2 ^ i ∧ 4 * need ≤ 3 * M ∧ ∀ j, j < i → 3 * (s0 * 2 ^ j) < 4 * need

theorem size_same (s0 need : Nat) (h : 4 * need ≤ 3 * s0) : SizeOf s0 need s0 := ⟨0, by simp, h, fun j hj => by omega⟩

theorem size_ex (s0 need : Nat) (h0 : 0 < s0) : ∃ M, SizeOf s0 need M := by
  have key : ∀ n, (∃ M, SizeOf s0 need M) ∨ ∀ j, j < n → 3 * (s0 * 2 ^ j) < 4 * need := by
    intro n
    induction n with
    | zero => right; intro j hj; omega
    | succ n ih =>
      rcases ih with H | H
      · exact .inl H
      · by_cases hz : 4 * need ≤ 3 * (s0 * 2 ^ n)
        · exact .inl ⟨s0 * 2 ^ n, n, rfl, hz, H⟩
        · right
          intro j hj
          by_cases hjn : j = n
          · subst hjn; omega
          · exact H j (by omega)
  rcases key (4 * need + 1) with H | H
  · exact H
  · have h1 := H (4 * need) (by omega)
    have h2 : 4 * need < 2 ^ (4 * need) := Nat.lt_two_pow_self
    have h3 : 1 * 2 ^ (4 * need) ≤ s0 * 2 ^ (4 * need) := Nat.mul_le_mul_right _ h0
    omega

theorem SizeOf.ge {s0 need M : Nat} (h : SizeOf s0 need M) : s0 ≤ M := by
  obtain ⟨i, rfl, _, _⟩ := h
  have : s0 * 1 ≤ s0 * 2 ^ i := Nat.mul_le_mul_left _ (Nat.two_pow_pos i)
  omega

/-- a size beyond the first is less than twice what is needed -/
theorem SizeOf.lt {s0 need M : Nat} (h : SizeOf s0 need M) : M = s0 ∨ 3 * M < 8 * need := by
  obtain ⟨i, rfl, _, h2⟩ := h
  cases i with
  | zero => left; simp
  | succ i =>
    right
    have := h2 i (by omega)
    have e : s0 * 2 ^ (i + 1) = 2 * (s0 * 2 ^ i) := by rw [Nat.pow_succ, ← Nat.mul_assoc, Nat.mul_comm]
    rw [e]
    omega

/-- the size that grow comes to is the greater of m and the least power of two that serves -/
theorem size_is (m need M e : Nat) (j : Nat) (hm : m = 0 ∨ (m = 2 ^ j ∧ 8 ≤ m)) (h : SizeOf (max m 8) need M) (he : 3 ≤ e) (h1 : 4 * need ≤ 3 * 2 ^ e) (h2 : ∀ x, 3 ≤ x → x < e → 3 * 2 ^ x < 4 * need) : M = max m (2 ^ e) := by
  obtain ⟨i, hM, h3, h4⟩ := h
  have h8 : (2 : Nat) ^ 3 = 8 := rfl
  have he8 : 2 ^ 3 ≤ 2 ^ e := Nat.pow_le_pow_right (by decide) he
  -- the start is a power of two, 2 ^ a, with 3 ≤ a
  obtain ⟨a, ha, ha3⟩ : ∃ a, max m 8 = 2 ^ a ∧ 3 ≤ a := by
    rcases hm with h | ⟨h, h'⟩
    · exact ⟨3, by rw [h]; rfl, Nat.le_refl _⟩
    · refine ⟨j, by rw [Nat.max_eq_left h', h], ?_⟩
      apply Classical.byContradiction
      intro hj
      have : 2 ^ j ≤ 2 ^ 2 := Nat.pow_le_pow_right (by decide) (by omega)
      omega
  rw [ha, ← Nat.pow_add] at hM
  have hmm : max m (2 ^ e) = max (2 ^ a) (2 ^ e) := by
    rw [← ha]; omega
  rw [hmm, hM]
  by_cases hae : e ≤ a
  · have hle : 2 ^ e ≤ 2 ^ a := Nat.pow_le_pow_right (by decide) hae
    have hi0 : i = 0 := by
      apply Classical.byContradiction
      intro hi
      have := h4 0 (by omega)
      rw [ha, Nat.pow_zero, Nat.mul_one] at this
      omega
    rw [hi0, Nat.add_zero, Nat.max_eq_left hle]
  · have hle : 2 ^ a ≤ 2 ^ e := Nat.pow_le_pow_right (by decide) (by omega)
    rw [Nat.max_eq_right hle]
    have hi : a + i = e := by
      apply Classical.byContradiction
      intro hne
      by_cases hlt : a + i < e
      · have := h2 (a + i) (by omega) hlt
        rw [hM] at h3
        omega
      · have := h4 (e - a) (by omega)
        rw [ha, ← Nat.pow_add, show a + (e - a) = e by omega] at this
        omega
    rw [hi]

/-- there is a least exponent that serves -/
theorem exp_ex (need : Nat) (h : need ≤ 131072) : ∃ e, 3 ≤ e ∧ e ≤ 18 ∧ 4 * need ≤ 3 * 2 ^ e ∧ ∀ x, 3 ≤ x → x < e → 3 * 2 ^ x < 4 * need := by
  have key : ∀ n, (∃ e, 3 ≤ e ∧ e < 3 + n ∧ 4 * need ≤ 3 * 2 ^ e ∧ ∀ x, 3 ≤ x → x < e → 3 * 2 ^ x < 4 * need) ∨ ∀ x, 3 ≤ x → x < 3 + n → 3 * 2 ^ x < 4 * need := by
    intro n
    induction n with
    | zero => right; intro x h1 h2; omega
    | succ n ih =>
      rcases ih with ⟨e, a, b, c, d⟩ | H
      · exact .inl ⟨e, a, by omega, c, d⟩
      · by_cases hz : 4 * need ≤ 3 * 2 ^ (3 + n)
        · exact .inl ⟨3 + n, by omega, by omega, hz, H⟩
        · right
          intro x h1 h2
          by_cases hx : x = 3 + n
          · subst hx; omega
          · exact H x h1 (by omega)
  rcases key 16 with ⟨e, a, b, c, d⟩ | H
  · exact ⟨e, a, by omega, c, d⟩
  · have := H 18 (by omega) (by omega)
    have h18 : (2 : Nat) ^ 18 = 262144 := rfl
    omega

end Go.Proofs.Qxb6602393a.Plain
