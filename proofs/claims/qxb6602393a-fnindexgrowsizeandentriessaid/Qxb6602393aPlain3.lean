/- PLAIN MATHEMATICS OF THE MERGE SORT. No Go in sight. -/
import Derived.Test.Qxb6602393aPlain1
set_option linter.unusedVariables false
namespace Go.Proofs.Qxb6602393a.Plain

def Srt (f : Nat → Int) (a b : Nat) : Prop := ∀ i j, a ≤ i → i < j → j < b → f i ≤ f j
/-- each piece of the given width is in order -/
def Chunks (f : Nat → Int) (n width : Nat) : Prop := ∀ c, Srt f (c * width) (min (c * width + width) n)

theorem Srt.le {f : Nat → Int} {a b : Nat} (h : Srt f a b) (i j : Nat) (h1 : a ≤ i) (h2 : i ≤ j) (h3 : j < b) : f i ≤ f j := by
  by_cases hij : i = j
  · subst hij; exact Int.le_refl _
  · exact h i j h1 (by omega) h3

theorem chunks_one (f : Nat → Int) (n : Nat) : Chunks f n 1 := fun c i j h1 h2 h3 => by omega
theorem chunks_all {f : Nat → Int} {n width : Nat} (h : Chunks f n width) (hw : n ≤ width) : Srt f 0 n := by
  have := h 0
  rw [Nat.zero_mul, Nat.zero_add, Nat.min_eq_right hw] at this
  exact this

/-- the merge of one piece under way -/
structure MInv (S T T0 : Nat → Int) (lo mid hi i j k : Nat) : Prop where
  h1 : lo ≤ i
  h2 : i ≤ mid
  h3 : mid ≤ j
  h4 : j ≤ hi
  hk : k + mid = i + j
  srt : Srt T lo k
  lei : ∀ x, lo ≤ x → x < k → ∀ y, i ≤ y → y < mid → T x ≤ S y
  lej : ∀ x, lo ≤ x → x < k → ∀ y, j ≤ y → y < hi → T x ≤ S y
  cnt : ∀ v, occ T v k + occ S v lo + occ S v mid = occ T0 v lo + occ S v i + occ S v j
  old : ∀ x, x < lo → T x = T0 x

theorem minv_start (S T0 : Nat → Int) (lo mid hi : Nat) (h1 : lo ≤ mid) (h2 : mid ≤ hi) : MInv S T0 T0 lo mid hi lo mid lo :=
  ⟨Nat.le_refl _, h1, Nat.le_refl _, h2, rfl, fun i j a b c => by omega, fun x a b => by omega, fun x a b => by omega, fun v => rfl, fun x _ => rfl⟩

theorem occ_push (T : Nat → Int) (k : Nat) (x v : Int) : occ (upd T k x) v (k + 1) = occ T v k + if x = v then 1 else 0 := by
  simp only [occ]
  rw [occ_upd_out _ _ _ _ _ (Nat.le_refl _), upd_same]

theorem minv_i {S T T0 : Nat → Int} {lo mid hi i j k : Nat} (M : MInv S T T0 lo mid hi i j k) (hS : Srt S lo mid) (hS2 : Srt S mid hi) (hi1 : i < mid) (hc : hi ≤ j ∨ S i ≤ S j) : MInv S (upd T k (S i)) T0 lo mid hi (i + 1) j (k + 1) := by
  have a1 := M.h1
  have a3 := M.h3
  have a4 := M.h4
  have ak := M.hk
  have hkl : lo ≤ k := by omega
  have nw : ∀ x, x < k → upd T k (S i) x = T x := fun x hx => upd_other _ _ _ _ (by omega)
  have bi : ∀ y, i ≤ y → y < mid → S i ≤ S y := fun y h1 h2 => hS.le i y a1 h1 h2
  have bj : ∀ y, j ≤ y → y < hi → S i ≤ S y := fun y h1 h2 => by
    rcases hc with h | h
    · omega
    · exact Int.le_trans h (hS2.le j y a3 h1 h2)
  refine ⟨by omega, by omega, a3, a4, by omega, ?_, ?_, ?_, ?_, ?_⟩
  · intro x y h1 h2 h3
    by_cases hy : y = k
    · subst hy; rw [upd_same, nw x h2]; exact M.lei x h1 h2 i (Nat.le_refl _) hi1
    · rw [nw x (by omega), nw y (by omega)]; exact M.srt x y h1 h2 (by omega)
  · intro x h1 h2 y h3 h4
    by_cases hx : x = k
    · subst hx; rw [upd_same]; exact bi y (by omega) h4
    · rw [nw x (by omega)]; exact M.lei x h1 (by omega) y (by omega) h4
  · intro x h1 h2 y h3 h4
    by_cases hx : x = k
    · subst hx; rw [upd_same]; exact bj y h3 h4
    · rw [nw x (by omega)]; exact M.lej x h1 (by omega) y h3 h4
  · intro v
    have := M.cnt v
    rw [occ_push]
    simp only [occ]
    omega
  · intro x hx
    rw [nw x (by omega)]; exact M.old x hx

theorem minv_j {S T T0 : Nat → Int} {lo mid hi i j k : Nat} (M : MInv S T T0 lo mid hi i j k) (hS : Srt S lo mid) (hS2 : Srt S mid hi) (hj1 : j < hi) (hc : mid ≤ i ∨ S j ≤ S i) : MInv S (upd T k (S j)) T0 lo mid hi i (j + 1) (k + 1) := by
  have a1 := M.h1
  have a2 := M.h2
  have a3 := M.h3
  have ak := M.hk
  have hkl : lo ≤ k := by omega
  have nw : ∀ x, x < k → upd T k (S j) x = T x := fun x hx => upd_other _ _ _ _ (by omega)
  have bj : ∀ y, j ≤ y → y < hi → S j ≤ S y := fun y h1 h2 => hS2.le j y a3 h1 h2
  have bi : ∀ y, i ≤ y → y < mid → S j ≤ S y := fun y h1 h2 => by
    rcases hc with h | h
    · omega
    · exact Int.le_trans h (hS.le i y a1 h1 h2)
  refine ⟨a1, a2, by omega, by omega, by omega, ?_, ?_, ?_, ?_, ?_⟩
  · intro x y h1 h2 h3
    by_cases hy : y = k
    · subst hy; rw [upd_same, nw x h2]; exact M.lej x h1 h2 j (Nat.le_refl _) hj1
    · rw [nw x (by omega), nw y (by omega)]; exact M.srt x y h1 h2 (by omega)
  · intro x h1 h2 y h3 h4
    by_cases hx : x = k
    · subst hx; rw [upd_same]; exact bi y h3 h4
    · rw [nw x (by omega)]; exact M.lei x h1 (by omega) y h3 h4
  · intro x h1 h2 y h3 h4
    by_cases hx : x = k
    · subst hx; rw [upd_same]; exact bj y (by omega) h4
    · rw [nw x (by omega)]; exact M.lej x h1 (by omega) y (by omega) h4
  · intro v
    have := M.cnt v
    rw [occ_push]
    simp only [occ]
    omega
  · intro x hx
    rw [nw x (by omega)]; exact M.old x hx

theorem minv_end {S T T0 : Nat → Int} {lo mid hi i j : Nat} (M : MInv S T T0 lo mid hi i j hi) (h0 : ∀ v, occ T0 v lo = occ S v lo) : Srt T lo hi ∧ (∀ v, occ T v hi = occ S v hi) ∧ ∀ x, x < lo → T x = T0 x := by
  have a2 := M.h2
  have a3 := M.h3
  have a4 := M.h4
  have ak := M.hk
  refine ⟨M.srt, fun v => ?_, M.old⟩
  have := M.cnt v
  have := h0 v
  have e1 : i = mid := by omega
  have e2 : j = hi := by omega
  subst e1
  subst e2
  omega

/-- one pass under way: c pieces of twice the width are merged -/
structure PInv (S T : Nat → Int) (n width c : Nat) : Prop where
  done : ∀ c', c' < c → Srt T (c' * (2 * width)) (min (c' * (2 * width) + 2 * width) n)
  cnt : ∀ v, occ T v (min (c * (2 * width)) n) = occ S v (min (c * (2 * width)) n)

theorem pinv_start (S T : Nat → Int) (n width : Nat) : PInv S T n width 0 := ⟨fun c' h => by omega, fun v => by rw [Nat.zero_mul, Nat.zero_min]; rfl⟩

theorem pinv_step {S T T' : Nat → Int} {n width c : Nat} (P : PInv S T n width c) (hlt : c * (2 * width) < n) (hs : Srt T' (c * (2 * width)) (min (c * (2 * width) + 2 * width) n))
    (hc : ∀ v, occ T' v (min (c * (2 * width) + 2 * width) n) = occ S v (min (c * (2 * width) + 2 * width) n)) (ho : ∀ x, x < c * (2 * width) → T' x = T x) : PInv S T' n width (c + 1) := by
  refine ⟨fun c' h => ?_, fun v => ?_⟩
  · by_cases hcc : c' = c
    · subst hcc; exact hs
    · have hle : (c' + 1) * (2 * width) ≤ c * (2 * width) := Nat.mul_le_mul_right _ (by omega)
      rw [Nat.add_mul, Nat.one_mul] at hle
      intro i j h1 h2 h3
      have hb : j < c * (2 * width) := by omega
      rw [ho i (by omega), ho j hb]
      exact P.done c' (by omega) i j h1 h2 h3
  · have e : (c + 1) * (2 * width) = c * (2 * width) + 2 * width := by rw [Nat.add_mul, Nat.one_mul]
    rw [e]; exact hc v

theorem pinv_end {S T : Nat → Int} {n width c : Nat} (P : PInv S T n width c) (h : n ≤ c * (2 * width)) : Chunks T n (2 * width) ∧ ∀ v, occ T v n = occ S v n := by
  refine ⟨fun c' => ?_, fun v => ?_⟩
  · by_cases hc : c' < c
    · exact P.done c' hc
    · have hle : c * (2 * width) ≤ c' * (2 * width) := Nat.mul_le_mul_right _ (by omega)
      intro i j h1 h2 h3
      omega
  · have := P.cnt v
    rwa [Nat.min_eq_right h] at this

/-- the two halves of a piece -/
theorem halves {S : Nat → Int} {n width : Nat} (h : Chunks S n width) (c : Nat) : Srt S (c * (2 * width)) (min (c * (2 * width) + width) n) ∧ Srt S (min (c * (2 * width) + width) n) (min (c * (2 * width) + 2 * width) n) := by
  have e1 : (2 * c) * width = c * (2 * width) := by rw [Nat.mul_comm 2 c, Nat.mul_assoc]
  have e2 : (2 * c + 1) * width = c * (2 * width) + width := by rw [Nat.add_mul, e1, Nat.one_mul]
  have a := h (2 * c)
  have b := h (2 * c + 1)
  rw [e1] at a
  rw [e2] at b
  refine ⟨a, fun i j h1 h2 h3 => b i j (by omega) h2 (by omega)⟩

/-! ### What comes first: the entries that are not nought -/
structure Gather (f h : Nat → Int) (k c : Nat) : Prop where
  hc : c = cnt f k
  z : occ h 0 c = 0
  nz : ∀ v, v ≠ 0 → occ h v c = occ f v k

theorem gather_start (f h : Nat → Int) : Gather f h 0 0 := ⟨rfl, rfl, fun _ _ => rfl⟩
theorem gather_skip {f h : Nat → Int} {k c : Nat} (G : Gather f h k c) (hz : f k = 0) : Gather f h (k + 1) c := by
  refine ⟨?_, G.z, fun v hv => ?_⟩
  · simp only [cnt]; rw [if_pos hz]; exact G.hc
  · simp only [occ]; rw [if_neg (by rw [hz]; exact Ne.symm hv)]; exact G.nz v hv
theorem gather_take {f h : Nat → Int} {k c : Nat} (G : Gather f h k c) (hz : f k ≠ 0) : Gather f (upd h c (f k)) (k + 1) (c + 1) := by
  refine ⟨?_, ?_, fun v hv => ?_⟩
  · simp only [cnt]; rw [if_neg hz, ← G.hc]
  · rw [occ_push, if_neg hz]; exact G.z
  · rw [occ_push]; simp only [occ]; rw [G.nz v hv]

/-- what zzSortedNonzero hands back -/
structure Sorted (f h : Nat → Int) (n c : Nat) : Prop where
  hc : c = cnt f n
  srt : Srt h 0 c
  z : occ h 0 c = 0
  nz : ∀ v, v ≠ 0 → occ h v c = occ f v n

theorem sorted_unique (c : Nat) : ∀ (h g : Nat → Int), Srt h 0 c → Srt g 0 c → (∀ v, occ h v c = occ g v c) → ∀ i, i < c → h i = g i := by
  induction c with
  | zero => intro h g _ _ _ i hi; omega
  | succ c ih =>
    intro h g sh sg ho i hi
    have le : ∀ (h g : Nat → Int), Srt h 0 (c + 1) → Srt g 0 (c + 1) → (∀ v, occ h v (c + 1) = occ g v (c + 1)) → g c ≤ h c := by
      intro h g sh sg ho
      have hp : 0 < occ h (g c) (c + 1) := by rw [ho]; exact occ_ex_pos g (g c) (c + 1) c (by omega) rfl
      obtain ⟨x, hx, he⟩ := occ_pos_ex h (g c) (c + 1) hp
      rw [← he]
      exact sh.le x c (Nat.zero_le _) (by omega) (by omega)
    have last : h c = g c := Int.le_antisymm (le g h sg sh (fun v => (ho v).symm)) (le h g sh sg ho)
    by_cases hic : i = c
    · subst hic; exact last
    · refine ih h g (fun a b h1 h2 h3 => sh a b h1 h2 (by omega)) (fun a b h1 h2 h3 => sg a b h1 h2 (by omega)) (fun v => ?_) i (by omega)
      have := ho v
      simp only [occ] at this
      rw [last] at this
      omega

/-- two tables with the same entries give one sorted row -/
theorem sorted_same {f g h1 h2 : Nat → Int} {n m c1 c2 : Nat} (A : Sorted f h1 n c1) (B : Sorted g h2 m c2) (hc : cnt f n = cnt g m) (ho : ∀ v, v ≠ 0 → occ f v n = occ g v m) : c1 = c2 ∧ ∀ i, i < c1 → h1 i = h2 i := by
  have e : c1 = c2 := by rw [A.hc, B.hc, hc]
  subst e
  refine ⟨rfl, sorted_unique c1 h1 h2 A.srt B.srt (fun v => ?_)⟩
  by_cases hv : v = 0
  · subst hv; rw [A.z, B.z]
  · rw [A.nz v hv, B.nz v hv, ho v hv]

end Go.Proofs.Qxb6602393a.Plain
