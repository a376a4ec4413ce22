/- '& mask' where the mask is a power of two less one: going round the table. -/
import Derived.Test.Qxb6602393aPlain1
import Derived.WalkKit
set_option linter.unusedVariables false
namespace Go.Proofs.Qxb6602393a
open Go.RowKit Plain

def Pw (m : Nat) : Prop := ∃ j, j ≤ 20 ∧ m = 2 ^ j

theorem Pw.pos {m : Nat} (h : Pw m) : 0 < m := by obtain ⟨j, _, rfl⟩ := h; exact Nat.two_pow_pos j
theorem Pw.le {m : Nat} (h : Pw m) : m ≤ 1048576 := by
  obtain ⟨j, hj, rfl⟩ := h
  exact (Nat.pow_le_pow_right (by decide) hj : 2 ^ j ≤ 2 ^ 20)

theorem and_mask {m : Nat} (h : Pw m) (x : Int) : bits .and .i64 x ((m : Int) - 1) = x % (m : Int) := by
  obtain ⟨j, hj, rfl⟩ := h
  have hpos : 0 < 2 ^ j := Nat.two_pow_pos j
  have hle : 2 ^ j ≤ 2 ^ 20 := Nat.pow_le_pow_right (by decide) hj
  have hc : (((2 ^ j : Nat) : Int) - 1) = ((2 ^ j - 1 : Nat) : Int) := by rw [Int.natCast_sub hpos]; rfl
  rw [hc]
  show IntKind.i64.wrap (((BitVec.ofInt 64 x &&& BitVec.ofInt 64 ((2 ^ j - 1 : Nat) : Int)).toNat : Nat) : Int) = _
  rw [BitVec.toNat_and, BitVec.ofInt_natCast, BitVec.toNat_ofNat, BitVec.toNat_ofInt]
  have h1 : (2 ^ j - 1) % 2 ^ 64 = 2 ^ j - 1 := Nat.mod_eq_of_lt (by omega)
  rw [h1, Nat.and_two_pow_sub_one_eq_mod]
  have hdvd : (2 ^ j : Nat) ∣ 2 ^ 64 := Nat.pow_dvd_pow 2 (by omega)
  have h2 : (x % ((2 ^ 64 : Nat) : Int)).toNat % 2 ^ j = (x % ((2 ^ j : Nat) : Int)).toNat := by
    have e1 : ((x % ((2 ^ 64 : Nat) : Int)).toNat : Int) = x % ((2 ^ 64 : Nat) : Int) := Int.toNat_of_nonneg (Int.emod_nonneg _ (by decide))
    have e2 : ((x % ((2 ^ j : Nat) : Int)).toNat : Int) = x % ((2 ^ j : Nat) : Int) := Int.toNat_of_nonneg (Int.emod_nonneg _ (by omega))
    have e3 : (x % ((2 ^ 64 : Nat) : Int)) % ((2 ^ j : Nat) : Int) = x % ((2 ^ j : Nat) : Int) := Int.emod_emod_of_dvd _ (by exact_mod_cast hdvd)
    have e4 : (((x % ((2 ^ 64 : Nat) : Int)).toNat % 2 ^ j : Nat) : Int) = ((x % ((2 ^ j : Nat) : Int)).toNat : Int) := by
      rw [Int.natCast_emod, e1, e2, e3]
    exact_mod_cast e4
  rw [h2]
  have hlt : x % ((2 ^ j : Nat) : Int) < ((2 ^ j : Nat) : Int) := Int.emod_lt_of_pos _ (by omega)
  have hnn : 0 ≤ x % ((2 ^ j : Nat) : Int) := Int.emod_nonneg _ (by omega)
  have hle' : ((2 ^ j : Nat) : Int) ≤ 1048576 := Int.ofNat_le.2 (show 2 ^ j ≤ 1048576 from hle)
  rw [Int.toNat_of_nonneg hnn, IntKind.wrap_i64]
  generalize x % ((2 ^ j : Nat) : Int) = y at *
  omega

theorem emod_once (x : Int) (m : Nat) (h0 : (m : Int) ≤ x) (h1 : x < 2 * (m : Int)) : x % (m : Int) = x - m := by
  rw [← Int.sub_emod_right x (m : Int)]
  exact Int.emod_eq_of_lt (by omega) (by omega)
theorem emod_neg (x : Int) (m : Nat) (h0 : x < 0) (h1 : -(m : Int) ≤ x) : x % (m : Int) = x + m := by
  rw [← Int.add_emod_right x (m : Int)]
  exact Int.emod_eq_of_lt (by omega) (by omega)

theorem mask_nx {m : Nat} (h : Pw m) (q : Nat) (hq : q < m) : bits .and .i64 ((q : Int) + 1) ((m : Int) - 1) = (nx m q : Nat) := by
  rw [and_mask h]
  unfold nx
  split
  · rw [Int.emod_eq_of_lt (by omega) (by omega)]; rfl
  · rw [emod_once _ _ (by omega) (by omega)]; omega
theorem mask_pos {m : Nat} (h : Pw m) (e k : Nat) (he : e < m) (hk : k ≤ m) : bits .and .i64 ((e : Int) + (k : Int)) ((m : Int) - 1) = (pos m e k : Nat) := by
  rw [and_mask h]
  unfold pos
  split
  · rw [Int.emod_eq_of_lt (by omega) (by omega)]; rfl
  · rw [emod_once _ _ (by omega) (by omega)]; omega
theorem mask_dst {m : Nat} (h : Pw m) (a p : Nat) (ha : a < m) (hp : p < m) : bits .and .i64 ((p : Int) - (a : Int)) ((m : Int) - 1) = (dst m a p : Nat) := by
  rw [and_mask h]
  unfold dst
  split
  · rw [Int.emod_eq_of_lt (by omega) (by omega)]; omega
  · rw [emod_neg _ _ (by omega) (by omega)]; omega
theorem mask_hm {m : Nat} (h : Pw m) (v : Int) (hv : 0 ≤ v) : bits .and .i64 (v / 4294967296) ((m : Int) - 1) = (hm m v : Nat) := by
  rw [and_mask h]
  unfold hm
  rw [Int.natCast_emod, Int.natCast_ediv, Int.toNat_of_nonneg hv]
  rfl

/-! ### 'm & (m-1)' is nought at the powers of two alone -/
theorem pow_of_and (m : Nat) : 0 < m → m &&& (m - 1) = 0 → ∃ j, m = 2 ^ j := by
  induction m using Nat.strongRecOn with
  | _ m ih =>
    intro h0 h
    by_cases h1 : m = 1
    · exact ⟨0, h1⟩
    · have hd : (m &&& (m - 1)) / 2 = m / 2 &&& (m - 1) / 2 := Nat.and_div_two
      have hmod : m % 2 = 0 := by
        apply Classical.byContradiction
        intro hodd
        have e : (m - 1) / 2 = m / 2 := by omega
        rw [h, e, Nat.and_self] at hd
        omega
      have e : (m - 1) / 2 = m / 2 - 1 := by omega
      rw [h, e] at hd
      obtain ⟨j, hj⟩ := ih (m / 2) (by omega) (by omega) (by omega)
      exact ⟨j + 1, by rw [Nat.pow_succ]; omega⟩
theorem and_of_pow (j : Nat) : (2 ^ j) &&& (2 ^ j - 1) = 0 := by
  rw [Nat.and_two_pow_sub_one_eq_mod]; exact Nat.mod_self _

theorem bits_self (m : Nat) (h0 : 0 < m) (hm : m ≤ 1048576) : bits .and .i64 (m : Int) ((m : Int) - 1) = ((m &&& (m - 1) : Nat) : Int) := by
  have hc : ((m : Int) - 1) = ((m - 1 : Nat) : Int) := by omega
  rw [hc]
  show IntKind.i64.wrap (((BitVec.ofInt 64 ((m : Nat) : Int) &&& BitVec.ofInt 64 ((m - 1 : Nat) : Int)).toNat : Nat) : Int) = _
  rw [BitVec.toNat_and, BitVec.ofInt_natCast, BitVec.ofInt_natCast, BitVec.toNat_ofNat, BitVec.toNat_ofNat]
  rw [Nat.mod_eq_of_lt (by omega), Nat.mod_eq_of_lt (by omega)]
  have hle : m &&& (m - 1) ≤ m := Nat.and_le_left
  rw [IntKind.wrap_i64]
  omega

theorem pw_yes {m : Nat} (h : Pw m) : bits .and .i64 (m : Int) ((m : Int) - 1) = 0 := by
  rw [bits_self m h.pos h.le]
  obtain ⟨j, _, rfl⟩ := h
  rw [and_of_pow]; rfl
theorem pw_of {m : Nat} (h0 : 0 < m) (hm : m ≤ 1048576) (h : bits .and .i64 (m : Int) ((m : Int) - 1) = 0) : Pw m := by
  rw [bits_self m h0 hm] at h
  obtain ⟨j, rfl⟩ := pow_of_and m h0 (by exact_mod_cast h)
  refine ⟨j, ?_, rfl⟩
  apply Classical.byContradiction
  intro hj
  have : 2 ^ 21 ≤ 2 ^ j := Nat.pow_le_pow_right (by decide) (by omega)
  omega

end Go.Proofs.Qxb6602393a
