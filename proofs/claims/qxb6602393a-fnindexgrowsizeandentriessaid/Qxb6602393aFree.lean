import Derived.Test.Qxb6602393aRemove
import Derived.Test.Qxb6602393aPlain4
set_option linter.unusedVariables false
namespace Go.Proofs.Qxb6602393a
open Go.RowKit Plain

set_option maxHeartbeats 1000000 in
theorem free_any (bx g m c : Nat) (nn : Int) (v : Int) (d : Nat) (f : Nat → Int) (w : World) (hpw : Pw m) (hx : IsX w bx g m c nn) (hg : Own w g m f) (hv0 : 0 ≤ v) (hv1 : v ≤ 18446744073709551615) (hd : Fst m f (hm m v) d) :
    Calls Try.prog 24 #[.pointer (some ⟨bx, 0, none⟩), .int .u32 (v / 4294967296)] w fun en w' => en = .returned (.int .i64 (pos m (hm m v) d : Nat)) ∧ w' = w := by
  have hm0 := hpw.pos
  have hml := hpw.le
  obtain ⟨h, hhe⟩ : ∃ h, h = hm m v := ⟨_, rfl⟩
  have hh : h < m := by rw [hhe]; exact hm_lt m v hm0
  have hb2 : bits .and .i64 (v / 4294967296) ((m : Int) - 1) = (h : Int) := by rw [hhe]; exact mask_hm hpw _ hv0
  rw [← hhe] at hd ⊢
  have HD : Hid (Fst m f h d) := hd
  have hdm := hd.1
  clear hhe hd
  have hx0 := hx.cell0
  have hw1 : 0 ≤ v / 4294967296 ∧ v / 4294967296 ≤ 4294967295 := by omega
  go_enter Try.func24, Try.ntmps24
  go_wp2
  go_loopg [6] d (fun gk pv wr => ∃ i : Nat, i ≤ d ∧ gk = d - i ∧ pv = .int .i64 (pos m h i : Nat) ∧ wr = w)
  case atStart => exact ⟨0, Nat.zero_le _, rfl, by rw [pos_zero m h hh], rfl⟩
  case round =>
    obtain ⟨i, hi, hgk, rfl, rfl⟩ := hrel
    have HG : Hid (gk = d - i) := hgk
    clear hgk
    obtain ⟨p, hpe⟩ : ∃ p, p = pos m h i := ⟨_, rfl⟩
    have hp : p < m := by rw [hpe]; exact pos_lt m h i hh (by omega)
    have hcp := hg.cell hp
    rw [← hpe]
    by_cases hid : i = d
    · have hz : (f p != 0) = false := by rw [hpe, hid, HD.out.2.1]; rfl
      have HP : Hid (p = pos m h d) := by show p = _; rw [hpe, hid]
      clear hpe hid
      go_wp2
      go_ret
      exact ⟨by rw [← HP.out]; rfl, rfl⟩
    · have hz : (f p != 0) = true := by
        have : f p ≠ 0 := by rw [hpe]; exact HD.out.2.2 i (by omega)
        simp [this]
      obtain ⟨p', hpe'⟩ : ∃ p', p' = pos m h (i + 1) := ⟨_, rfl⟩
      have hb3 : bits .and .i64 ((p : Int) + 1) ((m : Int) - 1) = (p' : Int) := by
        rw [mask_nx hpw p hp, hpe, nx_pos m h i hh (by omega), hpe']
      have HP : Hid (p' = pos m h (i + 1)) := hpe'
      have hlt : i < d := by omega
      clear hpe hpe' hid
      go_wp2
      go_roundg (d - (i + 1))
      case measure => have := HG.out; omega
      case rel => exact ⟨i + 1, by omega, rfl, by rw [HP.out], rfl⟩

end Go.Proofs.Qxb6602393a
