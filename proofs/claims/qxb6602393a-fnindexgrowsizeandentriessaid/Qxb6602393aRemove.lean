import Derived.Test.Qxb6602393aRowlaws
import Derived.Test.Qxb6602393aBits
import Derived.Test.Qxb6602393aPlain2
set_option linter.unusedVariables false
namespace Go.Proofs.Qxb6602393a
open Go.RowKit Plain

/-- the struct 'index' in block bx: a slice of m slots at block g, and n -/
def IsX (w : World) (bx g m c : Nat) (n : Int) : Prop := w.heap[bx]? = some (.cells #[.slice (some ⟨g, 0, none⟩) m c, .int .i64 n] 39 (0, 0))
theorem IsX.cell0 {w : World} {bx g m c : Nat} {n : Int} (h : IsX w bx g m c n) : w.cell? ⟨bx, 0, none⟩ = some (.slice (some ⟨g, 0, none⟩) m c) := by rw [cell_of_row w bx 0 _ 39 (0, 0) h]; rfl
theorem IsX.cell1 {w : World} {bx g m c : Nat} {n : Int} (h : IsX w bx g m c n) : w.cell? ⟨bx, 1, none⟩ = some (.int .i64 n) := by rw [cell_of_row w bx 1 _ 39 (0, 0) h]; rfl
theorem IsX.frozen {w : World} {bx g m c : Nat} {n : Int} (h : IsX w bx g m c n) (i : Nat) : w.frozen? ⟨bx, i, none⟩ = false := by
  unfold IsX at h
  simp [World.frozen?, h]
theorem IsX.lt {w : World} {bx g m c : Nat} {n : Int} (h : IsX w bx g m c n) : bx < w.heap.size := (Array.getElem?_eq_some_iff.1 h).1
theorem IsX.set1 {w : World} {bx g m c : Nat} {n : Int} (h : IsX w bx g m c n) (n' : Int) : IsX (w.setCell ⟨bx, 1, none⟩ (.int .i64 n')) bx g m c n' := by
  unfold IsX
  rw [heap_setCell_same w bx 1 _ 39 _ h]; rfl
theorem IsX.set_other {w : World} {bx g m c : Nat} {n : Int} (h : IsX w bx g m c n) (a : Addr) (v : Value) (hne : bx ≠ a.block) : IsX (w.setCell a v) bx g m c n := by
  unfold IsX
  rw [heap_setCell_other w a bx v hne]; exact h
theorem IsX.kept {S : Nat → Prop} {w w' : World} {bx g m c : Nat} {n : Int} (h : IsX w bx g m c n) (hk : Kept S w w') (hs : ¬ S bx) : IsX w' bx g m c n := by
  unfold IsX
  rw [hk.block bx h.lt hs]; exact h

theorem tab_next {m e : Nat} {f : Nat → Int} {s t : Nat} (R : Run m e f s t) (i : Nat) (hi : s + i + 1 ≤ t) : tab m e f s i (pos m e (s + i + 1)) = f (pos m e (s + i + 1)) := by
  have I := inv_all R i (by omega)
  have := R.tm
  have := R.s1
  by_cases h : s + i + 1 < m
  · exact I.out _ h (by omega)
  · have he := R.he
    rw [show s + i + 1 = m by omega, pos_full m e he]
    have := I.out 0 (by omega) (by omega)
    rwa [pos_zero m e he] at this

/-- what stands behind the call -/
def RemRes (bx g m c : Nat) (n : Int) (F : Nat → Int) (w w' : World) : Prop := Own w' g m F ∧ IsX w' bx g m c n ∧ Kept (fun i => i = g ∨ i = bx) w w' ∧ w'.heap.size = w.heap.size

/-- the state at a loop's head -/
def RemAt (bx g m c : Nat) (n : Int) (F : Nat → Int) (w w' : World) : Prop := RemRes bx g m c n F w w'

set_option maxHeartbeats 2000000 in
theorem remove_any (bx g m c : Nat) (nn : Int) (e s t : Nat) (f : Nat → Int) (w : World) (R : Run m e f s t) (hpw : Pw m) (hu : U64 m f) (hx : IsX w bx g m c nn) (hg : Own w g m f) (hgx : g ≠ bx)
    (hn1 : 1 ≤ nn) (hn2 : nn ≤ 1048576) :
    Calls Try.prog 22 #[.pointer (some ⟨bx, 0, none⟩), .int .i64 (pos m e s : Nat)] w fun en w' => en = .returned (.tuple #[]) ∧ RemRes bx g m c (nn - 1) (tab m e f s (t - 1 - s)) w w' := by
  have hm0 := hpw.pos
  have hml := hpw.le
  have hst := R.st
  have htm := R.tm
  have hx0 := hx.cell0
  go_enter Try.func22, Try.ntmps22
  go_wp2
  go_loopg [1, 5] (t - s) (fun gk sl q wr => ∃ (i : Nat) (F : Nat → Int), s + i < t ∧ gk = t - (s + i) ∧ sl = .int .i64 (pos m e (hole m e f s i) : Nat) ∧ q = .int .i64 (pos m e (s + i) : Nat) ∧ upd F (pos m e (hole m e f s i)) 0 = tab m e f s i ∧ RemAt bx g m c nn F w wr)
  case atStart => exact ⟨0, f, by omega, rfl, rfl, rfl, rfl, hg, hx, Kept.refl _ _, rfl⟩
  case round =>
    obtain ⟨i, F, hi, hgk, rfl, rfl, hF, hOwn, hX, hK, hZ⟩ := hrel
    have I := inv_all R i hi
    obtain ⟨p, hpe⟩ : ∃ p, p = pos m e (hole m e f s i) := ⟨_, rfl⟩
    have hp : p < m := by rw [hpe]; exact pos_lt m e _ R.he (by have := I.hi; omega)
    have HI : Hid (p = pos m e (hole m e f s i) ∧ upd F p 0 = tab m e f s i) := ⟨hpe, by rw [hpe]; exact hF⟩
    rw [← hpe]
    clear hF hpe I hx0 hx hg
    have hx0 := hX.cell0
    have hfr := hOwn.frozen p
    have hcp := hOwn.cell hp
    have HG : Hid (gk = t - (s + i) ∧ wr.heap.size = w.heap.size) := ⟨hgk, hZ⟩
    clear hgk hZ
    obtain ⟨wo, hwo⟩ : ∃ wo : World, wo = wr := ⟨_, rfl⟩
    have HK : Hid (RemAt bx g m c nn (tab m e f s i) w (wo.setCell ⟨g, p, none⟩ (.int .u64 0))) := by
      refine ⟨?_, ?_, ?_, ?_⟩
      · have := hOwn.set p 0
        rw [HI.out.2] at this
        rw [hwo]; exact this
      · rw [hwo]; exact hX.set_other _ _ (Ne.symm hgx)
      · rw [hwo]; exact hK.setCell _ (Or.inl rfl) _
      · rw [hwo]; simp; exact HG.out.2
    subst hwo
    clear hX hK hOwn
    go_wp2
    clear hcp hfr hx0
    go_loopg [1, 5] (t - (s + i)) (fun gj sl q wr => ∃ i' : Nat, i ≤ i' ∧ s + i' < t ∧ gj = t - (s + i') ∧ sl = .int .i64 (pos m e (hole m e f s i') : Nat) ∧ q = .int .i64 (pos m e (s + i') : Nat) ∧ RemAt bx g m c nn (tab m e f s i') w wr)
    case atStart => exact ⟨i, Nat.le_refl _, hi, rfl, by rw [← HI.out.1], rfl, HK.out⟩
    case round =>
      clear HK
      obtain ⟨i', hii, hi', hgj, rfl, rfl, hOwn, hX, hK, hZ⟩ := hrel
      have I := inv_all R i' hi'
      have hhi := I.hi
      have he := R.he
      have HJ : Hid (wr.heap.size = w.heap.size) := hZ
      clear hZ
      clear HI hp
      obtain ⟨p, hpe⟩ : ∃ p, p = pos m e (hole m e f s i') := ⟨_, rfl⟩
      have hp : p < m := by rw [hpe]; exact pos_lt m e _ he (by omega)
      obtain ⟨q, hqe⟩ : ∃ q, q = pos m e (s + i') := ⟨_, rfl⟩
      have hq : q < m := by rw [hqe]; exact pos_lt m e _ he (by omega)
      obtain ⟨q', hqe'⟩ : ∃ q', q' = pos m e (s + i' + 1) := ⟨_, rfl⟩
      have hq' : q' < m := by rw [hqe']; exact pos_lt m e _ he (by omega)
      have hb1 : bits .and .i64 ((q : Int) + 1) ((m : Int) - 1) = (q' : Int) := by
        rw [mask_nx hpw q hq, hqe, nx_pos m e _ he (by omega), hqe']
      obtain ⟨v, hve⟩ : ∃ v, v = f q' := ⟨_, rfl⟩
      have hcv : wr.cell? ⟨g, q', none⟩ = some (.int .u64 v) := by
        rw [hOwn.cell hq', hqe', tab_next R i' (by omega), hve, hqe']
      have huv := hu q' hq'
      rw [← hve] at huv
      rw [← hpe, ← hqe]
      have hx0 := hX.cell0
      have hx1 := hX.cell1
      have hfx := hX.frozen 1
      by_cases hend : s + i' + 1 = t
      · have hvz : v = 0 := by rw [hve, hqe', hend]; exact R.tz
        have hvz' : (v == 0) = true := by simp [hvz]
        have HE : Hid (i' = t - 1 - s) := by show i' = _; omega
        clear hvz hve hqe hqe' hpe hend I hgj
        go_wp2
        refine bodyPost_ret (results_none rfl _ _ _) rfl ?_
        have e1 := HE.out
        subst e1
        exact ⟨rfl, hOwn.set_other _ _ hgx, hX.set1 _, hK.setCell _ (Or.inr rfl) _, by simp; exact HJ.out⟩
      · have hlt2 : s + i' + 1 < t := by omega
        have hvne : v ≠ 0 := by rw [hve, hqe']; exact R.full _ (by omega) (by omega)
        have hvz' : (v == 0) = false := by simp [hvne]
        have L := R.lr (s + i' + 1) (by have := R.s1; omega) (by omega) (R.full _ (by omega) (by omega))
        rw [← hqe', ← hve] at L
        obtain ⟨a, hae⟩ : ∃ a, a = hm m v := ⟨_, rfl⟩
        have ha : a < m := by rw [hae]; exact hm_lt m _ hm0
        have hb2 : bits .and .i64 (v / 4294967296) ((m : Int) - 1) = (a : Int) := by rw [hae]; exact mask_hm hpw _ huv.1
        obtain ⟨d1, hd1e⟩ : ∃ d, d = dst m a q' := ⟨_, rfl⟩
        have hb3 : bits .and .i64 ((q' : Int) - (a : Int)) ((m : Int) - 1) = (d1 : Int) := by rw [hd1e]; exact mask_dst hpw _ _ ha hq'
        obtain ⟨d2, hd2e⟩ : ∃ d, d = dst m p q' := ⟨_, rfl⟩
        have hb4 : bits .and .i64 ((q' : Int) - (p : Int)) ((m : Int) - 1) = (d2 : Int) := by rw [hd2e]; exact mask_dst hpw _ _ hp hq'
        have hd1 : d1 = s + i' + 1 - hl m e v := by
          rw [hd1e, hae, hm_hl m e v he, hqe', dst_pos_pos m e _ _ he (hl_lt m e v he) (by omega)]
          unfold dst; rw [if_pos L.2.1]
        have hd2 : d2 = s + i' + 1 - hole m e f s i' := by
          rw [hd2e, hpe, hqe', dst_pos_pos m e _ _ he (by omega) (by omega)]
          unfold dst; rw [if_pos (by omega)]
        have hL2 := L.2.1
        have hfp := hOwn.frozen p
        have hcp := hOwn.cell hp
        have hsz : d1 ≤ 1048576 ∧ d2 ≤ 1048576 := by omega
        by_cases hc : hl m e v ≤ hole m e f s i'
        · have htest : d2 ≤ d1 := by omega
          have HH : Hid (hole m e f s (i' + 1) = s + (i' + 1) ∧ tab m e f s (i' + 1) = upd (upd (tab m e f s i') p v) q' 0) := by
            constructor
            · simp only [hole]; rw [if_pos (by rw [← hqe', ← hve]; exact hc)]; omega
            · simp only [tab]; rw [if_pos (by rw [← hqe', ← hve]; exact hc), ← hqe', ← hve, ← hpe]
          have HQ : Hid (q' = pos m e (s + (i' + 1))) := hqe'
          have hOwn' := hOwn.set p v
          have HO : Hid (RemAt bx g m c nn (upd (tab m e f s i') p v) w (wr.setCell ⟨g, p, none⟩ (.int .u64 v))) :=
            ⟨hOwn.set p v, hX.set_other _ _ (Ne.symm hgx), hK.setCell _ (Or.inl rfl) _, by simp; exact HJ.out⟩
          clear hvne hve hqe hqe' hpe hend I hgj hd1 hd2 hd1e hd2e hae L hL2 hc hOwn' hOwn hK hx1 hfx hX
          go_wp2
          go_roundg (t - (s + (i' + 1)))
          case measure => have := HG.out.1; omega
          case rel =>
            refine ⟨i' + 1, upd (tab m e f s i') p v, by omega, rfl, ?_, ?_, ?_, HO.out⟩
            · rw [HH.out.1, ← HQ.out]
            · rw [← HQ.out]
            · rw [HH.out.1, ← HQ.out, HH.out.2]
        · have htest : ¬ d2 ≤ d1 := by omega
          have HH : Hid (hole m e f s (i' + 1) = hole m e f s i' ∧ tab m e f s (i' + 1) = tab m e f s i') := by
            constructor
            · simp only [hole]; rw [if_neg (by rw [← hqe', ← hve]; exact hc)]
            · simp only [tab]; rw [if_neg (by rw [← hqe', ← hve]; exact hc)]
          have HQ : Hid (q' = pos m e (s + (i' + 1)) ∧ p = pos m e (hole m e f s i')) := ⟨hqe', hpe⟩
          have HO : Hid (RemAt bx g m c nn (tab m e f s i') w wr) := ⟨hOwn, hX, hK, HJ.out⟩
          have HGJ : Hid (gk = t - (s + i')) := hgj
          clear hvne hve hqe hqe' hpe hend I hgj hd1 hd2 hd1e hd2e hae L hL2 hc hOwn hK hx1 hfx hX
          go_wp2
          go_roundg (t - (s + (i' + 1)))
          case measure => have := HGJ.out; omega
          case rel =>
            refine ⟨i' + 1, by omega, by omega, rfl, ?_, ?_, ?_⟩
            · rw [HH.out.1, ← HQ.out.2]
            · rw [← HQ.out.1]
            · rw [HH.out.2]; exact HO.out

end Go.Proofs.Qxb6602393a
