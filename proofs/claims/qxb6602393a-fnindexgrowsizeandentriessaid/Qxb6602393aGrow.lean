import Derived.Test.Qxb6602393aFree
import Derived.Test.Qxb6602393aSort
import Derived.Deep.DeepCutAuto
import Derived.Deep.RegionHeld3
import Derived.Deep.DrawnRows
set_option linter.unusedVariables false
namespace Go.Proofs.Qxb6602393a
open Go.RowKit Plain

/-- the struct 'index' in block bx: a slice, perhaps nil, and n -/
def IsXa (w : World) (bx : Nat) (a : Option Addr) (m c : Nat) (n : Int) : Prop := w.heap[bx]? = some (.cells #[.slice a m c, .int .i64 n] 39 (0, 0))
theorem IsXa.cell0 {w : World} {bx m c : Nat} {a : Option Addr} {n : Int} (h : IsXa w bx a m c n) : w.cell? ⟨bx, 0, none⟩ = some (.slice a m c) := by rw [cell_of_row w bx 0 _ 39 (0, 0) h]; rfl
theorem IsXa.cell1 {w : World} {bx m c : Nat} {a : Option Addr} {n : Int} (h : IsXa w bx a m c n) : w.cell? ⟨bx, 1, none⟩ = some (.int .i64 n) := by rw [cell_of_row w bx 1 _ 39 (0, 0) h]; rfl
theorem IsXa.frozen {w : World} {bx m c : Nat} {a : Option Addr} {n : Int} (h : IsXa w bx a m c n) (i : Nat) : w.frozen? ⟨bx, i, none⟩ = false := by
  unfold IsXa at h
  simp [World.frozen?, h]
theorem IsXa.lt {w : World} {bx m c : Nat} {a : Option Addr} {n : Int} (h : IsXa w bx a m c n) : bx < w.heap.size := (Array.getElem?_eq_some_iff.1 h).1
theorem IsXa.set0 {w : World} {bx m c : Nat} {a : Option Addr} {n : Int} (h : IsXa w bx a m c n) (g m' c' : Nat) : IsX (w.setCell ⟨bx, 0, none⟩ (.slice (some ⟨g, 0, none⟩) m' c')) bx g m' c' n := by
  unfold IsX
  rw [heap_setCell_same w bx 0 _ 39 _ h]; rfl
theorem IsXa.below {w w' : World} {bx m c : Nat} {a : Option Addr} {n : Int} (h : IsXa w bx a m c n) (hb : Below w.heap.size w w') : IsXa w' bx a m c n := by
  unfold IsXa
  rw [hb.block bx h.lt]; exact h

/-- the sizes that come in -/
def Sz (m : Nat) : Prop := m = 0 ∨ (Pw m ∧ 8 ≤ m)

set_option maxRecDepth 100000 in
set_option maxHeartbeats 2000000 in
theorem grow_same (bx m c nn mo : Nat) (a : Option Addr) (w : World) (hm : 8 ≤ m) (hml : m ≤ 1048576) (hx : IsXa w bx a m c (nn : Int)) (hnn : nn ≤ 1048576) (hmo : mo ≤ 65536) (hs : 4 * (nn + mo) ≤ 3 * m) :
    Calls Try.prog 23 #[.pointer (some ⟨bx, 0, none⟩), .int .i64 (mo : Nat)] w fun en w' => en = .returned (.tuple #[]) ∧ w' = w := by
  have hx0 := hx.cell0
  have hx1 := hx.cell1
  go_enter Try.func23, Try.ntmps23
  go_upto_region 0 with fail
  go_cut [4] (fun sv wx => sv = .int .i64 (m : Nat) ∧ wx = w)
  case first =>
    go_wp2
    all_goals go_meet
    all_goals (case rel => exact ⟨by go_num, rfl⟩)
  case rest =>
    obtain ⟨rfl, rfl⟩ := hcut
    go_wp2
    refine wp_loop_rounds 1 ?_
    rw [rounds_succ]
    have heq : ((m : Int) == (m : Int)) = true := by simp
    go_wp2
    refine bodyPost_ret (results_none rfl _ _ _) rfl ?_
    exact ⟨rfl, rfl⟩

def GrowRes (bx M : Nat) (nn : Int) (f : Nat → Int) (m : Nat) (w w' : World) : Prop := ∃ F, Own w' w.heap.size M F ∧ IsX w' bx w.heap.size M M nn ∧ GInv M f F m ∧ Kept (fun i => i = bx) w w'

/-- the state at the head of the loop over the old slots -/
def GrowAt (B bx M : Nat) (nn : Int) (f F : Nat → Int) (k : Nat) (w wr : World) : Prop := Own wr B M F ∧ IsX wr bx B M M nn ∧ GInv M f F k ∧ Kept (fun i => i = bx) w wr ∧ B < wr.heap.size

theorem sz_le (s0 i I M : Nat) (hi : i ≤ I) (hM : M = s0 * 2 ^ I) : s0 * 2 ^ i ≤ M := by
  rw [hM]; exact Nat.mul_le_mul_left _ (Nat.pow_le_pow_right (by decide) hi)

theorem Kept.setNew {S : Nat → Prop} {a w : World} (h : Kept S a w) (p : Addr) (hp : a.heap.size ≤ p.block) (u : Value) : Kept S a (w.setCell p u) :=
  ⟨h.os, h.tape, h.output, by simp; exact h.size, fun k hk hs => (Below.heap_setCell _ _ _ _ (by omega)).trans (h.block k hk hs)⟩

attribute [local go_sem ↓] Go.wp_at_zero Go.wp_at_succ

set_option maxRecDepth 100000 in
set_option maxHeartbeats 400000 in
theorem grow_more (bx m c nn mo M : Nat) (a : Option Addr) (f : Nat → Int) (w : World) (hsz : m = 0 ∨ 8 ≤ m) (hx : IsXa w bx a m c (nn : Int)) (hrd : RdA w a m f) (hbx : 0 < m → ∀ b off, a = some ⟨b, off, none⟩ → b ≠ bx)
    (hu : U64 m f) (hpM : Pw M) (hS : SizeOf (max m 8) (nn + mo) M) (hMm : M ≠ m) (hroom : cnt f m < M) (hnn : nn ≤ 1048576) (hmo : mo ≤ 65536) :
    Calls Try.prog 23 #[.pointer (some ⟨bx, 0, none⟩), .int .i64 (mo : Nat)] w fun en w' => en = .returned (.tuple #[]) ∧ GrowRes bx M (nn : Int) f m w w' := by
  have hx0 := hx.cell0
  have hx1 := hx.cell1
  have hM0 := hpM.pos
  have hML := hpM.le
  obtain ⟨I, hI1, hI2, hI3⟩ := hS
  have hsM : max m 8 ≤ M := by
    have := sz_le (max m 8) 0 I M (Nat.zero_le _) hI1
    simpa using this
  have hmM : m ≤ 1048576 := by omega
  obtain ⟨s0, hs0⟩ : ∃ s0, s0 = max m 8 := ⟨_, rfl⟩
  rw [← hs0] at hI1 hI3 hsM
  have HI : Hid (M = s0 * 2 ^ I ∧ (∀ j, j < I → 3 * (s0 * 2 ^ j) < 4 * (nn + mo)) ∧ s0 = max m 8) := ⟨hI1, hI3, hs0⟩
  clear hI1 hI3
  go_enter Try.func23, Try.ntmps23
  go_upto_region 0 with fail
  go_cut [4] (fun sv wx => sv = .int .i64 (s0 : Nat) ∧ wx = w)
  case first =>
    rcases hsz with h0 | h8
    · subst h0
      have e8 : s0 = 8 := by simpa using hs0
      subst e8
      clear hs0
      go_wp2
      all_goals go_meet
      all_goals (case rel => exact ⟨by go_num, rfl⟩)
    · have e8 : s0 = m := by omega
      subst e8
      clear hs0
      go_wp2
      all_goals go_meet
      all_goals (case rel => exact ⟨by go_num, rfl⟩)
  case rest =>
    obtain ⟨rfl, hwc⟩ := hcut
    subst hwc
    clear hs0
    go_wp2
    go_loopg [4] I (fun gk sv wr => ∃ (i sz : Nat), i ≤ I ∧ gk = I - i ∧ sz = s0 * 2 ^ i ∧ sv = .int .i64 (sz : Nat) ∧ wr = wc)
    case atStart => exact ⟨0, s0, Nat.zero_le _, rfl, by simp, rfl, rfl⟩
    case round =>
      obtain ⟨i, sz, hi, hgk, hsze, rfl, hwr⟩ := hrel
      subst hwr
      have hszM : sz ≤ M := by rw [hsze]; exact sz_le s0 i I M hi HI.out.1
      have HZ : Hid (gk = I - i ∧ sz = s0 * 2 ^ i) := ⟨hgk, hsze⟩
      by_cases hiI : i < I
      · have hlt : 3 * sz < 4 * (nn + mo) := by rw [hsze]; exact HI.out.2.1 i hiI
        clear hgk hsze
        go_wp2
        go_roundg (I - (i + 1))
        case measure => have := HZ.out.1; omega
        case rel => exact ⟨i + 1, sz * 2, by omega, rfl, by rw [HZ.out.2, Nat.pow_succ, Nat.mul_assoc], by go_num, rfl⟩
      · have hszM : sz = M := by rw [hsze, show i = I by omega]; exact HI.out.1.symm
        subst hszM
        clear hgk hsze HZ
        have hne : ((sz : Int) == (m : Int)) = false := by
          have : ¬ (sz : Int) = (m : Int) := by omega
          simp [this]
        clear hMm
        go_wp2_with (at_make; refine make_row _ rfl _ _ rfl _ _ sz sz rfl rfl rfl rfl (Nat.le_refl _) (by omega) ?_; intro w1 hown1 hbel1 hsz1; have hxx := hx.below hbel1; have hxx0 := hxx.cell0; have hxf := hxx.frozen 0)
        obtain ⟨B, hB⟩ : ∃ B, B = wr.heap.size := ⟨_, rfl⟩
        rw [← hB] at hown1 hbel1 hsz1 ⊢
        have hbxB : bx < B := by rw [hB]; exact hx.lt
        obtain ⟨wo, hwo⟩ : ∃ wo : World, wo = wr := ⟨_, rfl⟩
        have HS : Hid (GrowAt B bx sz (nn : Int) f zeroF 0 wo (w1.setCell ⟨bx, 0, none⟩ (.slice (some ⟨B, 0, none⟩) sz sz))) := by
          rw [hwo]
          refine ⟨hown1.set_other _ _ (by simp; omega), hxx.set0 _ _ _, ginv_start _ _, ?_, ?_⟩
          · rw [hB] at hbel1
            exact (Kept.of_below (S := fun i => i = bx) hbel1).setCell ⟨bx, 0, none⟩ rfl _
          · simp only [World.size_setCell]; omega
        have HB : Hid (B = wo.heap.size) := by rw [hwo]; exact hB
        subst hwo
        clear hB hown1 hbel1 hsz1 hxx hxx0 hxf hx0 hx1 hx hne
        go_loopg [44] m (fun gk iv wx => ∃ (k : Nat) (F : Nat → Int), k ≤ m ∧ gk = m - k ∧ iv = .int .i64 (k : Nat) ∧ GrowAt B bx sz (nn : Int) f F k wo wx)
        case atStart => exact ⟨0, zeroF, Nat.zero_le _, rfl, rfl, HS.out⟩
        case round =>
          clear HS
          obtain ⟨k, F, hk, hgk, rfl, hO, hX, hG, hK, hBs⟩ := hrel
          have HG : Hid (gk = m - k ∧ GInv sz f F k) := ⟨hgk, hG⟩
          clear hgk hG
          by_cases hlt : k < m
          · obtain ⟨b, off, rfl, hR⟩ := hrd (by omega)
            have hbl := hR.lt (by omega)
            have hck : wr.cell? ⟨b, off + k, none⟩ = some (.int .u64 (f k)) := (World.cell?_of_block (a := ⟨b, off + k, none⟩) (hK.block b hbl (hbx (by omega) b off rfl))).trans (hR k hlt)
            have huk := hu k hlt
            by_cases hz : f k = 0
            · have hz' : (f k != 0) = false := by simp [hz]
              have HN : Hid (GInv sz f F (k + 1)) := ginv_skip HG.out.2 hz
              clear hz
              go_wp2
              go_roundg (m - (k + 1))
              case measure => have := HG.out.1; omega
              case rel => exact ⟨k + 1, F, by omega, rfl, by go_num, hO, hX, HN.out, hK, hBs⟩
            · have hz' : (f k != 0) = true := by simp [hz]
              have hem : ∃ e, e < sz ∧ F e = 0 := by
                refine cnt_lt_empty F sz ?_
                have h1 := HG.out.2.c
                have h2 := cnt_mono f k (m - k)
                rw [show k + (m - k) = m by omega] at h2
                omega
              obtain ⟨v, hve⟩ : ∃ v, v = f k := ⟨_, rfl⟩
              rw [← hve] at hck huk hz'
              obtain ⟨d, hd⟩ := first_ex sz F (hm sz v) (hm_lt sz v hM0) hem
              obtain ⟨p, hpe⟩ : ∃ p, p = pos sz (hm sz v) d := ⟨_, rfl⟩
              have hp : p < sz := by rw [hpe]; exact pos_lt sz _ d (hm_lt sz v hM0) (by have := hd.1; omega)
              have HN : Hid (GInv sz f (upd F p v) (k + 1)) := by
                have := ginv_put HG.out.2 hM0 hz (by rw [← hve]; exact huk) (by rw [← hve]; exact hd)
                rw [← hve, ← hpe] at this
                exact this
              have HF : Hid (∀ wy : World, wy.heap = wr.heap → Calls Try.prog 24 #[.pointer (some ⟨bx, 0, none⟩), .int .u32 (IntKind.u32.wrap (v / 4294967296))] wy fun en w' => en = .returned (.int .i64 (p : Nat)) ∧ w' = wy) := by
                intro wy hwy
                rw [hpe, show IntKind.u32.wrap (v / 4294967296) = v / 4294967296 from by rw [IntKind.wrap_u32]; omega]
                refine free_any bx B sz sz (nn : Int) v d F wy hpM ?_ ?_ huk.1 huk.2 hd
                · unfold IsX; rw [hwy]; exact hX
                · unfold Own; rw [hwy]; exact hO
              have hx0 := hX.cell0
              have hcp := hO.cell hp
              have hfp := hO.frozen p
              have hp0 : (0 : Int) ≤ (p : Int) := by omega
              have hp1 : (p : Int) < (sz : Int) := by omega
              have hxs : (wr.setCell ⟨B, p, none⟩ (.int .u64 v)).cell? ⟨bx, 0, none⟩ = some (.slice (some ⟨B, 0, none⟩) sz sz) := (hX.set_other ⟨B, p, none⟩ (.int .u64 v) (by simp; omega)).cell0
              clear hz hve hd hpe hem hR
              have HX : Hid (Own wr B sz F ∧ IsX wr bx B sz sz (nn : Int) ∧ Kept (fun i => i = bx) wo wr ∧ B < wr.heap.size) := ⟨hO, hX, hK, hBs⟩
              clear hrd hbx hu hO hX hK hBs hroom hpM hI2 hsz hbl
              go_wp2
              go_region_held3 (fun w' => w'.cell? ⟨bx, 0, none⟩ = some (.slice (some ⟨B, 0, none⟩) sz sz)) (go_keep) ((go_at_call 24; refine (HF.out _ (by rfl)).mono ?_; rintro e w' ⟨rfl, rfl⟩))
              all_goals (try go_wp2)
              go_roundg (m - (k + 1))
              case measure => have := HG.out.1; omega
              case rel =>
                obtain ⟨hO, hX, hK, hBs⟩ := HX.out
                exact ⟨k + 1, upd F p v, by omega, rfl, by go_num, hO.set p v, hX.set_other _ _ (by simp; omega), HN.out, (hK.setNew ⟨B, p, none⟩ (by rw [← HB.out]; exact Nat.le_refl _) _).drew, by show B < (wr.setCell ⟨B, p, none⟩ (.int .u64 v)).heap.size; rw [World.size_setCell]; exact hBs⟩
          · have hkm : k = m := by omega
            subst hkm
            go_wp2
            go_end0
            have hb := HB.out
            subst hb
            exact ⟨rfl, F, hO, hX, HG.out.2, hK⟩

end Go.Proofs.Qxb6602393a
