import Derived.Test.Qxb6602393aRowlaws
import Derived.Test.Qxb6602393aPlain3
import Derived.Deep.DeepCutAuto
set_option linter.unusedVariables false
namespace Go.Proofs.Qxb6602393a
open Go.RowKit Plain

/-- a slice, perhaps nil or empty, that reads as f -/
def RdA (w : World) (a : Option Addr) (n : Nat) (f : Nat → Int) : Prop := 0 < n → ∃ b off, a = some ⟨b, off, none⟩ ∧ Rd w b off n f

/-- two rows of the call's own -/
structure Two (w wr : World) (B gs gb cs cb cn : Nat) (S U : Nat → Int) : Prop where
  s : Own wr gs cs S
  t : Own wr gb cb U
  ne : gs ≠ gb
  bs : B ≤ gs
  bt : B ≤ gb
  cs : cn ≤ cs
  ct : cn ≤ cb
  bel : Below B w wr

theorem Two.swap {w wr : World} {B gs gb cs cb cn : Nat} {S U : Nat → Int} (h : Two w wr B gs gb cs cb cn S U) : Two w wr B gb gs cb cs cn U S := ⟨h.t, h.s, Ne.symm h.ne, h.bt, h.bs, h.ct, h.cs, h.bel⟩
theorem Two.put {w wr : World} {B gs gb cs cb cn : Nat} {S U : Nat → Int} (h : Two w wr B gs gb cs cb cn S U) (k : Nat) (v : Int) : Two w (wr.setCell ⟨gb, k, none⟩ (.int .u64 v)) B gs gb cs cb cn S (upd U k v) :=
  ⟨h.s.set_other _ _ h.ne, h.t.set k v, h.ne, h.bs, h.bt, h.cs, h.ct, h.bel.setCell h.bt _⟩
theorem Two.draws {w wr : World} {B gs gb cs cb cn : Nat} {S U : Nat → Int} (h : Two w wr B gs gb cs cb cn S U) (n : Nat) : Two w (wr.drewN n) B gs gb cs cb cn S U :=
  ⟨h.s, h.t, h.ne, h.bs, h.bt, h.cs, h.ct, Below.drewN' h.bel n⟩

def SRes (n : Nat) (f : Nat → Int) (w : World) (e : Ending) (w' : World) : Prop := ∃ (g c cap : Nat) (h : Nat → Int), e = .returned (.slice (some ⟨g, 0, none⟩) c cap) ∧ Own w' g cap h ∧ c ≤ cap ∧ c ≤ n ∧ w.heap.size ≤ g ∧ Sorted f h n c ∧ Below w.heap.size w w'

def Ph1 (n : Nat) (f h : Nat → Int) (w wr : World) (B k cn : Nat) : Prop := Gather f h k cn ∧ Own wr B n h ∧ Below B w wr ∧ B + 1 ≤ wr.heap.size

set_option maxRecDepth 100000 in
set_option maxHeartbeats 4000000 in
theorem sort_any (a : Option Addr) (n c : Nat) (f : Nat → Int) (w : World) (hn : n ≤ 1048576) (h : RdA w a n f) :
    Calls Try.prog 14 #[.slice a n c] w fun e w' => SRes n f w e w' := by
  obtain ⟨B, hB⟩ : ∃ B, B = w.heap.size := ⟨_, rfl⟩
  have HB : Hid (B = w.heap.size) := hB
  go_enter Try.func14, Try.ntmps14
  clear hB
  go_wp2_with (at_make; refine make_row _ rfl _ _ rfl _ _ 0 n rfl rfl rfl rfl (Nat.zero_le _) (by omega) ?_; intro w1 hown hbel hsz)
  rw [← HB.out] at hown hbel hsz ⊢
  have H1 : Hid (Ph1 n f zeroF w w1 B 0 0) := ⟨gather_start _ _, hown, hbel, by omega⟩
  clear hown hbel hsz
  go_loopw [3, 4] (fun v i wr => ∃ (k cn : Nat) (g : Nat → Int), k ≤ n ∧ cn ≤ k ∧ i = .int .i64 k ∧ v = .slice (some ⟨B, 0, none⟩) cn n ∧ Ph1 n f g w wr B k cn) (fun _ i _ => n - (intOf i).toNat)
  case atStart => exact ⟨0, 0, zeroF, Nat.zero_le _, Nat.le_refl _, rfl, rfl, H1.out⟩
  case round =>
    clear H1
    obtain ⟨k, cn, g, hk, hcn, rfl, rfl, hG, hO, hbel, hsz⟩ := hrel
    have HG : Hid (Gather f g k cn) := hG
    clear hG
    by_cases hlt : k < n
    · obtain ⟨b, off, rfl, hrd⟩ := h (by omega)
      have hbB : b < B := by rw [HB.out]; exact hrd.lt (by omega)
      have hc : wr.cell? ⟨b, off + k, none⟩ = some (.int .u64 (f k)) := (hbel.cell (p := ⟨b, off + k, none⟩) hbB).trans (hrd k hlt)
      by_cases hz : f k = 0
      · have hz' : (f k != 0) = false := by simp [hz]
        have HZ : Hid (f k = 0) := hz
        clear hz
        go_wp2
        go_roundw
        case rel => exact ⟨k + 1, cn, g, by omega, by omega, by go_num, rfl, gather_skip HG.out HZ.out, hO, hbel, hsz⟩
        case measure => simp [intOf]; omega
      · have hz' : (f k != 0) = true := by simp [hz]
        have HZ : Hid (¬ f k = 0) := hz
        clear hz
        have hcn' := new_one wr (.int .u64 (f k))
        have hOb := hO.alloc (.cells #[.int .u64 (f k)] 29)
        have HBel : Hid (Below B w (wr.alloc (.cells #[.int .u64 (f k)] 29)) ∧ B + 1 ≤ (wr.alloc (.cells #[.int .u64 (f k)] 29)).heap.size) := ⟨hbel.alloc (by omega) _, by simp; omega⟩
        clear hbel hO
        go_wp2_with (at_builtin; refine append_row _ rfl _ _ rfl B cn n g (f k) rfl hOb wr.heap.size 1 rfl hcn' (by omega) ?_; intro w3 ho3 hk3 hs3)
        go_roundw
        case rel => exact ⟨k + 1, cn + 1, upd g cn (f k), by omega, by omega, by go_num, rfl, gather_take HG.out HZ.out, ho3, HBel.out.1.trans (hk3.below (by have := HBel.out.2; omega) (fun j hj => by omega)), by have := HBel.out.2; have := hk3.size; omega⟩
        case measure => simp [intOf]; omega
    · have hkn : k = n := by omega
      have HKN : Hid (Gather f g n cn) := by have := HG.out; rw [hkn] at this; exact this
      clear hkn HG h
      go_wp2_with (at_make; refine make_row _ rfl _ _ rfl _ _ cn cn rfl rfl rfl rfl (Nat.le_refl _) (by omega) ?_; intro w2 hown2 hbel2 hsz2)
      obtain ⟨gb0, hgb0⟩ : ∃ gb0, gb0 = wr.heap.size := ⟨_, rfl⟩
      rw [← hgb0]
      have HT : Hid (Two w w2 B B gb0 n cn cn g zeroF) := by
        refine ⟨hO.below' hbel2, by rw [hgb0]; exact hown2, by omega, Nat.le_refl _, by omega, by omega, Nat.le_refl _, hbel.trans (hbel2.mono (by omega))⟩
      clear hgb0 hown2 hbel2 hsz2 hO hbel hsz
      go_loopg [3, 6, 7] (cn - 1) (fun gk s t wv wr => ∃ (wd gs gb cs cb : Nat) (S U : Nat → Int), s = .slice (some ⟨gs, 0, none⟩) cn cs ∧ t = .slice (some ⟨gb, 0, none⟩) cn cb ∧ 1 ≤ wd ∧ wv = .int .i64 wd ∧ gk = cn - wd ∧ Chunks S cn wd ∧ (∀ v, occ S v cn = occ g v cn) ∧ Two w wr B gs gb cs cb cn S U)
      case atStart => exact ⟨1, B, gb0, n, cn, g, zeroF, rfl, rfl, Nat.le_refl _, rfl, rfl, chunks_one _ _, fun _ => rfl, HT.out⟩
      case round =>
        clear HT
        obtain ⟨wd, gs, gb, cs, cb, S, U, rfl, rfl, hwd, rfl, hgk, hch, hoc, hTw⟩ := hrel
        have HC : Hid (gk = cn - wd ∧ Chunks S cn wd ∧ (∀ v, occ S v cn = occ g v cn)) := ⟨hgk, hch, hoc⟩
        clear hgk hch hoc
        by_cases hlt2 : wd < cn
        · go_wp2
          go_loopg [8] cn (fun gl lv wr => ∃ (lo c : Nat) (U : Nat → Int), lv = .int .i64 lo ∧ gl = cn - lo ∧ lo ≤ 3 * cn ∧ lo = c * (2 * wd) ∧ PInv S U cn wd c ∧ Two w wr B gs gb cs cb cn S U)
          case atStart => exact ⟨0, 0, U, rfl, rfl, Nat.zero_le _, by omega, pinv_start _ _ _ _, hTw⟩
          case round =>
            clear hTw
            obtain ⟨lo, c, U, rfl, hgl, hlo3, hlo, hP, hTw⟩ := hrel
            have HP : Hid (gk = cn - lo ∧ lo = c * (2 * wd) ∧ PInv S U cn wd c) := ⟨hgl, hlo, hP⟩
            clear hgl hlo hP
            by_cases hlt3 : lo < cn
            · go_upto_region 15 with fail
              go_cut [9] (fun mv wx => ∃ mid : Nat, mv = .int .i64 mid ∧ mid = min (lo + wd) cn ∧ wx = wr)
              case first =>
                go_wp2
                all_goals go_meet
                all_goals (case rel => exact ⟨min (lo + wd) cn, by go_num, rfl, rfl⟩)
              case rest =>
                obtain ⟨mid, rfl, hmid, hwc⟩ := hcut
                have HM : Hid (mid = min (lo + wd) cn) := hmid
                have hm1 : lo ≤ mid := by omega
                have hm2 : mid ≤ cn := by omega
                clear hmid
                subst hwc
                go_upto_region 16 with fail
                go_cut [10] (fun mv wx => ∃ hi : Nat, mv = .int .i64 hi ∧ hi = min (lo + 2 * wd) cn ∧ wx = wc)
                case first =>
                  go_wp2
                  all_goals go_meet
                  all_goals (case rel => exact ⟨min (lo + 2 * wd) cn, by go_num, rfl, rfl⟩)
                case rest =>
                  obtain ⟨hi, rfl, hhi, hwc⟩ := hcut
                  have HI : Hid (hi = min (lo + 2 * wd) cn) := hhi
                  have hm3 : mid ≤ hi := by have := HM.out; omega
                  have hm4 : hi ≤ cn := by omega
                  clear hhi
                  subst hwc
                  go_wp2
                  have HH : Hid (Srt S lo mid ∧ Srt S mid hi) := by
                    have := halves HC.out.2.1 c
                    rw [← HP.out.2.1, ← HM.out, ← HI.out] at this
                    exact this
                  go_loopg [11, 12, 13] (hi - lo) (fun gm iv jv kv wx => ∃ (i j q : Nat) (U' : Nat → Int), iv = .int .i64 (i : Nat) ∧ jv = .int .i64 (j : Nat) ∧ kv = .int .i64 (q : Nat) ∧ gm = hi - q ∧ MInv S U' U lo mid hi i j q ∧ Two w wx B gs gb cs cb cn S U')
                  case atStart => exact ⟨lo, mid, lo, U, rfl, rfl, rfl, rfl, minv_start S U lo mid hi hm1 hm3, hTw⟩
                  case round =>
                    clear hTw
                    obtain ⟨i, j, q, U', rfl, rfl, rfl, hgm, hMI, hTw⟩ := hrel
                    have b1 := hMI.h1
                    have b2 := hMI.h2
                    have b3 := hMI.h3
                    have b4 := hMI.h4
                    have b5 : q ≤ hi := by have := hMI.hk; omega
                    have b6 : q < hi → j < hi ∨ i < mid := by have := hMI.hk; omega
                    have b7 : lo ≤ q := by have := hMI.hk; omega
                    have HK : Hid (gk = hi - q ∧ MInv S U' U lo mid hi i j q) := ⟨hgm, hMI⟩
                    clear hgm hMI
                    have t1 := hTw.cs
                    have t2 := hTw.ct
                    by_cases hq : q < hi
                    · have hcq := hTw.t.cell (i := q) (by omega)
                      have hfq := hTw.t.frozen q
                      have hq0 : (0 : Int) ≤ (q : Int) := by omega
                      have hqc : (q : Int) < (cn : Int) := by omega
                      by_cases c1 : hi ≤ j
                      · have c2 : i < mid := by have := b6 hq; omega
                        have d1 : decide ((hi : Int) ≤ (j : Int)) = true := decide_eq_true (by omega)
                        have hci := hTw.s.cell (i := i) (by omega)
                        have HN : Hid (MInv S (upd U' q (S i)) U lo mid hi (i + 1) j (q + 1)) := minv_i HK.out.2 HH.out.1 HH.out.2 c2 (Or.inl c1)
                        have hic : (i : Int) < (cn : Int) := by omega
                        have hi0 : (0 : Int) ≤ (i : Int) := by omega
                        go_wp2
                        go_quiet (fail)
                        go_wp2
                        go_roundg (hi - (q + 1))
                        case measure => have := HK.out.1; omega
                        case rel => exact ⟨i + 1, j, q + 1, upd U' q (S i), by go_num, rfl, by go_num, rfl, HN.out, (hTw.draws _).put q _⟩
                      · have c1' : j < hi := by omega
                        have d1 : decide ((hi : Int) ≤ (j : Int)) = false := decide_eq_false (by omega)
                        have hcj := hTw.s.cell (i := j) (by omega)
                        have hjc : (j : Int) < (cn : Int) := by omega
                        have hj0 : (0 : Int) ≤ (j : Int) := by omega
                        by_cases c2 : i < mid
                        · have hci := hTw.s.cell (i := i) (by omega)
                          have hic : (i : Int) < (cn : Int) := by omega
                          have hi0 : (0 : Int) ≤ (i : Int) := by omega
                          have him : (i : Int) < (mid : Int) := by omega
                          have d2 : decide ((i : Int) < (mid : Int)) = true := decide_eq_true him
                          by_cases c3 : S i ≤ S j
                          · have d3 : decide (S i ≤ S j) = true := decide_eq_true c3
                            have HN : Hid (MInv S (upd U' q (S i)) U lo mid hi (i + 1) j (q + 1)) := minv_i HK.out.2 HH.out.1 HH.out.2 c2 (Or.inr c3)
                            go_wp2
                            go_quiet (fail)
                            go_wp2
                            go_roundg (hi - (q + 1))
                            case measure => have := HK.out.1; omega
                            case rel => exact ⟨i + 1, j, q + 1, upd U' q (S i), by go_num, rfl, by go_num, rfl, HN.out, (hTw.draws _).put q _⟩
                          · have d3 : decide (S i ≤ S j) = false := decide_eq_false c3
                            have HN : Hid (MInv S (upd U' q (S j)) U lo mid hi i (j + 1) (q + 1)) := minv_j HK.out.2 HH.out.1 HH.out.2 c1' (Or.inr (by omega))
                            go_wp2
                            go_quiet (fail)
                            go_wp2
                            go_roundg (hi - (q + 1))
                            case measure => have := HK.out.1; omega
                            case rel => exact ⟨i, j + 1, q + 1, upd U' q (S j), rfl, by go_num, by go_num, rfl, HN.out, (hTw.draws _).put q _⟩
                        · have d2 : decide ((i : Int) < (mid : Int)) = false := decide_eq_false (by omega)
                          have HN : Hid (MInv S (upd U' q (S j)) U lo mid hi i (j + 1) (q + 1)) := minv_j HK.out.2 HH.out.1 HH.out.2 c1' (Or.inl (by omega))
                          go_wp2
                          go_quiet (fail)
                          go_wp2
                          go_roundg (hi - (q + 1))
                          case measure => have := HK.out.1; omega
                          case rel => exact ⟨i, j + 1, q + 1, upd U' q (S j), rfl, by go_num, by go_num, rfl, HN.out, (hTw.draws _).put q _⟩
                    · have hqe : q = hi := by omega
                      have HE : Hid (PInv S U' cn wd (c + 1)) := by
                        have M := HK.out.2
                        rw [hqe] at M
                        have hcnt : ∀ v, occ U v lo = occ S v lo := fun v => by
                          have := HP.out.2.2.cnt v
                          rw [← HP.out.2.1, Nat.min_eq_left (by omega)] at this
                          exact this
                        have E := minv_end M hcnt
                        have hlt4 : c * (2 * wd) < cn := by rw [← HP.out.2.1]; exact hlt3
                        refine pinv_step HP.out.2.2 hlt4 ?_ ?_ ?_
                        · rw [← HP.out.2.1, ← HI.out]; exact E.1
                        · rw [← HP.out.2.1, ← HI.out]; exact E.2.1
                        · rw [← HP.out.2.1]; exact E.2.2
                      clear hqe
                      go_wp2
                      go_roundg (cn - (lo + 2 * wd))
                      case measure => have := HP.out.1; omega
                      case rel => exact ⟨lo + 2 * wd, c + 1, U', by go_num, rfl, by omega, by rw [Nat.add_mul, Nat.one_mul, ← HP.out.2.1], HE.out, hTw⟩
            · have HE : Hid (Chunks U cn (2 * wd) ∧ ∀ v, occ U v cn = occ g v cn) := by
                have E := pinv_end HP.out.2.2 (by rw [← HP.out.2.1]; omega)
                exact ⟨E.1, fun v => (E.2 v).trans (HC.out.2.2 v)⟩
              go_wp2
              go_roundg (cn - 2 * wd)
              case measure => have := HC.out.1; omega
              case rel => exact ⟨2 * wd, gb, gs, cb, cs, U, S, rfl, rfl, by omega, by go_num, rfl, HE.out.1, HE.out.2, hTw.swap⟩
        · have HE : Hid (Sorted f S n cn) := by
            have G := HKN.out
            exact ⟨G.hc, chunks_all HC.out.2.1 (by omega), (HC.out.2.2 0).trans G.z, fun v hv => (HC.out.2.2 v).trans (G.nz v hv)⟩
          go_wp2
          go_ret
          have hb := HB.out
          refine ⟨gs, cn, cs, S, rfl, hTw.s, hTw.cs, by omega, ?_, HE.out, ?_⟩
          · rw [← hb]; exact hTw.bs
          · rw [← hb]; exact hTw.bel

end Go.Proofs.Qxb6602393a
