import Derived.Test.Qxb6602393aGrow
set_option linter.unusedVariables false
namespace Go.Proofs.Qxb6602393a
open Go.RowKit Plain

theorem RdA.below {w w' : World} {a : Option Addr} {m : Nat} {f : Nat → Int} (h : RdA w a m f) (hb : Below w.heap.size w w') : RdA w' a m f := by
  intro hm
  obtain ⟨b, off, ha, hr⟩ := h hm
  exact ⟨b, off, ha, hr.below hb (hr.lt hm)⟩

set_option maxHeartbeats 1000000 in
theorem zgrow_same (m c nn mo : Nat) (a : Option Addr) (w : World) (hm : 8 ≤ m) (hml : m ≤ 1048576) (hnn : nn ≤ 1048576) (hmo : mo ≤ 65536) (hs : 4 * (nn + mo) ≤ 3 * m) :
    Calls Try.prog 20 #[.slice a m c, .int .i64 (nn : Nat), .int .i64 (mo : Nat)] w fun en w' => en = .returned (.tuple #[.slice a m c, .int .i64 (nn : Nat)]) ∧ Below w.heap.size w w' := by
  obtain ⟨w1, hw1⟩ : ∃ w1, w1 = w.alloc (.cells #[.slice a m c, .int .i64 (nn : Int)] 39) := ⟨_, rfl⟩
  have hX : IsXa w1 w.heap.size a m c (nn : Int) := by rw [hw1]; exact heap_alloc_new w _
  have HC : Hid (Calls Try.prog 23 #[.pointer (some ⟨w.heap.size, 0, none⟩), .int .i64 (mo : Nat)] (w.alloc (.cells #[.slice a m c, .int .i64 (nn : Int)] 39)) fun en w' => en = .returned (.tuple #[]) ∧ w' = w1) := by
    rw [← hw1]; exact grow_same w.heap.size m c nn mo a w1 hm hml hX hnn hmo hs
  have HB : Hid (Below w.heap.size w w1) := by rw [hw1]; exact (Below.refl _ _).alloc (Nat.le_refl _) _
  have hx0 := hX.cell0
  have hx1 := hX.cell1
  clear hw1 hX
  go_enter Try.func20, Try.ntmps20
  go_wp2_with fail
  refine HC.out.mono ?_
  rintro en w2 ⟨rfl, hw2⟩
  subst hw2
  clear HC
  go_wp2
  go_quiet (fail)
  go_wp2
  go_ret2
  exact ⟨rfl, Below.drewN' HB.out _⟩

def ZGrowRes (M : Nat) (f : Nat → Int) (m : Nat) (w w' : World) : Prop := ∃ F, Own w' (w.heap.size + 1) M F ∧ GInv M f F m ∧ Below w.heap.size w w'

set_option maxHeartbeats 1000000 in
theorem zgrow_more (m c nn mo M : Nat) (a : Option Addr) (f : Nat → Int) (w : World) (hsz : m = 0 ∨ 8 ≤ m) (hrd : RdA w a m f) (hu : U64 m f) (hpM : Pw M) (hS : SizeOf (max m 8) (nn + mo) M) (hMm : M ≠ m) (hroom : cnt f m < M)
    (hnn : nn ≤ 1048576) (hmo : mo ≤ 65536) :
    Calls Try.prog 20 #[.slice a m c, .int .i64 (nn : Nat), .int .i64 (mo : Nat)] w fun en w' => en = .returned (.tuple #[.slice (some ⟨w.heap.size + 1, 0, none⟩) M M, .int .i64 (nn : Nat)]) ∧ ZGrowRes M f m w w' := by
  obtain ⟨w1, hw1⟩ : ∃ w1, w1 = w.alloc (.cells #[.slice a m c, .int .i64 (nn : Int)] 39) := ⟨_, rfl⟩
  have hX : IsXa w1 w.heap.size a m c (nn : Int) := by rw [hw1]; exact heap_alloc_new w _
  have hB : Below w.heap.size w w1 := by rw [hw1]; exact (Below.refl _ _).alloc (Nat.le_refl _) _
  have hsz1 : w1.heap.size = w.heap.size + 1 := by rw [hw1]; simp
  have HC : Hid (Calls Try.prog 23 #[.pointer (some ⟨w.heap.size, 0, none⟩), .int .i64 (mo : Nat)] (w.alloc (.cells #[.slice a m c, .int .i64 (nn : Int)] 39)) fun en w' => en = .returned (.tuple #[]) ∧ GrowRes w.heap.size M (nn : Int) f m w1 w') := by
    rw [← hw1]
    refine grow_more w.heap.size m c nn mo M a f w1 hsz hX (hrd.below hB) (fun hm b off ha => ?_) hu hpM hS hMm hroom hnn hmo
    obtain ⟨b', off', ha', hr⟩ := hrd hm
    have hlt := hr.lt hm
    rw [ha] at ha'
    injection ha' with h1
    injection h1 with h2
    omega
  have HB : Hid (Below w.heap.size w w1 ∧ w1.heap.size = w.heap.size + 1) := ⟨hB, hsz1⟩
  clear hw1 hX hB hsz1 hrd hS hsz
  go_enter Try.func20, Try.ntmps20
  go_wp2_with fail
  refine HC.out.mono ?_
  rintro en w2 ⟨rfl, F, hO, hX2, hG, hK⟩
  rw [HB.out.2] at hO hX2
  have hx0 := hX2.cell0
  have hx1 := hX2.cell1
  have HK : Hid (GInv M f F m ∧ Kept (fun i => i = w.heap.size) w1 w2) := ⟨hG, hK⟩
  clear HC hG hK hX2
  go_wp2
  go_quiet (fail)
  go_wp2
  go_ret2
  exact ⟨rfl, F, hO, HK.out.1, Below.drewN' (HB.out.1.trans (HK.out.2.below (by rw [HB.out.2]; omega) (fun k hk => by omega))) _⟩

end Go.Proofs.Qxb6602393a
