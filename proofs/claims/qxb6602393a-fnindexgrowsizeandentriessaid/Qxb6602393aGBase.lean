import Derived.Test.Qxb6602393aZGrow
import Derived.Test.Qxb6602393aGDomain
import Derived.Test.Qxb6602393aClone
import Derived.Test.Qxb6602393aOpen
set_option linter.unusedVariables false
namespace Go.Proofs.Qxb6602393a
open Go.RowKit Plain

/-- a slice that came in: nil, empty, or one that reads as f -/
def Inp (w : World) (a : Option Addr) (n c : Nat) (f : Nat → Int) : Prop :=
  (a = none ∧ n = 0 ∧ c = 0) ∨ ((∃ x, a = some x) ∧ n = 0) ∨ (∃ b off, a = some ⟨b, off, none⟩ ∧ 0 < n ∧ Rd w b off n f)
/-- a slice of the call's own: empty, or a whole block -/
def Slots (w : World) (a : Option Addr) (m c : Nat) (f : Nat → Int) : Prop := m = 0 ∨ ∃ g, a = some ⟨g, 0, none⟩ ∧ c = m ∧ Own w g m f

theorem Slots.rda {w : World} {a : Option Addr} {m c : Nat} {f : Nat → Int} (h : Slots w a m c f) : RdA w a m f := by
  intro hm
  rcases h with h | ⟨g, ha, _, ho⟩
  · omega
  · exact ⟨g, 0, ha, ho.rd⟩
theorem Slots.below {w w' : World} {a : Option Addr} {m c : Nat} {f : Nat → Int} (h : Slots w a m c f) (hb : Below w.heap.size w w') : Slots w' a m c f := by
  rcases h with h | ⟨g, ha, hc, ho⟩
  · exact .inl h
  · exact .inr ⟨g, ha, hc, ho.below' hb⟩

def ClRes (n : Nat) (f : Nat → Int) (w : World) (e : Ending) (w' : World) : Prop := ∃ a' c', e = .returned (.slice a' n c') ∧ Slots w' a' n c' f ∧ Below w.heap.size w w'

theorem clone_all (a : Option Addr) (n c : Nat) (f : Nat → Int) (w : World) (hn : n ≤ 1048576) (h : Inp w a n c f) : Calls Try.prog 9 #[.slice a n c] w fun e w' => ClRes n f w e w' := by
  rcases h with ⟨rfl, rfl, rfl⟩ | ⟨⟨x, rfl⟩, rfl⟩ | ⟨b, off, rfl, h0, hr⟩
  · exact (clone_nil w).mono fun e w' ⟨he, hw⟩ => ⟨none, 0, he, .inl rfl, by rw [hw]; exact Below.refl _ _⟩
  · exact (clone_empty x c f w).mono fun e w' ⟨he, ho, hb, _⟩ => ⟨_, _, he, .inl rfl, hb⟩
  · exact (clone_any b off n c f w h0 hn hr).mono fun e w' ⟨he, ho, hb, _⟩ => ⟨_, _, he, .inr ⟨_, rfl, rfl, ho⟩, hb⟩

/-- what a yes of zzGrowDomain says -/
def GD (n : Nat) (f : Nat → Int) (a1 : Int) : Prop := (n = 0 ∨ (Pw n ∧ 8 ≤ n ∧ V n f)) ∧ a1 = ((cnt f n : Nat) : Int)

theorem gdom_all (a : Option Addr) (n c : Nat) (f : Nat → Int) (a1 : Int) (w : World) (hn : n ≤ 65536) (hu : U64 n f) (h : Inp w a n c f) : Calls Try.prog 18 #[.slice a n c, .int .i64 a1] w fun e w' => DRes (GD n f a1) e ∧ w' = w := by
  rcases h with ⟨rfl, rfl, rfl⟩ | ⟨⟨x, rfl⟩, rfl⟩ | ⟨b, off, rfl, h0, hr⟩
  · exact (gdom_zero none 0 a1 w).mono fun e w' ⟨⟨r, he, hd⟩, hw⟩ => ⟨⟨r, he, fun hr => ⟨.inl rfl, hd hr⟩⟩, hw⟩
  · exact (gdom_zero (some x) c a1 w).mono fun e w' ⟨⟨r, he, hd⟩, hw⟩ => ⟨⟨r, he, fun hr => ⟨.inl rfl, hd hr⟩⟩, hw⟩
  · exact (gdom_any b off n c f a1 w h0 hn hu hr).mono fun e w' ⟨⟨r, he, hd⟩, hw⟩ => ⟨⟨r, he, fun hr => ⟨.inr ⟨(hd hr).1, (hd hr).2.1, (hd hr).2.2.1⟩, (hd hr).2.2.2⟩⟩, hw⟩

theorem pw_size {m need M : Nat} (hm : m = 0 ∨ (Pw m ∧ 8 ≤ m)) (hml : m ≤ 65536) (hneed : need ≤ 131072) (h : SizeOf (max m 8) need M) : Pw M := by
  have hb : M ≤ 1048576 := by
    rcases h.lt with h1 | h1
    · omega
    · omega
  obtain ⟨i, hM, _, _⟩ := h
  obtain ⟨a, ha⟩ : ∃ a, max m 8 = 2 ^ a := by
    rcases hm with h | ⟨⟨j, _, hj⟩, h8⟩
    · exact ⟨3, by rw [h]; rfl⟩
    · exact ⟨j, by rw [Nat.max_eq_left h8, hj]⟩
  rw [ha, ← Nat.pow_add] at hM
  refine ⟨a + i, ?_, hM⟩
  apply Classical.byContradiction
  intro hlt
  have : 2 ^ 21 ≤ 2 ^ (a + i) := Nat.pow_le_pow_right (by decide) (by omega)
  omega

/-- what ZZIndexGrow leaves -/
def ZOut (M m nn : Nat) (f : Nat → Int) (w : World) (e : Ending) (w' : World) : Prop := ∃ g F, e = .returned (.tuple #[.slice (some ⟨g, 0, none⟩) M M, .int .i64 (nn : Nat)]) ∧ Own w' g M F ∧ ((M = m ∧ ∀ i, i < m → F i = f i) ∨ (M ≠ m ∧ GInv M f F m)) ∧ Below w.heap.size w w'

theorem zgrow_any (a : Option Addr) (m c nn mo M : Nat) (f : Nat → Int) (w : World) (hS : Slots w a m c f) (hsz : m = 0 ∨ (Pw m ∧ 8 ≤ m)) (hml : m ≤ 65536) (hu : U64 m f) (hM : SizeOf (max m 8) (nn + mo) M) (hnn : nn = cnt f m) (hmo : mo ≤ 65536) :
    Calls Try.prog 20 #[.slice a m c, .int .i64 (nn : Nat), .int .i64 (mo : Nat)] w fun e w' => ZOut M m nn f w e w' := by
  have hcl := cnt_le f m
  have hpM := pw_size hsz hml (by omega) hM
  have hge := hM.ge
  obtain ⟨_, _, h4, _⟩ := id hM
  by_cases hMm : M = m
  · have h8 : 8 ≤ m := by omega
    rcases hS with h0 | ⟨g, rfl, rfl, ho⟩
    · omega
    · subst hMm
      exact (zgrow_same M M nn mo _ w h8 (by omega) (by omega) hmo h4).mono fun e w' ⟨he, hb⟩ => ⟨g, f, he, ho.below' hb, .inl ⟨rfl, fun i _ => rfl⟩, hb⟩
  · refine (zgrow_more m c nn mo M a f w (by rcases hsz with h | h; exact .inl h; exact .inr h.2) hS.rda hu hpM hM hMm (by omega) (by omega) hmo).mono fun e w' ⟨he, F, ho, hg, hb⟩ => ⟨_, F, he, ho, .inr ⟨hMm, hg⟩, hb⟩

end Go.Proofs.Qxb6602393a
