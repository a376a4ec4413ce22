import Derived.Test.Qxb6602393aBase
import Derived.OpenShut
set_option linter.unusedVariables false
namespace Go.Proofs.Qxb6602393a
open Go.RowKit Plain

/-- a slice that came in, not empty: where it lies, and what it reads as -/
theorem open_row {w : World} {x : Addr} {len cap : Nat} {zs : List Int} (h0 : 0 < len) (hl : len ≤ cap) (hz : zs.length = cap) (hc : ∀ i, i < zs.length → w.cell? (x.add i) = some (.int .u64 (zs.getD i 0)))
    (hw : ∀ n ∈ zs, (Lit.int .u64 n).wf = true) : ∃ b off f, x = ⟨b, off, none⟩ ∧ U64 len f ∧ Rd w b off len f := by
  obtain ⟨b, off, spot⟩ := x
  have hspot : spot = none := by simpa [Addr.add] using World.cell?_spot (hc 0 (by omega))
  subst hspot
  refine ⟨b, off, fun i => zs.getD i 0, rfl, fun i hi => ?_, fun i hi => ?_⟩
  · have hi' : i < zs.length := by omega
    have e : zs.getD i 0 = zs[i] := by simp [hi']
    show 0 ≤ zs.getD i 0 ∧ zs.getD i 0 ≤ 18446744073709551615
    rw [e]
    exact bounds_u64 (hw _ (List.getElem_mem hi'))
  · have := hc i (by omega)
    rwa [show (⟨b, off, none⟩ : Addr).add i = ⟨b, off + i, none⟩ from by unfold Addr.add; split <;> simp_all] at this

end Go.Proofs.Qxb6602393a
