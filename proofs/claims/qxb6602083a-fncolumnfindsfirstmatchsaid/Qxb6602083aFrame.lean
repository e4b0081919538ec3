/-
  SEAT b6602083a: what the rows' steps share.
-/
import Derived.Test.Qxb6602083aBase
import Derived.OpenShut
namespace Go.Proofs.Qxb6602083a
open Go.ChangeShapes Go.WideShapes Go.ChangeAt Go.RowKit
set_option linter.unusedVariables false

/-- A []byte that came in, as the walks want it. -/
theorem isB_open {w : World} {a : Option Addr} {len cap : Nat} {zs : List Int}
    (h : (a = none ∧ len = 0 ∧ cap = 0 ∧ zs = []) ∨
      ∃ x, a = some x ∧ len ≤ cap ∧ cap ≤ maxLen ∧ zs.length = cap ∧ (∀ i, i < zs.length → w.cell? (x.add i) = some (.int .u8 (zs.getD i 0))) ∧ ∀ n ∈ zs, (Lit.int .u8 n).wf = true) : IsB w a len (zs.take len) := by
  rcases h with ⟨rfl, rfl, rfl, rfl⟩ | ⟨x, rfl, hl, hm, hz, hcell, hwz⟩
  · exact ⟨rfl, Nat.zero_le _, by simp, fun h => absurd h (by omega)⟩
  · refine ⟨by rw [List.length_take]; omega, by omega, fun z hz => bounds_u8 (hwz z (List.mem_of_mem_take hz)), fun h0 => ?_⟩
    obtain ⟨b, off, spot⟩ := x
    have hspot : spot = none := by simpa [Addr.add] using World.cell?_spot (hcell 0 (by omega))
    subst hspot
    refine ⟨b, off, rfl, ?_, fun i hi => ?_⟩
    · have := World.block_lt_of_cell? w _ (hcell 0 (by omega))
      rw [add_plain] at this
      exact this
    · rw [List.length_take] at hi
      have hil : i < zs.length := by omega
      rw [← add_plain, hcell i hil, List.getElem_take, List.getD, List.getElem?_eq_getElem hil]
      rfl
end Go.Proofs.Qxb6602083a
