/-
  SEAT b6601673a: what the rows' steps share.
-/
import Derived.Test.Qxb6601673aBase
import Derived.OpenShut
import Derived.ShutString
import Derived.ChangeOld
namespace Go.Proofs.Qxb6601673a
open Go.ChangeShapes Go.WideShapes Go.ChangeAt Go.RowKit
open Go.ChangeMaps (open_string shut_string)
set_option linter.unusedVariables false

theorem ownKnobNone : ownKnob Try.prog.godebug = none := by kernel_rfl
theorem isLaidOut : laidOutB Try.prog = true := by kernel_rfl

/-- A []string that came in, as the walk wants it. -/
theorem strs_open {H : Type} {enc : TypeId × Value → H} {W : World} {a : Option Addr} {len cap : Nat} {d : DataW H} {ps : List MemPlace}
    (h : DataW.Trod enc Try.prog W 0 (fun _ => true) true 22 (.slice a len cap) d ps) : ∃ ss, IsStrs W a len ss := by
  obtain ⟨fuel, hf⟩ := h
  rcases open_strings Try.underlying22 Try.underlying9 (by kernel_rfl) hf with ⟨hcs, _⟩ | ⟨x, l, c, ss, hcs, _, hl, hm, hz, _, hcell, hws⟩
  · simp [Value.cells] at hcs
    obtain ⟨rfl, rfl, rfl⟩ := hcs
    exact ⟨[], rfl, Nat.zero_le _, by simp, fun h => absurd h (by omega)⟩
  · simp [Value.cells] at hcs
    obtain ⟨rfl, rfl, rfl⟩ := hcs
    simp only [if_true] at hz
    refine ⟨ss.take len, ?_, by omega, fun s hs => hws s (List.mem_of_mem_take hs), fun h0 => ?_⟩
    · rw [List.length_take]; omega
    · obtain ⟨b, off, spot⟩ := x
      have hspot : spot = none := by simpa [Addr.add] using World.cell?_spot (hcell 0 (by omega))
      subst hspot
      refine ⟨b, off, rfl, ?_, fun i hi => ?_⟩
      · have := World.block_lt_of_cell? W _ (hcell 0 (by omega))
        rw [add_plain] at this
        exact this
      · rw [List.length_take] at hi
        have hil : i < ss.length := by omega
        rw [← add_plain, hcell i hil, List.getElem_take, List.getD, List.getElem?_eq_getElem hil]
        rfl
end Go.Proofs.Qxb6601673a
