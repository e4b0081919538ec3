/-
  SEAT b6601673a: openBlock, where the last part has room.
-/
import Derived.Test.Qxb6601673aConcat
import Derived.Deep.QuietTactic
import Derived.BigQuiet
namespace Go.Proofs.Qxb6601673a
open Go.ChangeShapes Go.WideShapes Go.ChangeAt Go.RowKit
set_option linter.unusedVariables false

set_option maxHeartbeats 1000000 in
theorem open_room (w : World) (bb gr m pc g len cap : Nat)
    (h0 : w.cell? ⟨bb, 0, none⟩ = some (.slice (some ⟨gr, 0, none⟩) (m + 1) pc)) (h1 : w.cell? ⟨gr, m * 2 + 1, none⟩ = some (.slice (some ⟨g, 0, none⟩) len cap)) (hlt : len < cap) (hcap : cap ≤ 1048576) (hm : m ≤ 1048576) :
    Calls Try.prog 29 #[.pointer (some ⟨bb, 0, none⟩)] w fun e w' => e = .returned (.pointer (some ⟨gr, m * 2 + 1, none⟩)) ∧ ∃ q, w' = w.drewN q := by
  go_enter Try.func29, Try.ntmps29
  go_wp2
  go_quiet (fail)
  go_wp2
  go_ret
  exact ⟨rfl, _, rfl⟩
end Go.Proofs.Qxb6601673a
