/-
  SEAT b6601673a: strings.Builder: Grow at a fresh builder: after the shelf's own proofs, turned to this program's numbers.
-/
import Derived.Test.Qxb6601673aBuilder2
namespace Go.Proofs.Qxb6601673a
open Go.ChangeShapes Go.WideShapes Go.ChangeAt Go.RowKit
set_option linter.unusedVariables false
attribute [local go_sem] Go.wp_at_zero Go.wp_at_succ

set_option maxHeartbeats 2000000 in
set_option maxRecDepth 1000000 in
theorem bGrow_fresh (B b n : Nat) (w : World) (hB : B ≤ b) (hbk : w.heap[b]? = some (.cells #[.pointer none, .slice none 0 0] 49 (0, 0))) (hBw : B ≤ w.heap.size) (hn : n ≤ 281474976710656) :
    Calls Try.prog 25 #[.pointer (some ⟨b, 0, none⟩), .int .i64 n] w fun e w' => e = .returned (.tuple #[]) ∧ (Lib.BuilderAt 49 5 B b (.pointer (some ⟨b, 0, none⟩)) [] w' ∧ Below B w w') := by
  have hf : Lib.IsBuilder 49 5 B b [] w := .inl ⟨hB, .slice none 0 0, hbk, World.ownsRow_nil _ _ _ _, by simp [Value.ownBlock]⟩
  have hbk1 : (w.setCell ⟨b, 0, none⟩ (.pointer (some ⟨b, 0, none⟩))).heap[b]? = some (.cells #[.pointer (some ⟨b, 0, none⟩), .slice none 0 0] 49 (0, 0)) := by
    simp [World.setCell, Array.getElem?_modify, hbk]
  have hb1 : Below B w (w.setCell ⟨b, 0, none⟩ (.pointer (some ⟨b, 0, none⟩))) := (Below.refl B w).setCell (p := ⟨b, 0, none⟩) hB _
  obtain ⟨w1, hw1⟩ : ∃ w1, w1 = w.setCell ⟨b, 0, none⟩ (.pointer (some ⟨b, 0, none⟩)) := ⟨_, rfl⟩
  have hcc := copyCheck_fresh b w (by rw [Lib.cell_of_heap hbk]; rfl) (by simp [World.shape?, hbk]) (Lib.frozen_of_heap hbk 0)
  rw [← hw1] at hbk1 hb1 hcc
  have hB1 : B ≤ w1.heap.size := Nat.le_trans hBw hb1.size
  have HCC : Hid (Calls Try.prog 30 #[.pointer (some ⟨b, 0, none⟩)] w fun e w' => e = .returned (.tuple #[]) ∧ w' = w1) := hcc
  have HBL : Hid (Below B w w1) := hb1
  have HBK : Hid (w1.heap[b]? = some (.cells #[.pointer (some ⟨b, 0, none⟩), .slice none 0 0] 49 (0, 0))) := hbk1
  have c1 : w1.cell? ⟨b, 1, none⟩ = some (.slice none 0 0) := by rw [Lib.cell_of_heap hbk1]; rfl
  clear hw1 hcc hf hbk hbk1 hb1
  go_enter Try.func25, Try.ntmps25
  go_wp2_with fail
  refine HCC.out.mono ?_
  rintro e w' ⟨rfl, rfl⟩
  go_wp2_with fail
  go_quiet (fail)
  have HU : Hid (Lib.BuilderAt 49 5 B b (.pointer (some ⟨b, 0, none⟩)) [] w') := ⟨hB, .slice none 0 0, HBK.out, World.ownsRow_nil _ _ _ _, by simp [Value.ownBlock]⟩
  by_cases hn0 : n = 0
  · subst hn0
    go_wp2_with fail
    go_end0
    exact ⟨rfl, HU.out, HBL.out.trans (below_drewN' _)⟩
  · have hpos : (0 : Int) < (n : Int) := by omega
    go_wp2_with fail
    refine (bgrow_fresh B b n (w'.drewN nq) hB (by exact HBK.out) (by exact hB1) hn).mono ?_
    rintro e w2 ⟨rfl, h1, h2⟩
    go_wp2_with fail
    go_end0
    exact ⟨rfl, h1, HBL.out.trans ((below_drewN' _).trans h2)⟩
end Go.Proofs.Qxb6601673a
