/-
  SEAT b6601673a: strings.Builder: Grow at a fresh builder; String: after the shelf's own proofs, turned to this program's numbers.
-/
import Derived.Test.Qxb6601673aBuilder2
namespace Go.Proofs.Qxb6601673a
open Go.ChangeShapes Go.WideShapes Go.ChangeAt Go.RowKit
set_option linter.unusedVariables false
attribute [local go_sem ↓] Go.wp_at_zero Go.wp_at_succ

set_option maxHeartbeats 2000000 in
set_option maxRecDepth 1000000 in
theorem bGrow_fresh (B b n : Nat) (w : World) (hB : B ≤ b) (hbk : w.heap[b]? = some (.cells #[.pointer none, .slice none 0 0] 49 (0, 0))) (hBw : B ≤ w.heap.size) (hn : n ≤ 281474976710656) :
    Calls Try.prog 25 #[.pointer (some ⟨b, 0, none⟩), .int .i64 n] w fun e w' => e = .returned (.tuple #[]) ∧ (Lib.BuilderAt 49 5 B b (.pointer (some ⟨b, 0, none⟩)) [] w' ∧ Below B w w') := by
  have hf : Lib.IsBuilder 49 5 B b [] w := .inl ⟨hB, .slice none 0 0, hbk, World.ownsRow_nil _ _ _ _, by simp [Value.ownBlock]⟩
  have hbk1 : (w.setCell ⟨b, 0, none⟩ (.pointer (some ⟨b, 0, none⟩))).heap[b]? = some (.cells #[.pointer (some ⟨b, 0, none⟩), .slice none 0 0] 49 (0, 0)) := by
    simp [World.setCell, Array.getElem?_modify, hbk]
  have hb1 : Below B w (w.setCell ⟨b, 0, none⟩ (.pointer (some ⟨b, 0, none⟩))) := (Below.refl B w).setCell (p := ⟨b, 0, none⟩) hB _
  obtain ⟨w1, hw1⟩ : ∃ w1, w1 = w.setCell ⟨b, 0, none⟩ (.pointer (some ⟨b, 0, none⟩)) := ⟨_, rfl⟩
  have hcc := copyCheck_fresh b w (by rw [Lib.cell_of_heap hbk]; rfl) (by simp [World.shape?, hbk]) (Lib.frozen_of_heap hbk 0)
  rw [← hw1] at hbk1 hb1 hcc
  have hB1 : B ≤ w1.heap.size := Nat.le_trans hBw hb1.size
  have HCC : Hid (Calls Try.prog 30 #[.pointer (some ⟨b, 0, none⟩)] w fun e w' => e = .returned (.tuple #[]) ∧ w' = w1) := hcc
  have HBL : Hid (Below B w w1) := hb1
  have HBK : Hid (w1.heap[b]? = some (.cells #[.pointer (some ⟨b, 0, none⟩), .slice none 0 0] 49 (0, 0))) := hbk1
  have c1 : w1.cell? ⟨b, 1, none⟩ = some (.slice none 0 0) := by rw [Lib.cell_of_heap hbk1]; rfl
  clear hw1 hcc hf hbk hbk1 hb1
  go_enter Try.func25, Try.ntmps25
  go_wp2_with fail
  refine HCC.out.mono ?_
  rintro e w' ⟨rfl, rfl⟩
  go_wp2_with fail
  go_quiet (fail)
  have HU : Hid (Lib.BuilderAt 49 5 B b (.pointer (some ⟨b, 0, none⟩)) [] w') := ⟨hB, .slice none 0 0, HBK.out, World.ownsRow_nil _ _ _ _, by simp [Value.ownBlock]⟩
  by_cases hn0 : n = 0
  · subst hn0
    go_wp2_with fail
    go_end0
    exact ⟨rfl, HU.out, HBL.out.trans (below_drewN' _)⟩
  · have hpos : (0 : Int) < (n : Int) := by omega
    go_wp2_with fail
    refine (bgrow_fresh B b n (w'.drewN nq) hB (by exact HBK.out) (by exact hB1) hn).mono ?_
    rintro e w2 ⟨rfl, h1, h2⟩
    go_wp2_with fail
    go_end0
    exact ⟨rfl, h1, HBL.out.trans ((below_drewN' _).trans h2)⟩

theorem unsafeString_none (W : World) (q : Option Addr) : (Builtin.unsafeString_ #[57, 3] 9 #[.pointer q, .int .i64 0]).run Try.prog W = .ok (.string .empty) W :=
  Lib.run_unsafeString_none W _ _ _ q

set_option maxHeartbeats 1000000 in
set_option maxRecDepth 100000 in
theorem bString_some (B b : Nat) (l : List UInt8) (w : World) (h : Lib.IsBuilder 49 5 B b (Lib.byteCells l) w) (h0 : l ≠ []) :
    Calls Try.prog 28 #[.pointer (some ⟨b, 0, none⟩)] w fun e w' => e = .returned (.string ⟨l.toArray⟩) ∧ Below B w w' := by
  obtain ⟨p, hB, v, hbk, hown, hne⟩ : ∃ p, Lib.BuilderAt 49 5 B b p (Lib.byteCells l) w := by
    rcases h with h | h
    · exact ⟨_, h⟩
    · exact ⟨_, h⟩
  have hl0 : l.length ≠ 0 := by simpa using h0
  rw [Lib.byteCells_length] at hown
  obtain ⟨g, cap, cur, rfl, hbg, hg, hnc, hcm, hcs, htake⟩ : ∃ g cap cur, v = .slice (some ⟨g, 0, none⟩) l.length cap ∧ B ≤ g ∧ w.heap[g]? = some (.cells cur 5 (0, 0)) ∧ l.length ≤ cap ∧ cap ≤ maxLen ∧ cur.size = cap * 1 ∧ cur.toList.take (l.length * 1) = Lib.byteCells l := by
    rcases hown.2 with ⟨_, hz⟩ | ⟨g, cap, cur, hv, r⟩
    · exact absurd hz hl0
    · exact ⟨g, cap, cur, hv, r⟩
  have c1 : w.drew.cell? ⟨b, 1, none⟩ = some (.slice (some ⟨g, 0, none⟩) l.length cap) := by
    have : w.drew.heap[b]? = some (.cells #[p, .slice (some ⟨g, 0, none⟩) l.length cap] 49 (0, 0)) := hbk
    rw [Lib.cell_of_heap this]; rfl
  have hSD : (Builtin.unsafeSliceData_ #[33] 57 #[.slice (some ⟨g, 0, none⟩) l.length cap]).run Try.prog w.drew = .ok (.pointer (some ⟨g, 0, none⟩)) w.drew :=
    Lib.run_unsafeSliceData_row _ _ _ _ _ _ (by omega)
  have hUS : (Builtin.unsafeString_ #[57, 3] 9 #[.pointer (some ⟨g, 0, none⟩), .int .i64 l.length]).run Try.prog w.drew = .ok (.string ⟨l.toArray⟩) (w.drew.freeze ⟨g, 0, none⟩ l.length) := by
    refine Lib.run_unsafeString_row w.drew 57 3 9 5 Try.underlying57 cellsByte g cur.size (by have hg' : w.drew.heap[g]? = some (.cells cur 5 (0, 0)) := hg; simp [World.shape?, hg']) l h0 (by omega) (by unfold maxLen at hcm; omega) ?_
    intro j x hx
    have := hown.cells (g := g) rfl j (.int .u8 x.toNat) (by simp [Lib.byteCells, hx])
    exact this
  go_enter Try.func28, Try.ntmps28
  go_wp2
  go_region
  all_goals (go_wp2; go_ret; exact ⟨rfl, Lib.below_freeze (Below.drew (Below.refl B w)) (p := ⟨g, 0, none⟩) hbg _⟩)

set_option maxHeartbeats 2000000 in
set_option maxRecDepth 100000 in
theorem bString_nil (B b : Nat) (p : Value) (w : World) (hbk : w.heap[b]? = some (.cells #[p, .slice none 0 0] 49 (0, 0))) :
    Calls Try.prog 28 #[.pointer (some ⟨b, 0, none⟩)] w fun e w' => e = .returned (.string ⟨#[]⟩) ∧ Below B w w' := by
  have hUS := unsafeString_none
  have c1 : w.drew.cell? ⟨b, 1, none⟩ = some (.slice none 0 0) := by
    have : w.drew.heap[b]? = some (.cells #[p, .slice none 0 0] 49 (0, 0)) := hbk
    rw [Lib.cell_of_heap this]; rfl
  have hSD : (Builtin.unsafeSliceData_ #[33] 57 #[.slice none 0 0]).run Try.prog w.drew = .ok (.pointer none) w.drew := rfl
  go_enter Try.func28, Try.ntmps28
  go_wp2
  go_region
  all_goals (go_wp2; go_ret; exact ⟨rfl, Below.drew (Below.refl B w)⟩)

set_option maxHeartbeats 2000000 in
set_option maxRecDepth 100000 in
theorem bString_noroom (B b g : Nat) (p : Value) (cur : Array Value) (w : World) (hBw : B ≤ w.heap.size) (hbk : w.heap[b]? = some (.cells #[p, .slice (some ⟨g, 0, none⟩) 0 0] 49 (0, 0))) (hg : w.heap[g]? = some (.cells cur 5 (0, 0))) :
    Calls Try.prog 28 #[.pointer (some ⟨b, 0, none⟩)] w fun e w' => e = .returned (.string ⟨#[]⟩) ∧ Below B w w' := by
  have hUS := unsafeString_none
  have hlt : b < w.heap.size := (Array.getElem?_eq_some_iff.1 hbk).1
  have c1 : w.drew.cell? ⟨b, 1, none⟩ = some (.slice (some ⟨g, 0, none⟩) 0 0) := by
    have : w.drew.heap[b]? = some (.cells #[p, .slice (some ⟨g, 0, none⟩) 0 0] 49 (0, 0)) := hbk
    rw [Lib.cell_of_heap this]; rfl
  have hSD : (Builtin.unsafeSliceData_ #[33] 57 #[.slice (some ⟨g, 0, none⟩) 0 0]).run Try.prog w.drew = .ok (.pointer (some ⟨w.drew.heap.size, 0, none⟩)) (w.drew.alloc (.view ⟨g, 0, none⟩ 5)) :=
    Lib.run_unsafeSliceData_zero w.drew _ _ 5 Try.underlying57 ⟨g, 0, none⟩ 0 (5, cur.size) (by have hg' : w.drew.heap[g]? = some (.cells cur 5 (0, 0)) := hg; simp [World.shape?, hg'])
  have c2 : (w.drew.alloc (.view ⟨g, 0, none⟩ 5)).cell? ⟨b, 1, none⟩ = some (.slice (some ⟨g, 0, none⟩) 0 0) := by
    have : (w.drew.alloc (.view ⟨g, 0, none⟩ 5)).heap[b]? = _ := (Lib.alloc_old w.drew _ b hlt).trans hbk
    rw [Lib.cell_of_heap this]; rfl
  have c3 : (w.alloc (.view ⟨g, 0, none⟩ 5)).drew.cell? ⟨b, 1, none⟩ = some (.slice (some ⟨g, 0, none⟩) 0 0) := c2
  have c0 : w.cell? ⟨b, 1, none⟩ = some (.slice (some ⟨g, 0, none⟩) 0 0) := c1
  clear hlt
  go_enter Try.func28, Try.ntmps28
  go_wp2
  go_region
  all_goals (go_wp2; go_ret; exact ⟨rfl, (Below.drew (Below.refl B w)).alloc hBw _⟩)

set_option maxHeartbeats 2000000 in
set_option maxRecDepth 100000 in
theorem bString_room (B b g cap : Nat) (p : Value) (w : World) (hc0 : cap ≠ 0) (hbk : w.heap[b]? = some (.cells #[p, .slice (some ⟨g, 0, none⟩) 0 cap] 49 (0, 0))) :
    Calls Try.prog 28 #[.pointer (some ⟨b, 0, none⟩)] w fun e w' => e = .returned (.string ⟨#[]⟩) ∧ Below B w w' := by
  have hUS := unsafeString_none
  have c1 : w.drew.cell? ⟨b, 1, none⟩ = some (.slice (some ⟨g, 0, none⟩) 0 cap) := by
    have : w.drew.heap[b]? = some (.cells #[p, .slice (some ⟨g, 0, none⟩) 0 cap] 49 (0, 0)) := hbk
    rw [Lib.cell_of_heap this]; rfl
  have hSD : (Builtin.unsafeSliceData_ #[33] 57 #[.slice (some ⟨g, 0, none⟩) 0 cap]).run Try.prog w.drew = .ok (.pointer (some ⟨g, 0, none⟩)) w.drew :=
    Lib.run_unsafeSliceData_row _ _ _ _ _ _ hc0
  clear hc0
  go_enter Try.func28, Try.ntmps28
  go_wp2
  go_region
  all_goals (go_wp2; go_ret; exact ⟨rfl, Below.drew (Below.refl B w)⟩)

/-- (*strings.Builder).String, whatever the builder holds. -/
theorem bString (B b : Nat) (l : List UInt8) (w : World) (h : Lib.IsBuilder 49 5 B b (Lib.byteCells l) w) (hBw : B ≤ w.heap.size) :
    Calls Try.prog 28 #[.pointer (some ⟨b, 0, none⟩)] w fun e w' => e = .returned (.string ⟨l.toArray⟩) ∧ Below B w w' := by
  cases l with
  | nil =>
    obtain ⟨p, hB, v, hbk, hown, hne⟩ : ∃ p, Lib.BuilderAt 49 5 B b p [] w := by
      rcases h with h | h
      · exact ⟨_, h⟩
      · exact ⟨_, h⟩
    rcases hown.2 with ⟨rfl, _⟩ | ⟨g, cap, cur, rfl, hbg, hg, _, _, _, _⟩
    · exact bString_nil B b p w hbk
    · by_cases hc0 : cap = 0
      · subst hc0
        exact bString_noroom B b g p cur w hBw hbk hg
      · exact bString_room B b g cap p w hc0 hbk
  | cons x r => exact bString_some B b (x :: r) w h (by simp)
end Go.Proofs.Qxb6601673a
