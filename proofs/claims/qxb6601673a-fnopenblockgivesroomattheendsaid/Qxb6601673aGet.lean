/-
  SEAT b6601673a: the getters ZZLen, ZZParts, ZZBlock, ZZKept; a buffer in a later world.
-/
import Derived.Test.Qxb6601673aBuild
namespace Go.Proofs.Qxb6601673a
open Go.ChangeShapes Go.WideShapes Go.ChangeAt Go.RowKit
set_option linter.unusedVariables false

/-- What ZZBlock answers. -/
def bval : LPart → Value
  | .inl _ => .slice none 0 0
  | .inr (g, bs, cap) => .slice (some ⟨g, 0, none⟩) bs.length cap
/-- What ZZKept answers. -/
def kstr : LPart → ByteArray
  | .inl s => s
  | .inr _ => ByteArray.empty

theorem Kept5.below {B : Nat} {w w' : World} (h : Below B w w') (hB : w.heap.size ≤ B) : Kept5 w w' := fun k cur hk => by
  have hlt := (Array.getElem?_eq_some_iff.1 hk).1
  rw [h.block k (by omega)]; exact hk

theorem BufAt.below {base bb N : Nat} {pv : Value} {ps : List LPart} {w w' : World} (h : BufAt base bb pv ps N w) (hb : Below w.heap.size w w') : BufAt base bb pv ps N w' := by
  have l0 := h.lt
  obtain ⟨h1, h2, h3, h4, h5⟩ := h
  refine ⟨h1, (hb.block bb l0).trans h2, ?_, fun p hp => (h4 p hp).kept (Kept5.below hb (Nat.le_refl _)), h5⟩
  refine ⟨h3.1, ?_⟩
  rcases h3.2 with hn | ⟨g, cap, cur, hv, hbg, hg, rest⟩
  · exact .inl hn
  · exact .inr ⟨g, cap, cur, hv, hbg, (hb.block g (Array.getElem?_eq_some_iff.1 hg).1).trans hg, rest⟩

/-- What the getters read. -/
theorem part_cells {base bb N : Nat} {pv : Value} {ps : List LPart} {w : World} (h : BufAt base bb pv ps N w) (i : Nat) (hi : i < ps.length) :
    ∃ gr pc, w.cell? ⟨bb, 0, none⟩ = some (.slice (some ⟨gr, 0, none⟩) ps.length pc) ∧ w.cell? ⟨gr, i * 2, none⟩ = some (.string (kstr ps[i])) ∧ w.cell? ⟨gr, i * 2 + 1, none⟩ = some (bval ps[i]) := by
  obtain ⟨gr, pc, hv, hbg, hlt⟩ := h.2.2.1.form (by omega)
  subst hv
  have hrow := h.2.2.1
  refine ⟨gr, pc, cell_of_row w bb 0 _ _ _ h.2.1, ?_, ?_⟩
  · have e := rowOf_at ps i hi 0 (by omega)
    rw [Nat.add_zero] at e
    rw [hrow.cellAt _ (by omega), e]
    generalize ps[i] = p
    cases p <;> rfl
  · rw [hrow.cellAt _ (by omega), rowOf_at ps i hi 1 (by omega)]
    generalize ps[i] = p
    cases p <;> rfl

theorem len_any (w : World) (base bb N : Nat) (pv : Value) (ps : List LPart) (h : BufAt base bb pv ps N w) :
    Calls Try.prog 13 #[.pointer (some ⟨bb, 0, none⟩)] w fun e w' => e = .returned (.int .i64 N) ∧ w' = w := by
  have c1 : w.cell? ⟨bb, 1, none⟩ = some (.int .i64 N) := cell_of_row w bb 1 _ _ _ h.2.1
  clear h
  go_enter Try.func13, Try.ntmps13
  go_wp2
  go_ret
  exact ⟨rfl, rfl⟩

theorem parts_any (w : World) (base bb N : Nat) (pv : Value) (ps : List LPart) (h : BufAt base bb pv ps N w) :
    Calls Try.prog 16 #[.pointer (some ⟨bb, 0, none⟩)] w fun e w' => e = .returned (.int .i64 ps.length) ∧ w' = w := by
  obtain ⟨ao, c, rfl⟩ := pv_form h
  have c1 : w.cell? ⟨bb, 0, none⟩ = some (.slice ao ps.length c) := cell_of_row w bb 0 _ _ _ h.2.1
  clear h
  go_enter Try.func16, Try.ntmps16
  go_wp2
  go_ret
  exact ⟨rfl, rfl⟩

theorem block_any (w : World) (base bb N : Nat) (pv : Value) (ps : List LPart) (h : BufAt base bb pv ps N w) (i : Nat) (hi : i < ps.length) :
    Calls Try.prog 18 #[.pointer (some ⟨bb, 0, none⟩), .int .i64 i] w fun e w' => e = .returned (bval ps[i]) ∧ w' = w := by
  obtain ⟨gr, pc, c0, c1, c2⟩ := part_cells h i hi
  have hi0 : (0 : Int) ≤ (i : Int) := Int.natCast_nonneg _
  have hi1 : (i : Int) < (ps.length : Int) := by omega
  obtain ⟨bv, hbv⟩ : ∃ bv, bv = bval ps[i] := ⟨_, rfl⟩
  rw [← hbv] at c2 ⊢
  obtain ⟨a', l', c', rfl⟩ : ∃ a' l' c', bv = .slice a' l' c' := by
    rw [hbv]
    generalize ps[i] = p
    cases p with
    | inl s => exact ⟨_, _, _, rfl⟩
    | inr x => obtain ⟨g, bs, cap⟩ := x; exact ⟨_, _, _, rfl⟩
  clear h hbv
  go_enter Try.func18, Try.ntmps18
  go_wp2
  go_ret
  exact ⟨rfl, rfl⟩

theorem kept_any (w : World) (base bb N : Nat) (pv : Value) (ps : List LPart) (h : BufAt base bb pv ps N w) (i : Nat) (hi : i < ps.length) :
    Calls Try.prog 19 #[.pointer (some ⟨bb, 0, none⟩), .int .i64 i] w fun e w' => e = .returned (.string (kstr ps[i])) ∧ w' = w := by
  obtain ⟨gr, pc, c0, c1, c2⟩ := part_cells h i hi
  have hi0 : (0 : Int) ≤ (i : Int) := Int.natCast_nonneg _
  have hi1 : (i : Int) < (ps.length : Int) := by omega
  obtain ⟨bv, hbv⟩ : ∃ bv, bv = kstr ps[i] := ⟨_, rfl⟩
  rw [← hbv] at c1 ⊢
  clear h hbv
  go_enter Try.func19, Try.ntmps19
  go_wp2
  go_ret
  exact ⟨rfl, rfl⟩
end Go.Proofs.Qxb6601673a
