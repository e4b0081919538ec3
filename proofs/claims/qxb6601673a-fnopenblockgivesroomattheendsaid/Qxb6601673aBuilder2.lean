/-
  SEAT b6601673a: strings.Builder, more: Write(nil), grow at a fresh builder: after the shelf's own proofs, turned to this program's numbers.
-/
import Derived.Test.Qxb6601673aBuilder
import Derived.Laws.AppendOwnNone
namespace Go.Proofs.Qxb6601673a
open Go.ChangeShapes Go.WideShapes Go.ChangeAt Go.RowKit
set_option linter.unusedVariables false
attribute [local go_sem] Go.wp_at_zero Go.wp_at_succ

set_option maxHeartbeats 2000000 in
set_option maxRecDepth 100000 in
theorem bWriteNil (B b : Nat) (bs : List Value) (w : World) (h : Lib.IsBuilder 49 5 B b bs w) :
    Calls Try.prog 27 #[.pointer (some ⟨b, 0, none⟩), .slice none 0 0] w fun e w' => e = .returned (.tuple #[.int .i64 0, .nilIface]) ∧ (Lib.BuilderAt 49 5 B b (.pointer (some ⟨b, 0, none⟩)) bs w' ∧ Below B w w') := by
  obtain ⟨i0, hi, hz0, hz1, hz2⟩ := info_parts Try.info5
  go_enter Try.func27, Try.ntmps27
  go_wp2_with (go_at_call 30; refine (copyCheck_any B b bs _ h).mono ?_)
  rintro e w1 ⟨rfl, h1', hb1, _⟩
  have HB1 : Hid (Lib.BuilderAt 49 5 B b (.pointer (some ⟨b, 0, none⟩)) bs w1) := h1'
  obtain ⟨hB, v, hbk, hown, hne⟩ := h1'
  have c1 : w1.cell? ⟨b, 1, none⟩ = some v := by rw [Lib.cell_of_heap hbk]; rfl
  have f1 : w1.frozen? ⟨b, 1, none⟩ = false := Lib.frozen_of_heap hbk 1
  obtain ⟨ao, n', cap, rfl⟩ : ∃ ao n' cap, v = .slice ao n' cap := by
    rcases hown.2 with ⟨hv, _⟩ | ⟨g, cap, cur, hv, _⟩
    · exact ⟨_, _, _, hv⟩
    · exact ⟨_, _, _, hv⟩
  go_wp2_with (at_builtin; refine wpList_append_own_none rfl _ _ 33 rfl B 5 i0 1 Try.underlying33 hi _ _ _ rfl hown rfl ?_)
  go_ret2
  refine ⟨rfl, ?_, hb1.setCell (p := ⟨b, 1, none⟩) hB _⟩
  exact Lib.BuilderAt.put (T := 49) (e := 5) hB hbk (bs' := bs) hown (by decide)

set_option maxHeartbeats 2000000 in
set_option maxRecDepth 1000000 in
theorem bgrow_fresh (B b n : Nat) (w : World) (hB : B ≤ b) (hbk : w.heap[b]? = some (.cells #[.pointer (some ⟨b, 0, none⟩), .slice none 0 0] 49 (0, 0))) (hBw : B ≤ w.heap.size) (hn : n ≤ 281474976710656) :
    Calls Try.prog 31 #[.pointer (some ⟨b, 0, none⟩), .int .i64 n] w fun e w' => e = .returned (.tuple #[]) ∧ (Lib.BuilderAt 49 5 B b (.pointer (some ⟨b, 0, none⟩)) [] w' ∧ Below B w w') := by
  obtain ⟨cs, hrun, hle, hmax⟩ := Lib.run_makeNoZero (P := Try.prog) w.drew #[3] 33 5 Try.underlying33 n hn
  have hw : IntKind.i64.wrap (IntKind.i64.wrap 0 + (n : Int)) = n := by
    rw [IntKind.wrap_i64, IntKind.wrap_i64]
    omega
  have hcall : (callFunc 33 #[.int .i64 (IntKind.i64.wrap (IntKind.i64.wrap 0 + (n : Int)))]).run Try.prog w.drew = .ok (.value (.slice (some ⟨w.drew.heap.size, 0, none⟩) n cs.size)) (w.drew.drew.drew.alloc (.cells cs 5)) := by
    rw [hw, run_callFunc_extern Try.func33 (by kernel_rfl) (by kernel_rfl) (by kernel_rfl) (e := Extern.BytealgMakeNoZero.makeNoZero #[3] #[33]) (by kernel_rfl), hrun]
    rfl
  have hlt : b < w.heap.size := (Array.getElem?_eq_some_iff.1 hbk).1
  have c1 : w.drew.cell? ⟨b, 1, none⟩ = some (.slice none 0 0) := by
    have : w.drew.heap[b]? = _ := hbk
    rw [Lib.cell_of_heap this]; rfl
  have c2 : (w.alloc (.cells cs 5)).cell? ⟨b, 1, none⟩ = some (.slice none 0 0) := by
    have : (w.alloc (.cells cs 5)).heap[b]? = _ := (Lib.alloc_old w _ b hlt).trans hbk
    rw [Lib.cell_of_heap this]; rfl
  have f2 : (w.alloc (.cells cs 5)).frozen? ⟨b, 1, none⟩ = false := Lib.frozen_of_heap ((Lib.alloc_old w _ b hlt).trans hbk) 1
  have hcopy : ∀ W : World, (Builtin.copy_ #[33, 33] 3 #[.slice (some ⟨w.heap.size, 0, none⟩) 0 cs.size, .slice none 0 0]).run Try.prog W = .ok (goInt 0) W :=
    fun W => run_copy_none W 33 33 3 5 _ _ 0 cs.size 0 0 Try.underlying33 sizeByte rfl
  clear hw
  have hfin := Lib.grown_fresh (T := 49) (e := 5) (cs := cs) hB hbk hBw (hmax (by unfold maxLen; omega)) (by decide)
  have HF : Hid (Lib.BuilderAt 49 5 B b (.pointer (some ⟨b, 0, none⟩)) [] ((w.alloc (.cells cs 5)).setCell ⟨b, 1, none⟩ (.slice (some ⟨w.heap.size, 0, none⟩) 0 cs.size)).drew.drew.drew ∧
      Below B w ((w.alloc (.cells cs 5)).setCell ⟨b, 1, none⟩ (.slice (some ⟨w.heap.size, 0, none⟩) 0 cs.size)).drew.drew.drew) := hfin
  clear hfin hlt hle hmax hrun
  go_enter Try.func31, Try.ntmps31
  go_upto_region 0 with fail
  go_cut [4] (fun s4 wx => s4 = .slice (some ⟨w.heap.size, 0, none⟩) 0 cs.size ∧ wx = (w.alloc (.cells cs 5)).drew.drew.drew)
  case first =>
    go_region
    all_goals (go_wp2_with fail; go_meet; exact ⟨rfl, rfl⟩)
  case rest =>
  obtain ⟨rfl, rfl⟩ := hcut
  clear hcall
  go_wp2
  go_end0
  exact ⟨rfl, HF.out⟩
end Go.Proofs.Qxb6601673a
