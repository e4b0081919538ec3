/-
  SEAT b6601673a: zzClone_textbuf_b1: a fresh copy of a list of strings.
-/
import Derived.Test.Qxb6601673aBase
import Derived.WalkSpells
import Derived.WalkLawsBesides
namespace Go.Proofs.Qxb6601673a
open Go.ChangeShapes Go.WideShapes Go.ChangeAt Go.RowKit
set_option linter.unusedVariables false

theorem Try.info9 : (Try.prog.info? 9).map (fun i => (i.zero, i.size, i.bytes)) = some (some (.string ByteArray.empty), 1, 16) := by kernel_rfl

/-- The cells of the clone behind k rounds. -/
def cl (ss : List ByteArray) (k : Nat) : List Value := (ss.take k).map Value.string ++ List.replicate (ss.length - k) (.string ByteArray.empty)

theorem cl_set (ss : List ByteArray) (k : Nat) (h : k < ss.length) : (cl ss k).set k (.string ss[k]) = cl ss (k + 1) := by
  unfold cl
  rw [List.take_succ_eq_append_getElem h]
  obtain ⟨m, hm⟩ : ∃ m, ss.length - k = m + 1 := ⟨ss.length - k - 1, by omega⟩
  have hl : ((ss.take k).map Value.string).length = k := by simp; omega
  rw [List.set_append, if_neg (by omega), hl, hm, List.replicate_succ]
  have e : ss.length - (k + 1) = m := by omega
  simp [e]
  rw [List.take_succ_eq_append_getElem (by simpa using h)]
  simp

theorem step_clone {w wr : World} {B g n : Nat} {ss : List ByteArray} {k : Nat} (hk : k < ss.length) (hn : ss.length = n) (hB : B ≤ g)
    (hown : wr.ownsRow B 9 1 (.slice (some ⟨g, 0, none⟩) n n) n (cl ss k)) (hb : Below B w wr) :
    (wr.setCell ⟨g, k, none⟩ (.string ss[k])).ownsRow B 9 1 (.slice (some ⟨g, 0, none⟩) n n) n (cl ss (k + 1)) ∧ Below B w (wr.setCell ⟨g, k, none⟩ (.string ss[k])) := by
  refine ⟨?_, hb.setCell (p := ⟨g, k, none⟩) hB _⟩
  rw [← cl_set ss k hk]
  exact (hown.stored k _).1

set_option maxHeartbeats 1000000 in
theorem clone_some (a : Addr) (n c : Nat) (ss : List ByteArray) (w : World) (h : IsStrs w (some a) n ss) (hn : n ≤ 65536) :
    Calls Try.prog 10 #[.slice (some a) n c] w fun e w' => (∃ a', e = .returned (.slice a' n n) ∧ IsStrs w' a' n ss) ∧ Below w.heap.size w w' := by
  obtain ⟨hl, hm, hsz, hv⟩ := h
  obtain ⟨i0, hi, hz0, hz1, hz2⟩ := info_parts Try.info9
  have hnil := fun w a l c => Lib.run_eql_slice_nil (P := Try.prog) w 22 9 a l c 0 0 Try.underlying22
  go_enter Try.func10, Try.ntmps10
  go_wp2_with (at_make; refine wpList_make_full _ rfl _ _ 22 rfl w.heap.size 9 i0 (.string ByteArray.empty) 1 Try.underlying22 hi hz0 hz1 _ _ _ _ n rfl rfl rfl rfl (by rw [hz2]; omega) (by unfold maxLen; omega) (Nat.le_refl _) ?_; intro w1 hown hgrow)
  have hown0 : w1.ownsRow w.heap.size 9 1 (.slice (some ⟨w.heap.size, 0, none⟩) n n) n (cl ss 0) := by
    have e : (madeCells (Value.string ByteArray.empty).cells (n * 1)).toList = cl ss 0 := by
      show (madeCells #[Value.string ByteArray.empty] (n * 1)).toList = _
      rw [toList_madeCells_one]; simp [cl, hl]
    rw [← e]; exact hown
  have hb0 : Below w.heap.size w w1 := (Below.refl _ _).grown hgrow (Nat.le_refl _) (by simp)
  clear hown hgrow
  go_loopw [4] (fun i wr => ∃ k : Nat, k ≤ n ∧ i = .int .i64 k ∧ wr.ownsRow w.heap.size 9 1 (.slice (some ⟨w.heap.size, 0, none⟩) n n) n (cl ss k) ∧ Below w.heap.size w wr) (fun i _ => n - (intOf i).toNat)
  case atStart => exact ⟨0, Nat.zero_le _, rfl, hown0, hb0⟩
  case round =>
    obtain ⟨k, hk, rfl, hown, hb⟩ := hrel
    clear hown0 hb0
    by_cases hlt : k < n
    · obtain ⟨b, off, ha, hbl, hc⟩ := hv (by omega)
      simp only [Option.some.injEq] at ha
      subst ha
      have hkl : k < ss.length := by omega
      have hcell : wr.cell? ⟨b, off + k, none⟩ = some (.string ss[k]) := (hb.cell (p := ⟨b, off + k, none⟩) hbl).trans (hc k hkl)
      have hst := step_clone hkl hl (Nat.le_refl _) hown hb
      have hc2 : wr.cell? ⟨w.heap.size, k, none⟩ = some ((cl ss k)[k]'(by have := hown.1; omega)) := by rw [hown.cellAt k (by omega)]; exact List.getElem?_eq_getElem _
      have hf2 : wr.frozen? ⟨w.heap.size, k, none⟩ = false := hown.frozenAt k
      obtain ⟨u, hu⟩ : ∃ u, u = (cl ss k)[k]'(by have := hown.1; omega) := ⟨_, rfl⟩
      rw [← hu] at hc2
      clear hu
      obtain ⟨s, hs⟩ : ∃ s, s = ss[k] := ⟨_, rfl⟩
      rw [← hs] at hcell hst
      clear hs hown hc hv
      go_wp2
      go_roundw
      case rel => exact ⟨k + 1, by omega, by go_num, hst.1, hst.2⟩
      case measure => simp [intOf]; omega
    · have hkn : k = n := by omega
      subst hkn
      go_wp2
      go_ret
      refine ⟨⟨_, rfl, hl, hm, hsz, fun hp => ⟨w.heap.size, 0, rfl, (hown.lt _ rfl).2, fun i hi => ?_⟩⟩, hb⟩
      rw [Nat.zero_add, hown.cellAt i (by omega)]
      unfold cl
      rw [List.take_of_length_le (by omega), List.getElem?_append_left (by simpa using hi), List.getElem?_map, List.getElem?_eq_getElem hi]
      rfl

theorem clone_nil (n c : Nat) (ss : List ByteArray) (w : World) (h : IsStrs w none n ss) :
    Calls Try.prog 10 #[.slice none n c] w fun e w' => (∃ a', e = .returned (.slice a' n 0) ∧ IsStrs w' a' n ss) ∧ Below w.heap.size w w' := by
  have h0 : n = 0 := by
    rcases Nat.eq_zero_or_pos n with h0 | h0
    · exact h0
    · obtain ⟨b, off, hx, _⟩ := h.2.2.2 h0
      cases hx
  subst h0
  have hnil := fun w a l c => Lib.run_eql_slice_nil (P := Try.prog) w 22 9 a l c 0 0 Try.underlying22
  go_enter Try.func10, Try.ntmps10
  go_wp2
  go_ret
  exact ⟨⟨_, rfl, h⟩, Below.refl _ _⟩

theorem clone_any (a : Option Addr) (n c : Nat) (ss : List ByteArray) (w : World) (h : IsStrs w a n ss) (hn : n ≤ 65536) :
    Calls Try.prog 10 #[.slice a n c] w fun e w' => (∃ a' c', e = .returned (.slice a' n c') ∧ IsStrs w' a' n ss) ∧ Below w.heap.size w w' := by
  cases a with
  | none => exact (clone_nil n c ss w h).mono fun e w' ⟨⟨a', he, h'⟩, hb⟩ => ⟨⟨a', 0, he, h'⟩, hb⟩
  | some a => exact (clone_some a n c ss w h hn).mono fun e w' ⟨⟨a', he, h'⟩, hb⟩ => ⟨⟨a', n, he, h'⟩, hb⟩
end Go.Proofs.Qxb6601673a
