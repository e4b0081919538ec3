/-
  SEAT b6601673a: strings.Builder's methods over this program: after the shelf's own proofs (Derived/Shelf/Strings/Builder1, Builder2, Spec/BuilderWrite), turned to this program's numbers.
-/
import Derived.Test.Qxb6601673aGet
import Derived.Test.Qxb6601673aShelf
import Derived.Lib.Builder
import Derived.Lib.MakeNoZero
import Derived.Lib.Strings
import Derived.Laws.Externs
import Derived.Laws.IdiomCopy
namespace Go.Proofs.Qxb6601673a
open Go.ChangeShapes Go.WideShapes Go.ChangeAt Go.RowKit
set_option linter.unusedVariables false

theorem sizeBuilder : (Try.prog.info? 49).map (·.size) = some 2 := by kernel_rfl
theorem liesBuilder : liesAt Try.prog Try.prog.depth 49 (2 / Try.prog.cellsOf 49) 0 49 1 = true := by kernel_rfl
theorem cellsByte : Try.prog.cellsOf 5 = 1 := by kernel_rfl
theorem sizeByte : (Try.prog.info? 5).map (·.size) = some 1 := by kernel_rfl

/-- Every block but b whose elements are no bytes is as it was. -/
def Others (b : Nat) (w w' : World) : Prop := ∀ (k : Nat) (cur : Array Value) (T : TypeId), T ≠ 5 → k ≠ b → w.heap[k]? = some (.cells cur T (0, 0)) → w'.heap[k]? = some (.cells cur T (0, 0))
theorem Others.refl (b : Nat) (w : World) : Others b w w := fun _ _ _ _ _ h => h
theorem Others.trans {b : Nat} {w w1 w2 : World} (h : Others b w w1) (k : Others b w1 w2) : Others b w w2 := fun i cur T hT hb hi => k i cur T hT hb (h i cur T hT hb hi)
theorem Others.setCell (b j : Nat) (w : World) (v : Value) : Others b w (w.setCell ⟨b, j, none⟩ v) := fun k cur T hT hb hk => (Below.heap_setCell _ _ _ _ hb).trans hk
theorem Others.grown {b B size n : Nat} {w w' : World} {v : Value} {xs : List Value} (hown : w.ownsRow B 5 size v n xs) (hg : w.grownBy w' v.ownBlock) : Others b w w' := fun k cur T hT hb hk =>
  (hg.block k (Array.getElem?_eq_some_iff.1 hk).1 (Ne.symm (own_ne hown hk hT))).trans hk

theorem copyCheck_any (B b : Nat) (bs : List Value) (w : World) (h : Lib.IsBuilder 49 5 B b bs w) :
    Calls Try.prog 30 #[.pointer (some ⟨b, 0, none⟩)] w fun e w' => e = .returned (.tuple #[]) ∧ (Lib.BuilderAt 49 5 B b (.pointer (some ⟨b, 0, none⟩)) bs w' ∧ Below B w w' ∧ Others b w w') := by
  rcases h with h | h
  · refine (copyCheck_fresh b w h.cell0 h.shape h.frozen0).mono ?_
    rintro e w' ⟨rfl, rfl⟩
    exact ⟨rfl, h.used _, (Below.refl B w).setCell (p := ⟨b, 0, none⟩) h.1 _, Others.setCell b 0 w _⟩
  · refine (copyCheck_used b w h.cell0).mono ?_
    rintro e w' ⟨rfl, rfl⟩
    exact ⟨rfl, h, Below.refl B _, Others.refl b _⟩

set_option maxHeartbeats 2000000 in
set_option maxRecDepth 100000 in
theorem bWriteString (B b : Nat) (bs : List Value) (s : ByteArray) (w : World) (h : Lib.IsBuilder 49 5 B b bs w) (hlen : bs.length + s.size ≤ 140737488355328) (hBw : B ≤ w.heap.size) :
    Calls Try.prog 26 #[.pointer (some ⟨b, 0, none⟩), .string s] w fun e w' => e = .returned (.tuple #[.int .i64 s.size, .nilIface]) ∧ (Lib.BuilderAt 49 5 B b (.pointer (some ⟨b, 0, none⟩)) (bs ++ Lib.strCells s) w' ∧ Below B w w' ∧ Others b w w') := by
  obtain ⟨i0, hi, hz0, hz1, hz2⟩ := info_parts Try.info5
  go_enter Try.func26, Try.ntmps26
  go_wp2_with (go_at_call 30; refine (copyCheck_any B b bs _ h).mono ?_)
  rintro e w1 ⟨rfl, h1, hb1, ho1⟩
  have HO1 : Hid (Others b w w1) := ho1
  clear ho1
  obtain ⟨hB, v, hbk, hown, hne⟩ := h1
  have c0 : w1.cell? ⟨b, 0, none⟩ = some (.pointer (some ⟨b, 0, none⟩)) := by rw [Lib.cell_of_heap hbk]; rfl
  have c1 : w1.cell? ⟨b, 1, none⟩ = some v := by rw [Lib.cell_of_heap hbk]; rfl
  go_wp2_with (at_builtin; refine Lib.wpList_append_own_string _ rfl _ _ 33 9 rfl B 5 i0 Try.underlying33 Try.underlying9 hi hz0 hz1 hz2 _ _ _ rfl hown s rfl ?c3 ?c4 ?c5 ?_)
  case c3 => unfold maxLen; omega
  case c4 => omega
  case c5 => have := hb1.size; omega
  intro v' w2 hown' hgrow _
  have hlt : b < w1.heap.size := (Array.getElem?_eq_some_iff.1 hbk).1
  have hb2 : w2.heap[b]? = some (.cells #[.pointer (some ⟨b, 0, none⟩), v] 49 (0, 0)) := by
    rw [hgrow.block b hlt (fun e => hne e.symm)]
    exact hbk
  have d0 : w2.cell? ⟨b, 0, none⟩ = some (.pointer (some ⟨b, 0, none⟩)) := by rw [Lib.cell_of_heap hb2]; rfl
  have d1 : w2.cell? ⟨b, 1, none⟩ = some v := by rw [Lib.cell_of_heap hb2]; rfl
  have f1 : w2.frozen? ⟨b, 1, none⟩ = false := Lib.frozen_of_heap hb2 1
  obtain ⟨ao, n', cap, rfl⟩ : ∃ ao n' cap, v' = .slice ao n' cap := by
    rcases hown'.2 with ⟨hv, _⟩ | ⟨g, cap, cur, hv, _⟩
    · exact ⟨_, _, _, hv⟩
    · exact ⟨_, _, _, hv⟩
  go_wp2
  go_ret2
  refine ⟨rfl, ?_, ?_, HO1.out.trans ((Others.grown hown hgrow).trans (Others.setCell b 1 w2 _))⟩
  · exact Lib.BuilderAt.put (T := 49) (e := 5) hB hb2 (bs' := bs ++ Lib.strCells s) (by simpa [Lib.strCells_length] using hown') (by decide)
  · exact (hb1.grown hgrow (by have := hb1.size; omega) (fun k hk => (hown.lt k hk).1)).setCell (p := ⟨b, 1, none⟩) hB _

set_option maxHeartbeats 2000000 in
set_option maxRecDepth 100000 in
theorem bWrite (B b : Nat) (bs : List Value) (ad : Addr) (m c : Nat) (news : List Value) (w : World) (h : Lib.IsBuilder 49 5 B b bs w)
    (hl : news.length = m) (hnews : ∀ j u, news[j]? = some u → w.cell? (ad.add j) = some u) (hadB : ad.block < B) (h1 : ∀ u ∈ news, u.oneCell' = true)
    (hlen : bs.length + m ≤ 140737488355328) (hBw : B ≤ w.heap.size) :
    Calls Try.prog 27 #[.pointer (some ⟨b, 0, none⟩), .slice (some ad) m c] w fun e w' => e = .returned (.tuple #[.int .i64 m, .nilIface]) ∧ (Lib.BuilderAt 49 5 B b (.pointer (some ⟨b, 0, none⟩)) (bs ++ news) w' ∧ Below B w w') := by
  obtain ⟨i0, hi, hz0, hz1, hz2⟩ := info_parts Try.info5
  go_enter Try.func27, Try.ntmps27
  go_wp2_with (go_at_call 30; refine (copyCheck_any B b bs _ h).mono ?_)
  rintro e w1 ⟨rfl, h1', hb1, _⟩
  obtain ⟨hB, v, hbk, hown, hne⟩ := h1'
  have c0 : w1.cell? ⟨b, 0, none⟩ = some (.pointer (some ⟨b, 0, none⟩)) := by rw [Lib.cell_of_heap hbk]; rfl
  have c1 : w1.cell? ⟨b, 1, none⟩ = some v := by rw [Lib.cell_of_heap hbk]; rfl
  have hnews1 : ∀ j u, news[j]? = some u → w1.cell? (ad.add j) = some u := fun j u hj => by rw [hb1.cell (p := ad.add j) (by unfold Addr.add; split <;> exact hadB)]; exact hnews j u hj
  go_wp2_with (at_builtin; refine wpList_append_own _ rfl _ _ 33 rfl B 5 i0 (.int .u8 0) 1 1 Try.underlying33 hi hz0 hz1 hz2 rfl (by decide) _ _ _ rfl hown ad m c news rfl (by omega) hnews1 h1 ?c3 ?c4 ?c5 ?_)
  case c3 => unfold maxLen; omega
  case c4 => omega
  case c5 => have := hb1.size; omega
  intro v' w2 hown' hgrow _
  have hlt : b < w1.heap.size := (Array.getElem?_eq_some_iff.1 hbk).1
  have hb2 : w2.heap[b]? = some (.cells #[.pointer (some ⟨b, 0, none⟩), v] 49 (0, 0)) := by
    rw [hgrow.block b hlt (fun e => hne e.symm)]
    exact hbk
  have d0 : w2.cell? ⟨b, 0, none⟩ = some (.pointer (some ⟨b, 0, none⟩)) := by rw [Lib.cell_of_heap hb2]; rfl
  have d1 : w2.cell? ⟨b, 1, none⟩ = some v := by rw [Lib.cell_of_heap hb2]; rfl
  have f1 : w2.frozen? ⟨b, 1, none⟩ = false := Lib.frozen_of_heap hb2 1
  obtain ⟨ao, n', cap, rfl⟩ : ∃ ao n' cap, v' = .slice ao n' cap := by
    rcases hown'.2 with ⟨hv, _⟩ | ⟨g, cap, cur, hv, _⟩
    · exact ⟨_, _, _, hv⟩
    · exact ⟨_, _, _, hv⟩
  go_wp2
  go_ret2
  refine ⟨rfl, ?_, ?_⟩
  · refine Lib.BuilderAt.put (T := 49) (e := 5) hB hb2 (bs' := bs ++ news) ?_ (by decide)
    rw [List.length_append, hl]; exact hown'
  · exact (hb1.grown hgrow (by have := hb1.size; omega) (fun k hk => (hown.lt k hk).1)).setCell (p := ⟨b, 1, none⟩) hB _
end Go.Proofs.Qxb6601673a
