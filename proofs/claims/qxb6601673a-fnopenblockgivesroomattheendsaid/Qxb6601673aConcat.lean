/-
  SEAT b6601673a: bytes as cells; an owned row of bytes as a string; zzConcat_textbuf_b1.
-/
import Derived.Test.Qxb6601673aClone
import Derived.Lib.AppendStr
namespace Go.Proofs.Qxb6601673a
open Go.ChangeShapes Go.WideShapes Go.ChangeAt Go.RowKit
set_option linter.unusedVariables false

theorem Try.info5 : (Try.prog.info? 5).map (fun i => (i.zero, i.size, i.bytes)) = some (some (.int .u8 0), 1, 1) := by kernel_rfl

/-- Bytes as cells. -/
def bcells (l : List UInt8) : List Value := l.map fun b => Value.int .u8 b.toNat
theorem bcells_length (l : List UInt8) : (bcells l).length = l.length := by simp [bcells]
theorem bcells_append (a b : List UInt8) : bcells (a ++ b) = bcells a ++ bcells b := by simp [bcells]
theorem bcells_str (s : ByteArray) : Lib.strCells s = bcells s.data.toList := rfl

/-- Bytes as a string. -/
def mkS (l : List UInt8) : ByteArray := ⟨l.toArray⟩
theorem mkS_bytes (s : ByteArray) : mkS s.data.toList = s := by cases s; simp [mkS]
theorem mkS_toList (l : List UInt8) : (mkS l).data.toList = l := by simp [mkS]
theorem mkS_size (l : List UInt8) : (mkS l).size = l.length := by simp [mkS, ByteArray.size]
theorem bytes_length (s : ByteArray) : s.data.toList.length = s.size := by rw [Array.length_toList]; rfl

/-- The strings laid end to end. -/
def cat : List ByteArray → List UInt8
  | [] => []
  | s :: r => s.data.toList ++ cat r
theorem cat_append (a b : List ByteArray) : cat (a ++ b) = cat a ++ cat b := by
  induction a with
  | nil => rfl
  | cons s r ih => simp [cat, ih]
theorem cat_length (ss : List ByteArray) : (cat ss).length = tot ss := by
  induction ss with
  | nil => rfl
  | cons s r ih => rw [cat, tot, List.length_append, ih, bytes_length]
theorem cat_take_succ (ss : List ByteArray) (k : Nat) (h : k < ss.length) : cat (ss.take (k + 1)) = cat (ss.take k) ++ ss[k].data.toList := by
  rw [List.take_succ_eq_append_getElem h, cat_append]; simp [cat]

/-- An owned row of bytes, turned to a string. -/
theorem own_string {w : World} {base : Nat} {v : Value} {l : List UInt8} (h : w.ownsRow base 5 1 v l.length (bcells l)) : (convert 33 9 v).run Try.prog w = .ok (.string (mkS l)) w := by
  rcases h.2 with ⟨rfl, h0⟩ | ⟨g, cap, cur, rfl, hb, hg, _⟩
  · have : l = [] := List.eq_nil_of_length_eq_zero h0
    subst this
    exact run_convert_bytes_nil w 33 5 Try.underlying33 Try.underlying5 0 0 9 Try.underlying9
  · refine run_convert_bytes_back w 33 9 5 _ cap l Try.underlying33 Try.underlying5 Try.underlying9 fun j hj => ?_
    refine h.cells (g := g) rfl j _ ?_
    simp [bcells, hj]

/-- One append's step of the loop's relation. -/
theorem step_cat {w wr w1 : World} {B : Nat} {v v' : Value} {ss : List ByteArray} {k : Nat} (hk : k < ss.length) (hBw : B ≤ wr.heap.size)
    (hown : wr.ownsRow B 5 1 v (cat (ss.take k)).length (bcells (cat (ss.take k)))) (hb : Below B w wr)
    (h1 : w1.ownsRow B 5 1 v' ((cat (ss.take k)).length + ss[k].size) (bcells (cat (ss.take k)) ++ Lib.strCells ss[k])) (hg : wr.grownBy w1 v.ownBlock) :
    w1.ownsRow B 5 1 v' (cat (ss.take (k + 1))).length (bcells (cat (ss.take (k + 1)))) ∧ Below B w w1 := by
  refine ⟨?_, hb.grown hg hBw fun j hj => (hown.lt j hj).1⟩
  rw [cat_take_succ ss k hk, bcells_append, ← bcells_str, List.length_append, bytes_length]
  exact h1

set_option maxHeartbeats 1000000 in
theorem concat_any (a : Option Addr) (n c : Nat) (ss : List ByteArray) (w : World) (h : IsStrs w a n ss) (ht : tot ss ≤ 1048576) :
    Calls Try.prog 11 #[.slice a n c] w fun e w' => e = .returned (.string (mkS (cat ss))) ∧ Below w.heap.size w w' := by
  obtain ⟨hl, hm, hsz, hv⟩ := h
  unfold maxLen at hm
  obtain ⟨i0, hi, hz0, hz1, hz2⟩ := info_parts Try.info5
  go_enter Try.func11, Try.ntmps11
  go_wp2
  go_loopw [3, 4] (fun v i wr => ∃ k : Nat, k ≤ n ∧ i = .int .i64 k ∧ wr.ownsRow w.heap.size 5 1 v (cat (ss.take k)).length (bcells (cat (ss.take k))) ∧ Below w.heap.size w wr) (fun _ i _ => n - (intOf i).toNat)
  case atStart => exact ⟨0, Nat.zero_le _, rfl, World.ownsRow_nil _ _ _ _, Below.refl _ _⟩
  case round =>
    obtain ⟨k, hk, rfl, hown, hb⟩ := hrel
    by_cases hlt : k < n
    · obtain ⟨b, off, rfl, hbl, hc⟩ := hv (by omega)
      have hkl : k < ss.length := by omega
      have hcell : wr.cell? ⟨b, off + k, none⟩ = some (.string ss[k]) := (hb.cell (p := ⟨b, off + k, none⟩) hbl).trans (hc k hkl)
      have hcl : (cat (ss.take k)).length + ss[k].size ≤ 1048576 := by
        have e := cat_take_succ ss k hkl
        have := congrArg List.length e
        rw [cat_length, List.length_append, bytes_length] at this
        have := tot_take_le ss (k + 1)
        omega
      have hst := fun (v' : Value) (w1 : World) => step_cat (v' := v') (w1 := w1) hkl hb.size hown hb
      clear hc hv hsz
      go_wp2_with (at_builtin; refine Lib.wpList_append_own_string _ rfl _ _ 33 9 rfl w.heap.size 5 i0 Try.underlying33 Try.underlying9 hi hz0 hz1 hz2 _ _ _ rfl hown ss[k] rfl (by unfold maxLen; omega) (by omega) hb.size ?_; intro v' w1 hown' hgrow _)
      go_roundw
      case rel => exact ⟨k + 1, by omega, by go_num, hst v' w1 hown' hgrow⟩
      case measure => simp [intOf]; omega
    · have hkn : k = n := by omega
      subst hkn
      rw [List.take_of_length_le (by omega)] at hown
      have hstr := own_string hown
      go_wp2
      go_ret
      exact ⟨rfl, hb⟩
end Go.Proofs.Qxb6601673a
