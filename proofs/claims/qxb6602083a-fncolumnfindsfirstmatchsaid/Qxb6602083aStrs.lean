/-
  SEAT b6602083a: a []string in memory; zzBytes, headerBytes, cloneStringsB1, column.
-/
import Derived.Test.Qxb6602083aBase
namespace Go.Proofs.Qxb6602083a
open Go.ChangeShapes Go.WideShapes Go.ChangeAt Go.RowKit
set_option linter.unusedVariables false

/-- A slice of strings in memory, seen through its value's address and length: its strings 'ss'. -/
def IsStrs (w : World) (a : Option Addr) (n : Nat) (ss : List ByteArray) : Prop :=
  ss.length = n ∧ n ≤ maxLen ∧ (∀ s ∈ ss, s.size ≤ maxLen) ∧
  (0 < n → ∃ b off, a = some ⟨b, off, none⟩ ∧ b < w.heap.size ∧ ∀ i (h : i < ss.length), w.cell? ⟨b, off + i, none⟩ = some (.string ss[i]))

theorem IsStrs.below {w w' : World} {a : Option Addr} {n : Nat} {ss : List ByteArray} (h : IsStrs w a n ss) (hb : Below w.heap.size w w') : IsStrs w' a n ss := by
  obtain ⟨h1, h2, h3, h4⟩ := h
  refine ⟨h1, h2, h3, fun hn => ?_⟩
  obtain ⟨b, off, rfl, hlt, hc⟩ := h4 hn
  exact ⟨b, off, rfl, Nat.lt_of_lt_of_le hlt hb.size, fun i hi => (hb.cell (p := ⟨b, off + i, none⟩) hlt).trans (hc i hi)⟩

/-- Some bool comes back; where it is 'true', the sizes are modest. -/
def BoolSz (n : Nat) (ss : List ByteArray) (x : ByteArray) (e : Ending) : Prop :=
  ∃ t : Bool, e = .returned (.bool t) ∧ (t = true → n ≤ 1048576 ∧ (∀ s ∈ ss, s.size ≤ 1048576) ∧ x.size ≤ 1048576)

set_option maxHeartbeats 400000 in
theorem bytes21_any (a : Option Addr) (n c : Nat) (ss : List ByteArray) (x : ByteArray) (hx : x.size ≤ maxLen) (w : World) (h : IsStrs w a n ss) :
    Calls Try.prog 21 #[.slice a n c, .string x] w fun e w' => BoolSz n ss x e ∧ w' = w := by
  obtain ⟨hl, hm, hsz, hv⟩ := h
  unfold maxLen at hm hsz hx
  go_enter Try.func21, Try.ntmps21
  go_wp2
  · go_ret
    exact ⟨⟨_, rfl, by simp⟩, rfl⟩
  · go_loop [5, 6] (fun t i => ∃ (k : Nat) (q : Int), k ≤ n ∧ i = .int .i64 k ∧ 0 ≤ q ∧ q ≤ 1048576 ∧ t = .int .i64 q ∧ Hid (∀ j (h : j < ss.length), j < k → ss[j].size ≤ 1048576)) (fun _ i => n - (intOf i).toNat)
    case atStart => exact ⟨0, n, Nat.zero_le _, rfl, by omega, by omega, by go_num, fun j h h0 => absurd h0 (by omega)⟩
    case round =>
      obtain ⟨k, q, hk, rfl, hq0, hq, rfl, HS⟩ := hrel
      by_cases hlt : k < n
      · obtain ⟨b, off, rfl, hb, hc⟩ := hv (by omega)
        have hkl : k < ss.length := by omega
        have HS1 : Hid (ss[k].size ≤ 1048576 → ∀ j (h : j < ss.length), j < k + 1 → ss[j].size ≤ 1048576) := fun h0 j h hj => by
          by_cases e : j = k
          · subst e; exact h0
          · exact HS.out j h (by omega)
        obtain ⟨s, hs⟩ : ∃ s, s = ss[k] := ⟨_, rfl⟩
        have hcell : w.cell? ⟨b, off + k, none⟩ = some (.string s) := by rw [hs]; exact hc k hkl
        have hsm : s.size ≤ 9223372036854775807 := by rw [hs]; exact hsz _ (List.getElem_mem _)
        rw [← hs] at HS1
        clear hs hc hv hsz
        go_wp2
        · go_ret
          exact ⟨⟨_, rfl, by simp⟩, rfl⟩
        · go_ret
          exact ⟨⟨_, rfl, by simp⟩, rfl⟩
        · go_round
          case rel => exact ⟨k + 1, _, by omega, by go_num, by omega, by assumption, rfl, HS1.out (by omega)⟩
          case measure => simp [intOf]; omega
      · have HA : Hid (∀ s ∈ ss, s.size ≤ 1048576) := fun s hs => by
          obtain ⟨j, hj, rfl⟩ := List.getElem_of_mem hs
          exact HS.out j hj (by omega)
        go_wp2
        · go_ret
          exact ⟨⟨_, rfl, by simp⟩, rfl⟩
        · go_ret
          exact ⟨⟨_, rfl, by simp⟩, rfl⟩
        · go_ret
          exact ⟨⟨_, rfl, fun _ => ⟨by omega, HA.out, by omega⟩⟩, rfl⟩

set_option maxHeartbeats 400000 in
theorem header_any (a : Option Addr) (n c : Nat) (ss : List ByteArray) (w : World) (h : IsStrs w a n ss) (hss : ∀ s ∈ ss, s.size ≤ 1048576) :
    Calls Try.prog 22 #[.slice a n c] w fun e w' => (∃ t : Int, e = .returned (.int .i64 t) ∧ 0 ≤ t ∧ t ≤ 20000000 ∧ (t ≤ 1048576 → n ≤ 65536)) ∧ w' = w := by
  obtain ⟨hl, hm, hsz, hv⟩ := h
  unfold maxLen at hm
  clear hsz
  go_enter Try.func22, Try.ntmps22
  go_wp2
  · go_ret
    exact ⟨⟨_, rfl, by omega, by omega, by omega⟩, rfl⟩
  · go_loop [3, 4] (fun t i => ∃ (k : Nat) (q : Int), k ≤ n ∧ i = .int .i64 k ∧ 16 * (n : Int) ≤ q ∧ q ≤ 16777216 ∧ t = .int .i64 q) (fun _ i => n - (intOf i).toNat)
    case atStart => exact ⟨0, 16 * (n : Int), Nat.zero_le _, rfl, by omega, by omega, by go_num⟩
    case round =>
      obtain ⟨k, q, hk, rfl, hq0, hq, rfl⟩ := hrel
      by_cases hlt : k < n
      · obtain ⟨b, off, rfl, hb, hc⟩ := hv (by omega)
        have hkl : k < ss.length := by omega
        obtain ⟨s, hs⟩ : ∃ s, s = ss[k] := ⟨_, rfl⟩
        have hcell : w.cell? ⟨b, off + k, none⟩ = some (.string s) := by rw [hs]; exact hc k hkl
        have hsm : s.size ≤ 1048576 := by rw [hs]; exact hss _ (List.getElem_mem _)
        clear hs hc hv hss
        go_wp2
        · go_ret
          exact ⟨⟨_, rfl, by omega, by omega, by omega⟩, rfl⟩
        · go_round
          case rel => exact ⟨k + 1, _, by omega, by go_num, by omega, by omega, rfl⟩
          case measure => simp [intOf]; omega
      · go_wp2
        go_ret
        exact ⟨⟨_, rfl, by omega, by omega, by omega⟩, rfl⟩

theorem Try.info9 : (Try.prog.info? 9).map (fun i => (i.zero, i.size, i.bytes)) = some (some (.string ByteArray.empty), 1, 16) := by kernel_rfl

/-- The cells of the clone behind k rounds. -/
def cls (ss : List ByteArray) (k : Nat) : List Value := (ss.take k).map Value.string ++ List.replicate (ss.length - k) (.string ByteArray.empty)

theorem cls_set (ss : List ByteArray) (k : Nat) (h : k < ss.length) : (cls ss k).set k (.string ss[k]) = cls ss (k + 1) := by
  unfold cls
  rw [List.take_succ_eq_append_getElem h]
  obtain ⟨m, hm⟩ : ∃ m, ss.length - k = m + 1 := ⟨ss.length - k - 1, by omega⟩
  have hl : ((ss.take k).map Value.string).length = k := by simp; omega
  rw [List.set_append, if_neg (by omega), hl, hm, List.replicate_succ]
  have e : ss.length - (k + 1) = m := by omega
  simp [e]
  rw [List.take_succ_eq_append_getElem (by simpa using h)]
  simp

theorem step_clones {w wr : World} {B g n : Nat} {ss : List ByteArray} {k : Nat} (hk : k < ss.length) (hn : ss.length = n) (hB : B ≤ g)
    (hown : wr.ownsRow B 9 1 (.slice (some ⟨g, 0, none⟩) n n) n (cls ss k)) (hb : Below B w wr) :
    (wr.setCell ⟨g, k, none⟩ (.string ss[k])).ownsRow B 9 1 (.slice (some ⟨g, 0, none⟩) n n) n (cls ss (k + 1)) ∧ Below B w (wr.setCell ⟨g, k, none⟩ (.string ss[k])) := by
  refine ⟨?_, hb.setCell (p := ⟨g, k, none⟩) hB _⟩
  rw [← cls_set ss k hk]
  exact (hown.stored k _).1

set_option maxHeartbeats 1000000 in
theorem clones_some (a : Addr) (n c : Nat) (ss : List ByteArray) (w : World) (h : IsStrs w (some a) n ss) (hn : n ≤ 65536) :
    Calls Try.prog 23 #[.slice (some a) n c] w fun e w' => (∃ a', e = .returned (.slice a' n n) ∧ IsStrs w' a' n ss) ∧ Below w.heap.size w w' := by
  obtain ⟨hl, hm, hsz, hv⟩ := h
  obtain ⟨i0, hi, hz0, hz1, hz2⟩ := info_parts Try.info9
  have hnil := fun w a l c => Lib.run_eql_slice_nil (P := Try.prog) w 37 9 a l c 0 0 Try.underlying37
  go_enter Try.func23, Try.ntmps23
  go_wp2_with (at_make; refine wpList_make_full _ rfl _ _ 37 rfl w.heap.size 9 i0 (.string ByteArray.empty) 1 Try.underlying37 hi hz0 hz1 _ _ _ _ n rfl rfl rfl rfl (by rw [hz2]; omega) (by unfold maxLen; omega) (Nat.le_refl _) ?_; intro w1 hown hgrow)
  have hown0 : w1.ownsRow w.heap.size 9 1 (.slice (some ⟨w.heap.size, 0, none⟩) n n) n (cls ss 0) := by
    have e : (madeCells (Value.string ByteArray.empty).cells (n * 1)).toList = cls ss 0 := by
      show (madeCells #[Value.string ByteArray.empty] (n * 1)).toList = _
      rw [toList_madeCells_one]; simp [cls, hl]
    rw [← e]; exact hown
  have hb0 : Below w.heap.size w w1 := (Below.refl _ _).grown hgrow (Nat.le_refl _) (by simp)
  clear hown hgrow
  go_loopw [4] (fun i wr => ∃ k : Nat, k ≤ n ∧ i = .int .i64 k ∧ wr.ownsRow w.heap.size 9 1 (.slice (some ⟨w.heap.size, 0, none⟩) n n) n (cls ss k) ∧ Below w.heap.size w wr) (fun i _ => n - (intOf i).toNat)
  case atStart => exact ⟨0, Nat.zero_le _, rfl, hown0, hb0⟩
  case round =>
    obtain ⟨k, hk, rfl, hown, hb⟩ := hrel
    clear hown0 hb0
    by_cases hlt : k < n
    · obtain ⟨b, off, ha, hbl, hc⟩ := hv (by omega)
      simp only [Option.some.injEq] at ha
      subst ha
      have hkl : k < ss.length := by omega
      have hcell : wr.cell? ⟨b, off + k, none⟩ = some (.string ss[k]) := (hb.cell (p := ⟨b, off + k, none⟩) hbl).trans (hc k hkl)
      have hst := step_clones hkl hl (Nat.le_refl _) hown hb
      have hc2 : wr.cell? ⟨w.heap.size, k, none⟩ = some ((cls ss k)[k]'(by have := hown.1; omega)) := by rw [hown.cellAt k (by omega)]; exact List.getElem?_eq_getElem _
      have hf2 : wr.frozen? ⟨w.heap.size, k, none⟩ = false := hown.frozenAt k
      obtain ⟨u, hu⟩ : ∃ u, u = (cls ss k)[k]'(by have := hown.1; omega) := ⟨_, rfl⟩
      rw [← hu] at hc2
      clear hu
      obtain ⟨s, hs⟩ : ∃ s, s = ss[k] := ⟨_, rfl⟩
      rw [← hs] at hcell hst
      clear hs hown hc hv
      go_wp2
      go_roundw
      case rel => exact ⟨k + 1, by omega, by go_num, hst.1, hst.2⟩
      case measure => simp [intOf]; omega
    · have hkn : k = n := by omega
      subst hkn
      go_wp2
      go_ret
      refine ⟨⟨_, rfl, hl, hm, hsz, fun hp => ⟨w.heap.size, 0, rfl, (hown.lt _ rfl).2, fun i hi => ?_⟩⟩, hb⟩
      rw [Nat.zero_add, hown.cellAt i (by omega)]
      unfold cls
      rw [List.take_of_length_le (by omega), List.getElem?_append_left (by simpa using hi), List.getElem?_map, List.getElem?_eq_getElem hi]
      rfl

theorem clones_nil (n c : Nat) (ss : List ByteArray) (w : World) (h : IsStrs w none n ss) :
    Calls Try.prog 23 #[.slice none n c] w fun e w' => (∃ a', e = .returned (.slice a' n 0) ∧ IsStrs w' a' n ss) ∧ Below w.heap.size w w' := by
  have h0 : n = 0 := by
    rcases Nat.eq_zero_or_pos n with h0 | h0
    · exact h0
    · obtain ⟨b, off, hx, _⟩ := h.2.2.2 h0
      cases hx
  subst h0
  have hnil := fun w a l c => Lib.run_eql_slice_nil (P := Try.prog) w 37 9 a l c 0 0 Try.underlying37
  go_enter Try.func23, Try.ntmps23
  go_wp2
  go_ret
  exact ⟨⟨_, rfl, h⟩, Below.refl _ _⟩

theorem clones_any (a : Option Addr) (n c : Nat) (ss : List ByteArray) (w : World) (h : IsStrs w a n ss) (hn : n ≤ 65536) :
    Calls Try.prog 23 #[.slice a n c] w fun e w' => (∃ a' c', e = .returned (.slice a' n c') ∧ IsStrs w' a' n ss) ∧ Below w.heap.size w w' := by
  cases a with
  | none => exact (clones_nil n c ss w h).mono fun e w' ⟨⟨a', he, h'⟩, hb⟩ => ⟨⟨a', 0, he, h'⟩, hb⟩
  | some a => exact (clones_some a n c ss w h hn).mono fun e w' ⟨⟨a', he, h'⟩, hb⟩ => ⟨⟨a', n, he, h'⟩, hb⟩
end Go.Proofs.Qxb6602083a
