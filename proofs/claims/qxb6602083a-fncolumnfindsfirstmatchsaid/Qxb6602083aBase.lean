/-
  SEAT b6602083a: a []byte in memory; cloneBytesB1.
-/
import Derived.Test.Qxb6602083aRows
import Derived.WalkKit
import Derived.ProofKit
import Derived.WalkSpells
import Derived.WalkLawsBesides
namespace Go.Proofs.Qxb6602083a
open Go.ChangeShapes Go.WideShapes Go.ChangeAt Go.RowKit
set_option linter.unusedVariables false

/-- A []byte in memory, seen through its value's address and length: its bytes 'zs', as numbers. -/
def IsB (w : World) (a : Option Addr) (n : Nat) (zs : List Int) : Prop :=
  zs.length = n ∧ n ≤ maxLen ∧ (∀ z ∈ zs, 0 ≤ z ∧ z ≤ 255) ∧
  (0 < n → ∃ b off, a = some ⟨b, off, none⟩ ∧ b < w.heap.size ∧ ∀ i (h : i < zs.length), w.cell? ⟨b, off + i, none⟩ = some (.int .u8 zs[i]))

theorem IsB.below {w w' : World} {a : Option Addr} {n : Nat} {zs : List Int} (h : IsB w a n zs) (hb : Below w.heap.size w w') : IsB w' a n zs := by
  obtain ⟨h1, h2, h3, h4⟩ := h
  refine ⟨h1, h2, h3, fun hn => ?_⟩
  obtain ⟨b, off, rfl, hlt, hc⟩ := h4 hn
  exact ⟨b, off, rfl, Nat.lt_of_lt_of_le hlt hb.size, fun i hi => (hb.cell (p := ⟨b, off + i, none⟩) hlt).trans (hc i hi)⟩

theorem Try.info5 : (Try.prog.info? 5).map (fun i => (i.zero, i.size, i.bytes)) = some (some (.int .u8 0), 1, 1) := by kernel_rfl

/-- The cells of the clone behind k rounds. -/
def cl (zs : List Int) (k : Nat) : List Value := (zs.take k).map (Value.int .u8) ++ List.replicate (zs.length - k) (.int .u8 0)

theorem cl_set (zs : List Int) (k : Nat) (h : k < zs.length) : (cl zs k).set k (.int .u8 zs[k]) = cl zs (k + 1) := by
  unfold cl
  rw [List.take_succ_eq_append_getElem h]
  obtain ⟨m, hm⟩ : ∃ m, zs.length - k = m + 1 := ⟨zs.length - k - 1, by omega⟩
  have hl : ((zs.take k).map (Value.int .u8)).length = k := by simp; omega
  rw [List.set_append, if_neg (by omega), hl, hm, List.replicate_succ]
  have e : zs.length - (k + 1) = m := by omega
  simp [e]
  rw [List.take_succ_eq_append_getElem (by simpa using h)]
  simp

theorem step_clone {w wr : World} {B g n : Nat} {zs : List Int} {k : Nat} (hk : k < zs.length) (hn : zs.length = n) (hB : B ≤ g)
    (hown : wr.ownsRow B 5 1 (.slice (some ⟨g, 0, none⟩) n n) n (cl zs k)) (hb : Below B w wr) :
    (wr.setCell ⟨g, k, none⟩ (.int .u8 zs[k])).ownsRow B 5 1 (.slice (some ⟨g, 0, none⟩) n n) n (cl zs (k + 1)) ∧ Below B w (wr.setCell ⟨g, k, none⟩ (.int .u8 zs[k])) := by
  refine ⟨?_, hb.setCell (p := ⟨g, k, none⟩) hB _⟩
  rw [← cl_set zs k hk]
  exact (hown.stored k _).1

/-- An owned row that is full of bytes, as the walks read it. -/
theorem isB_of_own {w : World} {B g n cap : Nat} {zs : List Int} (hl : zs.length = n) (hm : n ≤ maxLen) (hz : ∀ z ∈ zs, 0 ≤ z ∧ z ≤ 255)
    (hown : w.ownsRow B 5 1 (.slice (some ⟨g, 0, none⟩) n cap) n (zs.map (Value.int .u8))) : IsB w (some ⟨g, 0, none⟩) n zs := by
  refine ⟨hl, hm, hz, fun hp => ⟨g, 0, rfl, (hown.lt _ rfl).2, fun i hi => ?_⟩⟩
  rw [Nat.zero_add, hown.cellAt i (by omega), List.getElem?_map, List.getElem?_eq_getElem hi]
  rfl

set_option maxHeartbeats 1000000 in
theorem clone_some (a : Addr) (n c : Nat) (zs : List Int) (w : World) (h : IsB w (some a) n zs) (hn : n ≤ 1048576) :
    Calls Try.prog 11 #[.slice (some a) n c] w fun e w' => (∃ a', e = .returned (.slice a' n n) ∧ IsB w' a' n zs) ∧ Below w.heap.size w w' := by
  obtain ⟨hl, hm, hsz, hv⟩ := h
  obtain ⟨i0, hi, hz0, hz1, hz2⟩ := info_parts Try.info5
  have hnil := fun w a l c => Lib.run_eql_slice_nil (P := Try.prog) w 22 5 a l c 0 0 Try.underlying22
  go_enter Try.func11, Try.ntmps11
  go_wp2_with (at_make; refine wpList_make_full _ rfl _ _ 22 rfl w.heap.size 5 i0 (.int .u8 0) 1 Try.underlying22 hi hz0 hz1 _ _ _ _ n rfl rfl rfl rfl (by rw [hz2]; omega) (by unfold maxLen; omega) (Nat.le_refl _) ?_; intro w1 hown hgrow)
  have hown0 : w1.ownsRow w.heap.size 5 1 (.slice (some ⟨w.heap.size, 0, none⟩) n n) n (cl zs 0) := by
    have e : (madeCells (Value.int .u8 0).cells (n * 1)).toList = cl zs 0 := by
      show (madeCells #[Value.int .u8 0] (n * 1)).toList = _
      rw [toList_madeCells_one]; simp [cl, hl]
    rw [← e]; exact hown
  have hb0 : Below w.heap.size w w1 := (Below.refl _ _).grown hgrow (Nat.le_refl _) (by simp)
  clear hown hgrow
  go_loopw [4] (fun i wr => ∃ k : Nat, k ≤ n ∧ i = .int .i64 k ∧ wr.ownsRow w.heap.size 5 1 (.slice (some ⟨w.heap.size, 0, none⟩) n n) n (cl zs k) ∧ Below w.heap.size w wr) (fun i _ => n - (intOf i).toNat)
  case atStart => exact ⟨0, Nat.zero_le _, rfl, hown0, hb0⟩
  case round =>
    obtain ⟨k, hk, rfl, hown, hb⟩ := hrel
    clear hown0 hb0
    by_cases hlt : k < n
    · obtain ⟨b, off, ha, hbl, hc⟩ := hv (by omega)
      simp only [Option.some.injEq] at ha
      subst ha
      have hkl : k < zs.length := by omega
      have hcell : wr.cell? ⟨b, off + k, none⟩ = some (.int .u8 zs[k]) := (hb.cell (p := ⟨b, off + k, none⟩) hbl).trans (hc k hkl)
      have hst := step_clone hkl hl (Nat.le_refl _) hown hb
      have hc2 : wr.cell? ⟨w.heap.size, k, none⟩ = some ((cl zs k)[k]'(by have := hown.1; omega)) := by rw [hown.cellAt k (by omega)]; exact List.getElem?_eq_getElem _
      have hf2 : wr.frozen? ⟨w.heap.size, k, none⟩ = false := hown.frozenAt k
      obtain ⟨u, hu⟩ : ∃ u, u = (cl zs k)[k]'(by have := hown.1; omega) := ⟨_, rfl⟩
      rw [← hu] at hc2
      clear hu
      obtain ⟨s, hs⟩ : ∃ s, s = zs[k] := ⟨_, rfl⟩
      rw [← hs] at hcell hst
      clear hs hown hc hv
      go_wp2
      go_roundw
      case rel => exact ⟨k + 1, by omega, by go_num, hst.1, hst.2⟩
      case measure => simp [intOf]; omega
    · have hkn : k = n := by omega
      subst hkn
      go_wp2
      go_ret
      refine ⟨⟨_, rfl, isB_of_own hl hm hsz (B := w.heap.size) (cap := k) ?_⟩, hb⟩
      have e : cl zs k = zs.map (Value.int .u8) := by unfold cl; rw [hl, Nat.sub_self, List.take_of_length_le (by omega)]; simp
      rw [← e]; exact hown

theorem clone_nil (n c : Nat) (zs : List Int) (w : World) (h : IsB w none n zs) :
    Calls Try.prog 11 #[.slice none n c] w fun e w' => (∃ a', e = .returned (.slice a' n 0) ∧ IsB w' a' n zs) ∧ Below w.heap.size w w' := by
  have h0 : n = 0 := by
    rcases Nat.eq_zero_or_pos n with h0 | h0
    · exact h0
    · obtain ⟨b, off, hx, _⟩ := h.2.2.2 h0
      cases hx
  subst h0
  have hnil := fun w a l c => Lib.run_eql_slice_nil (P := Try.prog) w 22 5 a l c 0 0 Try.underlying22
  go_enter Try.func11, Try.ntmps11
  go_wp2
  go_ret
  exact ⟨⟨_, rfl, h⟩, Below.refl _ _⟩

theorem clone_any (a : Option Addr) (n c : Nat) (zs : List Int) (w : World) (h : IsB w a n zs) (hn : n ≤ 1048576) :
    Calls Try.prog 11 #[.slice a n c] w fun e w' => (∃ a' c', e = .returned (.slice a' n c') ∧ IsB w' a' n zs ∧ n ≤ c' ∧ c' ≤ 1048576) ∧ Below w.heap.size w w' := by
  cases a with
  | none =>
    have h0 : n = 0 := by
      rcases Nat.eq_zero_or_pos n with h0 | h0
      · exact h0
      · obtain ⟨b, off, hx, _⟩ := h.2.2.2 h0
        cases hx
    exact (clone_nil n c zs w h).mono fun e w' ⟨⟨a', he, h'⟩, hb⟩ => ⟨⟨a', 0, he, h', by omega, by omega⟩, hb⟩
  | some a => exact (clone_some a n c zs w h hn).mono fun e w' ⟨⟨a', he, h'⟩, hb⟩ => ⟨⟨a', n, he, h', Nat.le_refl _, hn⟩, hb⟩
end Go.Proofs.Qxb6602083a
