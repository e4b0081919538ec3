/-
  SEAT b6602083a: FnColumnFindsFirstMatch: the walk.
-/
import Derived.Test.Qxb6602083aCol
namespace Go.Proofs.Qxb6602083a
open Go.ChangeShapes Go.WideShapes Go.ChangeAt Go.RowKit
set_option linter.unusedVariables false

set_option maxRecDepth 100000 in
set_option maxHeartbeats 2000000 in
theorem column_walk (a : Option Addr) (n c : Nat) (ss : List ByteArray) (x : ByteArray) (w : World) (h : IsStrs w a n ss) (hx : x.size ≤ maxLen) :
    Calls Try.prog 8 #[.slice a n c, .string x] w fun e w' => e = .returned (.bool true) ∧ Below w.heap.size w w' := by
  have HI : Hid (IsStrs w a n ss) := h
  have hnm : n ≤ 9223372036854775807 := h.2.1
  have hxm : x.size ≤ 9223372036854775807 := hx
  have HX : Hid (x.size ≤ maxLen) := hx
  clear h hx
  go_enter Try.func8, Try.ntmps8
  go_wp2_with fail
  refine (bytes21_any a n c ss x HX.out w HI.out).mono ?_
  rintro e w' ⟨⟨t, rfl, ht⟩, hw⟩
  have hw2 := hw.symm
  subst hw2
  cases t
  · go_wp2_with fail
    go_ret
    exact ⟨rfl, Below.refl _ _⟩
  obtain ⟨hn1, hss, hx1⟩ := ht rfl
  have HSS : Hid (∀ s ∈ ss, s.size ≤ 1048576) := hss
  clear ht hss hnm hxm
  go_wp2_with fail
  refine (header_any a n c ss _ HI.out HSS.out).mono ?_
  rintro e w' ⟨⟨t, rfl, ht0, ht1, ht2⟩, hw⟩
  have hw2 := hw.symm
  subst hw2
  by_cases hbig : 1048576 < t + (x.size : Int)
  · go_wp2_with fail
    go_ret
    exact ⟨rfl, Below.refl _ _⟩
  have hn2 : n ≤ 65536 := ht2 (by omega)
  clear ht2
  go_wp2_with fail
  refine (clones_any a n c ss _ HI.out hn2).mono ?_
  rintro e w1 ⟨⟨a1, c1, rfl, hI1⟩, hb1⟩
  have HI1 : Hid (IsStrs w1 a1 n ss) := hI1
  have HL1 : Hid (Below w.heap.size w w1) := hb1
  clear hI1 hb1 HI
  have hl : ss.length = n := HI1.out.1
  go_wp2_with fail
  refine (zcolumn_any a1 n c1 ss x _ HI1.out).mono ?_
  rintro e w' ⟨hr, hw⟩
  have hw2 := hw.symm
  subst hw2
  rcases hr with ⟨rfl, hN⟩ | ⟨r, hrl, rfl, he, hN⟩
  · have HN : Hid (NoneOf ss x ss.length) := hN
    clear hN
    go_wp2_with fail
    go_loop [6] (fun i => ∃ k : Nat, k ≤ n ∧ i = .int .i64 k) (fun i => n - (intOf i).toNat)
    case atStart => exact ⟨0, Nat.zero_le _, rfl⟩
    case round =>
      obtain ⟨k, hk, rfl⟩ := hrel
      by_cases hlt : k < n
      · obtain ⟨b, off, rfl, hb, hc⟩ := HI1.out.2.2.2 (by omega)
        have hkl : k < ss.length := by omega
        have hcell := hc k hkl
        have hq : eqs ss[k] x = false := HN.out k hkl hkl
        obtain ⟨s, hs⟩ : ∃ s, s = ss[k] := ⟨_, rfl⟩
        rw [← hs] at hcell hq
        unfold eqs at hq
        clear hs hc
        go_wp2_with fail
        go_round
        case rel => exact ⟨k + 1, by omega, by go_num⟩
        case measure => simp [intOf]; omega
      · go_wp2_with fail
        go_ret
        exact ⟨rfl, HL1.out⟩
  · have HN : Hid (NoneOf ss x r) := hN
    obtain ⟨b, off, rfl, hb, hc⟩ := HI1.out.2.2.2 (by omega)
    have HC : Hid (∀ i (h : i < ss.length), w1.cell? ⟨b, off + i, none⟩ = some (.string ss[i])) := hc
    have hrcell := hc r hrl
    obtain ⟨s, hs⟩ : ∃ s, s = ss[r] := ⟨_, rfl⟩
    rw [← hs] at hrcell he
    unfold eqs at he
    have r1 : ((r : Int) == -1) = false := beq_eq_false_iff_ne.2 (by omega)
    have r2 : decide ((r : Int) < 0) = false := decide_eq_false (by omega)
    have r3 : ¬ (n : Int) ≤ (r : Int) := by omega
    have r4 : decide ((n : Int) ≤ (r : Int)) = false := decide_eq_false r3
    have r5 : ¬ n ≤ r := by omega
    have r6 : decide (n ≤ r) = false := decide_eq_false r5
    clear hs hc hN
    go_wp2_with fail
    go_loop [7] (fun i => ∃ k : Nat, k ≤ r ∧ i = .int .i64 k) (fun i => r - (intOf i).toNat)
    case atStart => exact ⟨0, Nat.zero_le _, rfl⟩
    case round =>
      obtain ⟨k, hk, rfl⟩ := hrel
      by_cases hlt : k < r
      · have hkl : k < ss.length := by omega
        have hcell := HC.out k hkl
        have hq : eqs ss[k] x = false := HN.out k hkl hlt
        obtain ⟨s', hs'⟩ : ∃ s, s = ss[k] := ⟨_, rfl⟩
        rw [← hs'] at hcell hq
        unfold eqs at hq
        clear hs'
        go_wp2_with fail
        go_round
        case rel => exact ⟨k + 1, by omega, by go_num⟩
        case measure => simp [intOf]; omega
      · go_wp2_with fail
        go_ret
        exact ⟨rfl, HL1.out⟩
end Go.Proofs.Qxb6602083a
