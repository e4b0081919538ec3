/-
  SEAT b6602083a: FnFlatSpaceStopsAtFirstNonSpace: the walk.
-/
import Derived.Test.Qxb6602083aSpace
namespace Go.Proofs.Qxb6602083a
open Go.ChangeShapes Go.WideShapes Go.ChangeAt Go.RowKit
set_option linter.unusedVariables false

/-- Some bool comes back. -/
def Boolish3 (e : Ending) : Prop := ∃ t : Bool, e = .returned (.bool t)

theorem bytes16_any (a : Option Addr) (n c : Nat) (i : Int) (p : Option Addr) (w : World) (hn : n ≤ maxLen) :
    Calls Try.prog 16 #[.slice a n c, .int .i64 i, .pointer p] w fun e w' => Boolish3 e ∧ w' = w := by
  unfold maxLen at hn
  go_enter Try.func16, Try.ntmps16
  go_wp2
  all_goals (go_ret; exact ⟨⟨_, rfl⟩, rfl⟩)

set_option maxRecDepth 100000 in
set_option maxHeartbeats 2000000 in
theorem space_walk (a : Option Addr) (n c : Nat) (zs : List Int) (i : Int) (p : Option Addr) (w : World) (h : IsB w a n zs) (hi0 : -9223372036854775808 ≤ i) (hi1 : i ≤ 9223372036854775807)
    (hp : p = none ∨ ∃ b off L, p = some ⟨b, off, none⟩ ∧ b < w.heap.size ∧ w.cell? ⟨b, off, none⟩ = some (.int .i64 L) ∧ wrap64 L = L) :
    Calls Try.prog 5 #[.slice a n c, .int .i64 i, .pointer p] w fun e w' => e = .returned (.bool true) ∧ Below w.heap.size w w' := by
  have HI : Hid (IsB w a n zs) := h
  have hnm : n ≤ 9223372036854775807 := h.2.1
  clear h
  go_enter Try.func5, Try.ntmps5
  go_wp2_with fail
  refine (bytes16_any a n c i p w HI.out.2.1).mono ?_
  rintro e w' ⟨⟨t, rfl⟩, hw⟩
  have hw2 := hw.symm
  subst hw2
  cases t
  · go_wp2_with fail
    go_ret
    exact ⟨rfl, Below.refl _ _⟩
  by_cases hbig : 1048576 < n
  · go_wp2_with fail
    go_ret
    exact ⟨rfl, Below.refl _ _⟩
  by_cases hneg : i < 0
  · go_wp2_with fail
    go_ret
    exact ⟨rfl, Below.refl _ _⟩
  rcases hp with rfl | ⟨pb, po, L, rfl, hpb, hpc, hL⟩
  · have hneg2 : decide (i < 0) = false := decide_eq_false hneg
    go_wp2_with fail
    go_ret
    exact ⟨rfl, Below.refl _ _⟩
  obtain ⟨iN, rfl⟩ := Int.eq_ofNat_of_zero_le (show 0 ≤ i by omega)
  have HLw : Hid (wrap64 L = L) := hL
  clear hL hneg hi0
  go_wp2_with fail
  refine (clone_any a n c zs _ HI.out (by omega)).mono ?_
  rintro e w1 ⟨⟨a1, c1, rfl, hI1, hc1, hc2⟩, hb1⟩
  have HI1 : Hid (IsB w1 a1 n zs) := hI1
  have HL1 : Hid (Below w.heap.size w w1) := hb1
  have hpc1 : w1.cell? ⟨pb, po, none⟩ = some (.int .i64 L) := (hb1.cell (p := ⟨pb, po, none⟩) hpb).trans hpc
  clear hI1 hb1 HI hpc
  have cq : (w1.alloc (.cells #[.int .i64 L] 3)).cell? ⟨w1.heap.size, 0, none⟩ = some (.int .i64 L) := cell_of_row _ _ 0 _ _ _ (heap_alloc_new w1 _)
  have fq : (w1.alloc (.cells #[.int .i64 L] 3)).frozen? ⟨w1.heap.size, 0, none⟩ = false := frozen_of_row _ _ 0 _ _ (heap_alloc_new w1 _)
  have CQ : Hid ((w1.alloc (.cells #[.int .i64 L] 3)).cell? ⟨w1.heap.size, 0, none⟩ = some (.int .i64 L)) := cq
  have FQ : Hid ((w1.alloc (.cells #[.int .i64 L] 3)).frozen? ⟨w1.heap.size, 0, none⟩ = false) := fq
  have hwq : w.heap.size ≤ w1.heap.size := HL1.out.size
  have HL2 : Hid (Below w.heap.size w (w1.alloc (.cells #[.int .i64 L] 3))) := HL1.out.alloc hwq _
  clear cq fq
  by_cases hin : iN < n
  · have hini : ¬ (n : Int) ≤ (iN : Int) := by omega
    obtain ⟨b, off, rfl, hbl, hcell⟩ := HI1.out.2.2.2 (by omega)
    have hcell2 : ∀ j (h : j < zs.length), (w1.alloc (.cells #[.int .i64 L] 3)).cell? ⟨b, off + j, none⟩ = some (.int .u8 zs[j]) := fun j hj => (World.cell?_of_block (a := ⟨b, off + j, none⟩) (Below.heap_alloc w1 _ b hbl)).trans (hcell j hj)
    have HZ : Hid (Calls Try.prog 17 #[.slice (some ⟨b, off, none⟩) n c1, .int .i64 iN, .pointer (some ⟨w1.heap.size, 0, none⟩)] (w1.alloc (.cells #[.int .i64 L] 3)) fun e w' => FRet w1.heap.size zs iN L (w1.alloc (.cells #[.int .i64 L] 3)) e w') :=
      zflat_in b off n c1 iN w1.heap.size L zs _ HI1.out.1 (by omega) hin HI1.out.2.2.1 hcell2 hbl CQ.out FQ.out HLw.out
    have HC2 : Hid (∀ j (h : j < zs.length), (w1.alloc (.cells #[.int .i64 L] 3)).cell? ⟨b, off + j, none⟩ = some (.int .u8 zs[j])) := hcell2
    clear hcell hcell2
    go_wp2_with fail
    refine HZ.out.mono ?_
    rintro e w2 ⟨m, ok, rfl, hF, hr⟩
    obtain ⟨c2, f2, hbel2, hsp⟩ := hF
    have hl : zs.length = n := HI1.out.1
    have HC3 : Hid (∀ j (h : j < zs.length), w2.cell? ⟨b, off + j, none⟩ = some (.int .u8 zs[j])) := fun j hj => (hbel2.cell (p := ⟨b, off + j, none⟩) hbl).trans (HC2.out j hj)
    have HL3 : Hid (Below w.heap.size w w2) := HL2.out.trans (hbel2.mono hwq)
    have HSP : Hid (∀ k, k < m → isSp (zs.getD (iN + k) 0) = true) := hsp
    have hjn : iN + m ≤ n := by rcases hr with ⟨h, _⟩ | ⟨h, _⟩ <;> omega
    have hcm := cnt_le zs iN m
    have c2' : w2.cell? ⟨w1.heap.size, 0, none⟩ = some (.int .i64 (wrap64 (L + (cnt zs iN m : Nat)))) := c2
    clear c2 f2 hbel2 hsp HZ HC2 HL2 CQ FQ hpc1
    obtain ⟨j, hj⟩ : ∃ j, j = iN + m := ⟨_, rfl⟩
    have HJ : Hid (j = iN + m) := hj
    rw [← hj] at hjn hr ⊢
    have hij : iN ≤ j := by omega
    have HR : Hid ((j = zs.length ∧ ok = false) ∨ (j < zs.length ∧ ok = true ∧ isSp (zs.getD j 0) = false)) := hr
    obtain ⟨q, hq⟩ : ∃ q, q = w1.heap.size := ⟨_, rfl⟩
    rw [← hq] at c2' ⊢
    clear hj hr hq
    have hji1 : ¬ (j : Int) < (iN : Int) := by omega
    have hji2 : ¬ (n : Int) < (j : Int) := by omega
    have hji3 : decide ((j : Int) < (iN : Int)) = false := decide_eq_false hji1
    have hji4 : decide ((n : Int) < (j : Int)) = false := decide_eq_false hji2
    have d1 : decide (n ≤ iN) = false := decide_eq_false (by omega)
    have d2 : decide (j < iN) = false := decide_eq_false (by omega)
    have d3 : decide (n < j) = false := decide_eq_false (by omega)
    have d4 : ¬ n ≤ iN := by omega
    have d5 : ¬ j < iN := by omega
    have d6 : ¬ n < j := by omega
    go_wp2_with fail
    go_loop [11, 12] (fun v11 v12 => ∃ t : Nat, t ≤ m ∧ v12 = .int .i64 ((iN + t : Nat) : Int) ∧ v11 = .int .i64 (cnt zs iN t : Nat)) (fun _ v12 => j - (intOf v12).toNat)
    case atStart => exact ⟨0, Nat.zero_le _, rfl, rfl⟩
    case round =>
      obtain ⟨t, ht, rfl, rfl⟩ := hrel
      have hct := cnt_le zs iN t
      have hmj := HJ.out
      obtain ⟨k, hk⟩ : ∃ k, k = iN + t := ⟨_, rfl⟩
      have HK : Hid (k = iN + t) := hk
      rw [← hk]
      have hktm : t < m ↔ k < j := by omega
      have hkb : k ≤ 1048576 := by omega
      have htb : t ≤ 1048576 := by omega
      have HMJ : Hid (j = iN + m) := hmj
      clear hk hmj
      by_cases hlt : k < j
      · have htm : t < m := hktm.2 hlt
        have hkl : k < zs.length := by omega
        have hcl := HC3.out k hkl
        have hgd : zs.getD (iN + t) 0 = zs[k] := by rw [← HK.out, List.getD, List.getElem?_eq_getElem hkl]; rfl
        have hs := HSP.out t htm
        rw [hgd] at hs
        have isp := isSpace_any zs[k] w2
        rw [hs] at isp
        have HIS : Hid (Calls Try.prog 18 #[.int .u8 zs[k]] w2 fun e w' => e = .returned (.bool true) ∧ w' = w2) := isp
        have HCN : Hid (cnt zs iN (t + 1) = cnt zs iN t + if zs[k] = 10 then 1 else 0) := by rw [cnt, hgd]; exact rfl
        obtain ⟨z, hz⟩ : ∃ z, z = zs[k] := ⟨_, rfl⟩
        rw [← hz] at hcl HIS HCN
        have hki : (k : Int) < (n : Int) := by omega
        have hkj : (k : Int) < (j : Int) := by omega
        obtain ⟨C, hC⟩ : ∃ C, C = cnt zs iN t := ⟨_, rfl⟩
        rw [← hC] at hct HCN ⊢
        clear hz hgd hs isp hC hktm
        by_cases h10 : z = 10
        · have HCN2 : Hid (cnt zs iN (t + 1) = C + 1) := by have := HCN.out; rw [if_pos h10] at this; exact this
          subst h10
          go_wp2_with fail
          refine HIS.out.mono ?_
          rintro e w' ⟨rfl, hw⟩
          have hw2 := hw.symm
          subst hw2
          go_wp2_with fail
          go_round
          case rel => exact ⟨t + 1, by omega, by rw [HK.out]; go_num, by rw [HCN2.out]; go_num⟩
          case measure => simp [intOf]; omega
        · have HCN2 : Hid (cnt zs iN (t + 1) = C) := by have := HCN.out; rw [if_neg h10] at this; exact this
          have b10 : (z == 10) = false := beq_eq_false_iff_ne.2 h10
          clear h10
          go_wp2_with fail
          refine HIS.out.mono ?_
          rintro e w' ⟨rfl, hw⟩
          have hw2 := hw.symm
          subst hw2
          go_wp2_with fail
          go_round
          case rel => exact ⟨t + 1, by omega, by rw [HK.out]; go_num, by rw [HCN2.out]⟩
          case measure => simp [intOf]; omega
      · have htm : t = m := by have := HMJ.out; have := HK.out; omega
        subst htm
        have hkj : ¬ (k : Int) < (j : Int) := by omega
        obtain ⟨C, hC⟩ : ∃ C, C = cnt zs iN t := ⟨_, rfl⟩
        rw [← hC] at hct c2' ⊢
        clear hC hktm hcm
        rcases HR.out with ⟨hjl, rfl⟩ | ⟨hjl, rfl, hns⟩
        · have hjl2 : ((j : Int) == (n : Int)) = true := by rw [hjl, hl]; simp
          clear hjl
          go_wp2_with fail
          go_ret
          exact ⟨rfl, HL3.out⟩
        · have hjl2 : ((j : Int) == (n : Int)) = false := beq_eq_false_iff_ne.2 (by omega)
          have hcl := HC3.out j hjl
          have hgd : zs.getD j 0 = zs[j] := by rw [List.getD, List.getElem?_eq_getElem hjl]; rfl
          rw [hgd] at hns
          have isp := isSpace_any zs[j] w2
          rw [hns] at isp
          have HIS : Hid (Calls Try.prog 18 #[.int .u8 zs[j]] w2 fun e w' => e = .returned (.bool false) ∧ w' = w2) := isp
          have hji : (j : Int) < (n : Int) := by omega
          obtain ⟨z, hz⟩ : ∃ z, z = zs[j] := ⟨_, rfl⟩
          rw [← hz] at hcl HIS
          clear hz hgd hns isp
          go_wp2_with fail
          refine HIS.out.mono ?_
          rintro e w' ⟨rfl, hw⟩
          have hw2 := hw.symm
          subst hw2
          go_wp2_with fail
          go_ret
          exact ⟨rfl, HL3.out⟩
  · have hini : (n : Int) ≤ (iN : Int) := by omega
    have HZ : Hid (Calls Try.prog 17 #[.slice a1 n c1, .int .i64 iN, .pointer (some ⟨w1.heap.size, 0, none⟩)] (w1.alloc (.cells #[.int .i64 L] 3)) fun e w' => e = .returned (.tuple #[.int .i64 (iN : Int), .bool false]) ∧ w' = w1.alloc (.cells #[.int .i64 L] 3)) :=
      zflat_out a1 n c1 iN _ _ hini
    go_wp2_with fail
    refine HZ.out.mono ?_
    rintro e w' ⟨rfl, rfl⟩
    go_wp2_with fail
    go_ret
    exact ⟨rfl, HL2.out⟩
end Go.Proofs.Qxb6602083a
