/-
  SEAT b6602083a: FnHex4MatchesTableModel: the walk.
-/
import Derived.Test.Qxb6602083aTable
import Derived.Laws.DeepBits32
namespace Go.Proofs.Qxb6602083a
open Go.ChangeShapes Go.WideShapes Go.ChangeAt Go.RowKit
set_option linter.unusedVariables false

/-- Some bool comes back. -/
def Boolish (e : Ending) : Prop := ∃ t : Bool, e = .returned (.bool t)

theorem bytes10_any (a : Option Addr) (n c : Nat) (w : World) (hn : n ≤ maxLen) :
    Calls Try.prog 10 #[.slice a n c] w fun e w' => Boolish e ∧ w' = w := by
  unfold maxLen at hn
  go_enter Try.func10, Try.ntmps10
  go_wp2
  all_goals (go_ret; exact ⟨⟨_, rfl⟩, rfl⟩)

/-- 'want' behind k rounds. -/
def W (v : Nat → Int) : Nat → Int
  | 0 => 0
  | 1 => v 0 * 4096
  | 2 => v 0 * 4096 + v 1 * 256
  | 3 => v 0 * 4096 + v 1 * 256 + v 2 * 16
  | _ => v 0 * 4096 + v 1 * 256 + v 2 * 16 + v 3
theorem W_R (v : Nat → Int) : R v 4 = W v 4 := by simp only [R, W]; omega

/-- An 'or' of numbers whose bits lie apart. -/
theorem or32 (s : Nat) (A b y : Int) (hy : y = A * ((2 ^ s : Nat) : Int)) (hA : 0 ≤ A) (hb0 : 0 ≤ b) (hb : b < ((2 ^ s : Nat) : Int)) (hbd : y + b < 2147483648) : bits .or .i32 y b = y + b := by
  obtain ⟨A', rfl⟩ := Int.eq_ofNat_of_zero_le hA
  obtain ⟨b', rfl⟩ := Int.eq_ofNat_of_zero_le hb0
  have hy2 : y = ((2 ^ s * A' : Nat) : Int) := by rw [hy, Int.natCast_mul, Int.mul_comm]
  rw [hy2] at hbd ⊢
  show IntKind.i32.wrap ((BitVec.ofInt 32 ((2 ^ s * A' : Nat) : Int) ||| BitVec.ofInt 32 (b' : Int)).toNat : Int) = _
  rw [BitVec.toNat_or, ofInt_u32 _ (by omega), ofInt_u32 b' (by omega), ← Nat.two_pow_add_eq_or_of_lt (by omega) A']
  rw [wrap_i32_small _ (by omega) (by omega)]
  omega

theorem or_step (v : Nat → Int) (hv : ∀ j, 0 ≤ v j ∧ v j ≤ 15) :
    bits .or .i32 (W v 0) (v 0 * 4096) = W v 1 ∧ bits .or .i32 (W v 1) (v 1 * 256) = W v 2 ∧ bits .or .i32 (W v 2) (v 2 * 16) = W v 3 ∧ bits .or .i32 (W v 3) (v 3) = W v 4 := by
  have h0 := hv 0; have h1 := hv 1; have h2 := hv 2; have h3 := hv 3
  refine ⟨?_, ?_, ?_, ?_⟩
  · rw [or32 16 0 (v 0 * 4096) (W v 0) (by simp [W]) (by omega) (by omega) (by simp; omega) (by simp only [W]; omega)]; simp only [W]; omega
  · rw [or32 12 (v 0) (v 1 * 256) (W v 1) (by simp [W]) (by omega) (by omega) (by simp; omega) (by simp only [W]; omega)]; simp only [W]
  · rw [or32 8 (v 0 * 16 + v 1) (v 2 * 16) (W v 2) (by simp [W]; omega) (by omega) (by omega) (by simp; omega) (by simp only [W]; omega)]; simp only [W]
  · rw [or32 4 (v 0 * 256 + v 1 * 16 + v 2) (v 3) (W v 3) (by simp [W]; omega) (by omega) (by omega) (by simp; omega) (by simp only [W]; omega)]; simp only [W]

theorem allD_succ {zs : List Int} {k : Nat} (h : allD zs k) (hk : k < zs.length) {v : Int} (hv : hexv zs[k] = some v) : allD zs (k + 1) := by
  intro j hj hjk
  by_cases e : j = k
  · subst e; rw [hv]; rfl
  · exact h j hj (by omega)

set_option maxRecDepth 100000 in
set_option maxHeartbeats 2000000 in
theorem table_walk (a : Option Addr) (n c : Nat) (zs : List Int) (w : World) (h : IsB w a n zs) :
    Calls Try.prog 3 #[.slice a n c] w fun e w' => e = .returned (.bool true) ∧ Below w.heap.size w w' := by
  have HI : Hid (IsB w a n zs) := h
  have hnm : n ≤ 9223372036854775807 := h.2.1
  clear h
  go_enter Try.func3, Try.ntmps3
  go_wp2_with fail
  refine (bytes10_any a n c w HI.out.2.1).mono ?_
  rintro e w' ⟨⟨t, rfl⟩, hw⟩
  have hw2 := hw.symm
  subst hw2
  cases t
  · go_wp2_with fail
    go_ret
    exact ⟨rfl, Below.refl _ _⟩
  by_cases hbig : 1048576 < n
  · go_wp2_with fail
    go_ret
    exact ⟨rfl, Below.refl _ _⟩
  go_wp2_with fail
  refine (clone_any a n c zs _ HI.out (by omega)).mono ?_
  rintro e w1 ⟨⟨a1, c1, rfl, hI1, hc1, hc2⟩, hb1⟩
  have HI1 : Hid (IsB w1 a1 n zs) := hI1
  have HL1 : Hid (Below w.heap.size w w1) := hb1
  clear hI1 hb1 HI
  by_cases h4 : n < 4
  · have h4i : (n : Int) < 4 := by omega
    go_wp2_with fail
    refine (zhex4_short a1 n c1 w1 h4).mono ?_
    rintro e w' ⟨rfl, hw⟩
    have hw2 := hw.symm
    subst hw2
    go_wp2_with fail
    go_ret
    exact ⟨rfl, HL1.out⟩
  · have h4i : ¬ (n : Int) < 4 := by omega
    go_wp2_with fail
    refine (zhex4_long a1 n c1 zs w1 HI1.out (by omega) hc1 (by omega)).mono ?_
    rintro e w' ⟨⟨r, ok, rfl, hr⟩, hw⟩
    have hw2 := hw.symm
    subst hw2
    obtain ⟨hl, hm, hz, hv⟩ := HI1.out
    obtain ⟨b, off, rfl, hbl, hcell⟩ := hv (by omega)
    have HCL : Hid (∀ i (h : i < zs.length), w1.cell? ⟨b, off + i, none⟩ = some (.int .u8 zs[i])) := hcell
    clear hcell hv hz
    have HR : Hid (hexOk zs r ok) := hr
    clear hr
    go_wp2_with fail
    go_loop [5, 6, 7, 8] (fun v5 v6 v7 v8 => ∃ k : Nat, k ≤ 4 ∧ v6 = .int .i64 k ∧ v5 = .int .i32 (W (vs zs) k) ∧ Hid (allD zs k)) (fun _ v6 _ _ => 4 - (intOf v6).toNat)
    case atStart => exact ⟨0, Nat.zero_le _, rfl, rfl, fun j _ hj => absurd hj (Nat.not_lt_zero _)⟩
    case round =>
      obtain ⟨k, hk, rfl, rfl, HA⟩ := hrel
      by_cases hlt : k < 4
      · have hkl : k < zs.length := by omega
        have hki : (k : Int) < (n : Int) := by omega
        have hcl := HCL.out k hkl
        have HT : Hid (Calls Try.prog 13 #[.int .u8 zs[k]] w1 fun e w' => TabRet zs[k] e ∧ w' = w1) := table_any zs[k] w1
        have HN : Hid (hexv zs[k] = none → ok = false ∧ r = 0) := fun hx => by
          rcases HR.out with ⟨_, hall, _⟩ | ⟨h1, h2, _⟩
          · have := hall k hkl hlt
            rw [hx] at this
            cases this
          · exact ⟨h1, h2⟩
        have HS : Hid (∀ v, hexv zs[k] = some v → vs zs k = v ∧ allD zs (k + 1)) := fun v hx => ⟨vs_some hkl hx, allD_succ HA.out hkl hx⟩
        obtain ⟨z, hzz⟩ : ∃ z, z = zs[k] := ⟨_, rfl⟩
        rw [← hzz] at hcl HT HN HS
        clear hzz
        have hv0 := vs_bd zs 0; have hv1 := vs_bd zs 1; have hv2 := vs_bd zs 2; have hv3 := vs_bd zs 3
        have hk4 : k = 0 ∨ k = 1 ∨ k = 2 ∨ k = 3 := by omega
        go_wp2_with fail
        refine HT.out.mono ?_
        rintro e w' ⟨⟨v, hxv, rfl⟩ | ⟨hxn, rfl⟩, hw⟩
        · have hw2 := hw.symm
          subst hw2
          have hvb := hexv_bd hxv
          have HX : Hid (hexv z = some v) := hxv
          clear hxv
          obtain ⟨hvv, hall⟩ := HS.out v HX.out
          have HVV : Hid (vs zs k = v) := hvv
          have HAL : Hid (allD zs (k + 1)) := hall
          clear hvv hall
          rcases hk4 with rfl | rfl | rfl | rfl
          · go_wp2_with fail
            go_round
            case rel => exact ⟨1, by omega, rfl, by rw [← HVV.out]; exact congrArg _ (or_step (vs zs) (vs_bd zs)).1, HAL.out⟩
            case measure => simp [intOf]
          · go_wp2_with fail
            go_round
            case rel => exact ⟨2, by omega, rfl, by rw [← HVV.out]; exact congrArg _ (or_step (vs zs) (vs_bd zs)).2.1, HAL.out⟩
            case measure => simp [intOf]
          · go_wp2_with fail
            go_round
            case rel => exact ⟨3, by omega, rfl, by rw [← HVV.out]; exact congrArg _ (or_step (vs zs) (vs_bd zs)).2.2.1, HAL.out⟩
            case measure => simp [intOf]
          · go_wp2_with fail
            go_round
            case rel => exact ⟨4, by omega, rfl, by rw [← HVV.out]; exact congrArg _ (or_step (vs zs) (vs_bd zs)).2.2.2, HAL.out⟩
            case measure => simp [intOf]
        · have hw2 := hw.symm
          subst hw2
          obtain ⟨rfl, rfl⟩ := HN.out hxn
          clear hxn
          go_wp2_with fail
          go_ret
          exact ⟨rfl, HL1.out⟩
      · have hk4 : k = 4 := by omega
        subst hk4
        rcases HR.out with ⟨rfl, _, rfl⟩ | ⟨_, _, j, hj, hj4, hjn⟩
        · rw [W_R]
          go_wp2_with fail
          go_ret
          exact ⟨rfl, HL1.out⟩
        · have := HA.out j hj hj4
          rw [hjn] at this
          cases this
end Go.Proofs.Qxb6602083a
