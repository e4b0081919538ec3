/-
  SEAT b6602083a: hex4, ZZHex4, hexValueByTable.
-/
import Derived.Test.Qxb6602083aBase
namespace Go.Proofs.Qxb6602083a
open Go.ChangeShapes Go.WideShapes Go.ChangeAt Go.RowKit
set_option linter.unusedVariables false

/-- The value of a hexadecimal digit. -/
def hexv (z : Int) : Option Int :=
  if 48 ≤ z ∧ z ≤ 57 then some (z - 48) else if 97 ≤ z ∧ z ≤ 102 then some (z - 87) else if 65 ≤ z ∧ z ≤ 70 then some (z - 55) else none

theorem hexv_bd {z v : Int} (h : hexv z = some v) : 0 ≤ v ∧ v ≤ 15 := by
  unfold hexv at h
  split at h
  · injection h; omega
  · split at h
    · injection h; omega
    · split at h
      · injection h; omega
      · cases h

/-- The digits read so far. -/
def R (v : Nat → Int) : Nat → Int
  | 0 => 0
  | k + 1 => R v k * 16 + v k

theorem R_bd {v : Nat → Int} (hv : ∀ j, 0 ≤ v j ∧ v j ≤ 15) (k : Nat) (hk : k ≤ 4) : 0 ≤ R v k ∧ R v k ≤ 65535 := by
  have h0 := hv 0; have h1 := hv 1; have h2 := hv 2; have h3 := hv 3
  have h : k = 0 ∨ k = 1 ∨ k = 2 ∨ k = 3 ∨ k = 4 := by omega
  rcases h with rfl | rfl | rfl | rfl | rfl <;> simp only [R] <;> omega

/-- The value of digit j, 0 where it is none. -/
def vs (zs : List Int) (j : Nat) : Int := (hexv (zs.getD j 0)).getD 0
theorem vs_bd (zs : List Int) (j : Nat) : 0 ≤ vs zs j ∧ vs zs j ≤ 15 := by
  unfold vs
  cases h : hexv (zs.getD j 0) with
  | none => simp
  | some v => have := hexv_bd h; simpa using this
theorem vs_some {zs : List Int} {j : Nat} (hj : j < zs.length) {v : Int} (h : hexv zs[j] = some v) : vs zs j = v := by
  unfold vs
  rw [List.getD, List.getElem?_eq_getElem hj]
  simp [h]

/-- The first k are digits. -/
def allD (zs : List Int) (k : Nat) : Prop := ∀ j (h : j < zs.length), j < k → (hexv zs[j]).isSome = true

/-- What hex4 answers, the text at least four bytes long. -/
def hexOk (zs : List Int) (r : Int) (ok : Bool) : Prop := (ok = true ∧ allD zs 4 ∧ r = R (vs zs) 4) ∨ (ok = false ∧ r = 0 ∧ ∃ j, ∃ h : j < zs.length, j < 4 ∧ hexv zs[j] = none)

def HexRet (zs : List Int) (e : Ending) : Prop := ∃ r ok, e = .returned (.tuple #[.int .i32 r, .bool ok]) ∧ hexOk zs r ok

set_option maxRecDepth 100000 in
set_option maxHeartbeats 1000000 in
theorem hex4_short (a : Option Addr) (n c : Nat) (w : World) (hn : n < 4) :
    Calls Try.prog 26 #[.slice a n c] w fun e w' => e = .returned (.tuple #[.int .i32 0, .bool false]) ∧ w' = w := by
  have hi : (n : Int) < 4 := by omega
  go_enter Try.func26, Try.ntmps26
  go_wp2
  go_ret2
  exact ⟨rfl, rfl⟩

set_option maxRecDepth 100000 in
set_option maxHeartbeats 2000000 in
theorem hex4_long (a : Option Addr) (n c : Nat) (zs : List Int) (w : World) (h : IsB w a n zs) (hn : 4 ≤ n) (hc : n ≤ c) (hc2 : c ≤ 2097152) :
    Calls Try.prog 26 #[.slice a n c] w fun e w' => HexRet zs e ∧ w' = w := by
  obtain ⟨hl, hm, hz, hv⟩ := h
  obtain ⟨b, off, rfl, hbl, hcell⟩ := hv (by omega)
  have h4 : ¬ (n : Int) < 4 := by omega
  have h4c : (4 : Int) ≤ (c : Int) := by omega
  go_enter Try.func26, Try.ntmps26
  go_wp2
  go_loop [4, 6, 13] (fun v4 v6 v13 => ∃ k : Nat, k ≤ 4 ∧ v13 = .int .i64 k ∧ v4 = .int .i32 (R (vs zs) k) ∧ allD zs k) (fun _ _ v13 => 4 - (intOf v13).toNat)
  case atStart => exact ⟨0, Nat.zero_le _, rfl, rfl, fun j _ hj => absurd hj (Nat.not_lt_zero _)⟩
  case round =>
    obtain ⟨k, hk, rfl, rfl, hall⟩ := hrel
    have hR := R_bd (vs_bd zs) k hk
    have HA : Hid (allD zs k) := hall
    clear hall
    by_cases hlt : k < 4
    · have hkl : k < zs.length := by omega
      have hki : (k : Int) < 4 := by omega
      have hzk := hz zs[k] (List.getElem_mem _)
      have hcl : w.cell? ⟨b, off + k, none⟩ = some (.int .u8 zs[k]) := hcell k hkl
      have HS : Hid (∀ v, hexv zs[k] = some v → R (vs zs) (k + 1) = R (vs zs) k * 16 + v ∧ allD zs (k + 1)) := by
        intro v hv
        refine ⟨by rw [R, vs_some hkl hv], fun j hj hjk => ?_⟩
        by_cases e : j = k
        · subst e; rw [hv]; rfl
        · exact HA.out j hj (by omega)
      have HN : Hid (hexv zs[k] = none → hexOk zs 0 false) := fun hv => .inr ⟨rfl, rfl, k, hkl, hlt, hv⟩
      obtain ⟨z, hzz⟩ : ∃ z, z = zs[k] := ⟨_, rfl⟩
      rw [← hzz] at hzk hcl HS HN
      obtain ⟨Rk, hRk⟩ : ∃ Rk, Rk = R (vs zs) k := ⟨_, rfl⟩
      rw [← hRk] at hR HS ⊢
      clear hzz hRk hcell hz
      by_cases h1 : 48 ≤ z ∧ z ≤ 57
      · have HV : Hid (hexv z = some (z - 48)) := by unfold hexv; rw [if_pos h1]; rfl
        obtain ⟨h1a, h1b⟩ := h1
        go_wp2
        go_round
        case rel => exact ⟨k + 1, by omega, by go_num, by rw [(HS.out _ HV.out).1], (HS.out _ HV.out).2⟩
        case measure => simp [intOf]; omega
      · by_cases h2 : 97 ≤ z ∧ z ≤ 102
        · have HV : Hid (hexv z = some (z - 87)) := by unfold hexv; rw [if_neg h1, if_pos h2]; rfl
          obtain ⟨h2a, h2b⟩ := h2
          have h1c : ¬ z ≤ 57 := by omega
          clear h1
          go_wp2
          go_round
          case rel => exact ⟨k + 1, by omega, by go_num, by rw [(HS.out _ HV.out).1], (HS.out _ HV.out).2⟩
          case measure => simp [intOf]; omega
        · by_cases h3 : 65 ≤ z ∧ z ≤ 70
          · have HV : Hid (hexv z = some (z - 55)) := by unfold hexv; rw [if_neg h1, if_neg h2, if_pos h3]; rfl
            obtain ⟨h3a, h3b⟩ := h3
            have h1c : ¬ z ≤ 57 := by omega
            have h2c : ¬ 97 ≤ z := by omega
            clear h1 h2
            go_wp2
            go_round
            case rel => exact ⟨k + 1, by omega, by go_num, by rw [(HS.out _ HV.out).1], (HS.out _ HV.out).2⟩
            case measure => simp [intOf]; omega
          · have HV : Hid (hexv z = none) := by unfold hexv; rw [if_neg h1, if_neg h2, if_neg h3]; rfl
            have HN2 : Hid (hexOk zs 0 false) := HN.out HV.out
            have h123 : z < 48 ∨ (57 < z ∧ z < 65) ∨ (70 < z ∧ z < 97) ∨ 102 < z := by omega
            clear h1 h2 h3
            rcases h123 with h | ⟨ha, hb⟩ | ⟨ha, hb⟩ | h
            all_goals
              go_wp2
              go_ret2
              exact ⟨⟨_, _, rfl, HN2.out⟩, rfl⟩
    · go_wp2
      go_ret2
      have hk4 : k = 4 := by omega
      subst hk4
      exact ⟨⟨_, _, rfl, .inl ⟨rfl, HA.out, rfl⟩⟩, rfl⟩

/-- The law's own getter. -/
theorem zhex4_short (a : Option Addr) (n c : Nat) (w : World) (hn : n < 4) :
    Calls Try.prog 12 #[.slice a n c] w fun e w' => e = .returned (.tuple #[.int .i32 0, .bool false]) ∧ w' = w := by
  have HC : Hid (Calls Try.prog 26 #[.slice a n c] w fun e w' => e = .returned (.tuple #[.int .i32 0, .bool false]) ∧ w' = w) := hex4_short a n c w hn
  go_enter Try.func12, Try.ntmps12
  go_wp2_with fail
  refine HC.out.mono ?_
  rintro e w' ⟨rfl, hw⟩
  have hw2 := hw.symm
  subst hw2
  go_wp2_with fail
  go_ret2
  exact ⟨rfl, rfl⟩

theorem zhex4_long (a : Option Addr) (n c : Nat) (zs : List Int) (w : World) (h : IsB w a n zs) (hn : 4 ≤ n) (hc : n ≤ c) (hc2 : c ≤ 2097152) :
    Calls Try.prog 12 #[.slice a n c] w fun e w' => HexRet zs e ∧ w' = w := by
  have HC : Hid (Calls Try.prog 26 #[.slice a n c] w fun e w' => HexRet zs e ∧ w' = w) := hex4_long a n c zs w h hn hc hc2
  clear h
  go_enter Try.func12, Try.ntmps12
  go_wp2_with fail
  refine HC.out.mono ?_
  rintro e w' ⟨⟨r, ok, rfl, hr⟩, hw⟩
  have hw2 := hw.symm
  subst hw2
  have HR : Hid (hexOk zs r ok) := hr
  clear hr
  go_wp2_with fail
  go_ret2
  exact ⟨⟨r, ok, rfl, HR.out⟩, rfl⟩
end Go.Proofs.Qxb6602083a
