/-
  SEAT b6602083a: hexValueByTable.
-/
import Derived.Test.Qxb6602083aHex
namespace Go.Proofs.Qxb6602083a
open Go.ChangeShapes Go.WideShapes Go.ChangeAt Go.RowKit
set_option linter.unusedVariables false

/-- The digits in the table's order. -/
def tbl (k : Nat) : Int := if k < 10 then 48 + k else if k < 16 then 87 + k else 49 + k

theorem tbl_hex (k : Nat) (h : k < 22) : hexv (tbl k) = some (if k < 16 then (k : Int) else (k : Int) - 6) := by
  unfold tbl hexv
  by_cases h1 : k < 10
  · rw [if_pos h1, if_pos (by omega), if_pos (by omega)]; congr 1; omega
  · by_cases h2 : k < 16
    · rw [if_neg h1, if_pos h2, if_neg (by omega), if_pos (by omega), if_pos h2]; congr 1; omega
    · rw [if_neg h1, if_neg h2, if_neg (by omega), if_neg (by omega), if_pos (by omega), if_neg h2]; congr 1; omega

theorem tbl_none (c : Int) (h : ∀ k, k < 22 → tbl k ≠ c) : hexv c = none := by
  unfold hexv
  rw [if_neg, if_neg, if_neg]
  · intro ⟨ha, hb⟩
    have := h (c - 49).toNat (by omega)
    unfold tbl at this
    rw [if_neg (by omega), if_neg (by omega)] at this
    omega
  · intro ⟨ha, hb⟩
    have := h (c - 87).toNat (by omega)
    unfold tbl at this
    rw [if_neg (by omega), if_pos (by omega)] at this
    omega
  · intro ⟨ha, hb⟩
    have := h (c - 48).toNat (by omega)
    unfold tbl at this
    rw [if_pos (by omega)] at this
    omega

/-- The table's bytes. -/
abbrev T : ByteArray := { data := #[48, 49, 50, 51, 52, 53, 54, 55, 56, 57, 97, 98, 99, 100, 101, 102, 65, 66, 67, 68, 69, 70] }
theorem T_size : T.size = 22 := by decide
theorem T_all : ∀ i : Fin 22, ((T[i.val]'(by rw [T_size]; exact i.isLt)).toNat : Int) = tbl i.val := by decide
theorem T_at (k : Nat) (h : k < T.size) : (T[k].toNat : Int) = tbl k := T_all ⟨k, by rw [T_size] at h; exact h⟩
theorem T_hit {k : Nat} (h : k < T.size) {c : Int} (hb : ((T[k].toNat : Int) == c) = true) : tbl k = c := by rw [← T_at k h]; exact eq_of_beq hb
theorem T_miss {k : Nat} (h : k < T.size) {c : Int} (hb : ((T[k].toNat : Int) == c) = false) : tbl k ≠ c := by rw [← T_at k h]; exact beq_eq_false_iff_ne.1 hb

def TabRet (c : Int) (e : Ending) : Prop := (∃ v, hexv c = some v ∧ e = .returned (.tuple #[.int .i32 v, .bool true])) ∨ (hexv c = none ∧ e = .returned (.tuple #[.int .i32 0, .bool false]))

set_option maxRecDepth 100000 in
set_option maxHeartbeats 1000000 in
theorem table_any (c : Int) (w : World) : Calls Try.prog 13 #[.int .u8 c] w fun e w' => TabRet c e ∧ w' = w := by
  go_enter Try.func13, Try.ntmps13
  go_wp2
  go_loop [4] (fun v4 => ∃ k : Nat, k ≤ 22 ∧ v4 = .int .i64 k ∧ Hid (∀ j, j < k → tbl j ≠ c)) (fun v4 => 22 - (intOf v4).toNat)
  case atStart => exact ⟨0, Nat.zero_le _, rfl, fun j hj => absurd hj (Nat.not_lt_zero _)⟩
  case round =>
    obtain ⟨k, hk, rfl, HN⟩ := hrel
    by_cases hlt : k < 22
    · have hki : (k : Int) < 22 := by omega
      have hT : k < T.size := by rw [T_size]; exact hlt
      go_wp2
      · go_ret2
        have e := T_hit hT (c := c) (by assumption)
        have h16 : k < 16 := by omega
        have hx := tbl_hex k hlt
        rw [e, if_pos h16] at hx
        exact ⟨.inl ⟨_, hx, rfl⟩, rfl⟩
      · go_ret2
        have e := T_hit hT (c := c) (by assumption)
        have h16 : ¬ k < 16 := by omega
        have hx := tbl_hex k hlt
        rw [e, if_neg h16] at hx
        exact ⟨.inl ⟨_, hx, rfl⟩, rfl⟩
      · have e := T_miss hT (c := c) (by assumption)
        go_round
        case rel =>
          refine ⟨k + 1, by omega, by go_num, fun j hj => ?_⟩
          by_cases ej : j = k
          · subst ej; exact e
          · exact HN.out j (by omega)
        case measure => simp [intOf]; omega
    · go_wp2
      go_ret2
      exact ⟨.inr ⟨tbl_none c fun j hj => HN.out j (by omega), rfl⟩, rfl⟩
end Go.Proofs.Qxb6602083a
