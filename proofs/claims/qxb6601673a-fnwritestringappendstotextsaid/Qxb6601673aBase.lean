/-
  SEAT b6601673a: shared views, and the walks of the small callees (zzSize, zzBytes).
-/
import Derived.Test.Qxb6601673aRows
import Derived.WalkKit
import Derived.ProofKit
namespace Go.Proofs.Qxb6601673a
open Go.ChangeShapes Go.WideShapes Go.ChangeAt Go.RowKit
set_option linter.unusedVariables false

/-- A slice of strings in memory, seen through its value's address and length: its strings 'ss'. -/
def IsStrs (w : World) (a : Option Addr) (n : Nat) (ss : List ByteArray) : Prop :=
  ss.length = n ∧ n ≤ maxLen ∧ (∀ s ∈ ss, s.size ≤ maxLen) ∧
  (0 < n → ∃ b off, a = some ⟨b, off, none⟩ ∧ b < w.heap.size ∧ ∀ i (h : i < ss.length), w.cell? ⟨b, off + i, none⟩ = some (.string ss[i]))

theorem IsStrs.below {w w' : World} {a : Option Addr} {n : Nat} {ss : List ByteArray} (h : IsStrs w a n ss) (hb : Below w.heap.size w w') : IsStrs w' a n ss := by
  obtain ⟨h1, h2, h3, h4⟩ := h
  refine ⟨h1, h2, h3, fun hn => ?_⟩
  obtain ⟨b, off, rfl, hlt, hc⟩ := h4 hn
  exact ⟨b, off, rfl, Nat.lt_of_lt_of_le hlt hb.size, fun i hi => (hb.cell (p := ⟨b, off + i, none⟩) hlt).trans (hc i hi)⟩

/-- The bytes of a list of strings, counted. -/
def tot : List ByteArray → Nat
  | [] => 0
  | s :: r => s.size + tot r

theorem tot_append (a b : List ByteArray) : tot (a ++ b) = tot a + tot b := by
  induction a with
  | nil => simp [tot]
  | cons s r ih => simp [tot, ih]; omega

theorem tot_take_succ (ss : List ByteArray) (k : Nat) (h : k < ss.length) : tot (ss.take (k + 1)) = tot (ss.take k) + ss[k].size := by
  rw [List.take_succ_eq_append_getElem h, tot_append]; simp [tot]

theorem tot_take_le (ss : List ByteArray) (k : Nat) : tot (ss.take k) ≤ tot ss := by
  have := tot_append (ss.take k) (ss.drop k)
  rw [List.take_append_drop] at this; omega

/-- Some bool comes back. -/
def Boolish (e : Ending) : Prop := ∃ t : Bool, e = .returned (.bool t)

theorem ret_int {k : IntKind} {a b : Int} (h : a = b) : Ending.returned (.int k a) = .returned (.int k b) := by rw [h]

set_option maxHeartbeats 400000 in
theorem size_any (a : Option Addr) (n c : Nat) (ss : List ByteArray) (w : World) (h : IsStrs w a n ss) :
    Calls Try.prog 9 #[.slice a n c] w fun e w' => (∃ t : Int, e = .returned (.int .i64 t) ∧ 0 ≤ t ∧ (1048576 < t ∧ t ≤ 4194304 ∨ t = 16 * n + tot ss ∧ t ≤ 1048576)) ∧ w' = w := by
  obtain ⟨hl, hm, hsz, hv⟩ := h
  unfold maxLen at hm hsz
  go_enter Try.func9, Try.ntmps9
  go_wp2
  go_loop [3, 4] (fun t i => ∃ k : Nat, k ≤ n ∧ i = .int .i64 k ∧ 16 * k + tot (ss.take k) ≤ 1048576 ∧ t = .int .i64 ((16 * k + tot (ss.take k) : Nat) : Int)) (fun _ i => n - (intOf i).toNat)
  case atStart => exact ⟨0, Nat.zero_le _, rfl, by simp [tot], by simp [tot]⟩
  case round =>
    obtain ⟨k, hk, rfl, hle, rfl⟩ := hrel
    by_cases hlt : k < n
    · obtain ⟨b, off, rfl, hb, hc⟩ := hv (by omega)
      have hkl : k < ss.length := by omega
      obtain ⟨s, hs⟩ : ∃ s, s = ss[k] := ⟨_, rfl⟩
      have hcell : w.cell? ⟨b, off + k, none⟩ = some (.string s) := by rw [hs]; exact hc k hkl
      have hsm : s.size ≤ 9223372036854775807 := by rw [hs]; exact hsz _ (List.getElem_mem _)
      have HT : Hid (tot (ss.take (k + 1)) = tot (ss.take k) + s.size) := by rw [hs]; exact tot_take_succ ss k hkl
      have HA : Hid (tot (ss.take (k + 1)) ≤ tot ss) := tot_take_le ss (k + 1)
      clear hs hc hv hsz
      go_wp2
      · go_ret
        exact ⟨⟨_, rfl, by omega, .inl (by omega)⟩, rfl⟩
      · go_ret
        exact ⟨⟨_, rfl, by omega, .inl (by omega)⟩, rfl⟩
      · go_round
        case rel => exact ⟨k + 1, by omega, by go_num, by have := HT.out; omega, by have := HT.out; rw [this]; go_num⟩
        case measure => simp [intOf]; omega
    · go_wp2
      go_ret
      have hkn : k = n := by omega
      subst hkn
      exact ⟨⟨_, rfl, by omega, .inr (by rw [List.take_of_length_le (by omega)] at hle ⊢; omega)⟩, rfl⟩

set_option maxHeartbeats 400000 in
theorem bytes17_any (a : Option Addr) (n c : Nat) (ss : List ByteArray) (w : World) (h : IsStrs w a n ss) :
    Calls Try.prog 17 #[.slice a n c] w fun e w' => Boolish e ∧ w' = w := by
  obtain ⟨hl, hm, hsz, hv⟩ := h
  unfold maxLen at hm hsz
  go_enter Try.func17, Try.ntmps17
  go_wp2
  · go_ret
    exact ⟨⟨_, rfl⟩, rfl⟩
  · go_loop [3, 4] (fun t i => ∃ (k : Nat) (q : Int), k ≤ n ∧ i = .int .i64 k ∧ 0 ≤ q ∧ q ≤ 1048576 ∧ t = .int .i64 q) (fun _ i => n - (intOf i).toNat)
    case atStart => exact ⟨0, n, Nat.zero_le _, rfl, by omega, by omega, by go_num⟩
    case round =>
      obtain ⟨k, q, hk, rfl, hq0, hq, rfl⟩ := hrel
      by_cases hlt : k < n
      · obtain ⟨b, off, rfl, hb, hc⟩ := hv (by omega)
        have hkl : k < ss.length := by omega
        obtain ⟨s, hs⟩ : ∃ s, s = ss[k] := ⟨_, rfl⟩
        have hcell : w.cell? ⟨b, off + k, none⟩ = some (.string s) := by rw [hs]; exact hc k hkl
        have hsm : s.size ≤ 9223372036854775807 := by rw [hs]; exact hsz _ (List.getElem_mem _)
        clear hs hc hv hsz
        go_wp2
        · go_ret
          exact ⟨⟨_, rfl⟩, rfl⟩
        · go_ret
          exact ⟨⟨_, rfl⟩, rfl⟩
        · go_round
          case rel => exact ⟨k + 1, _, by omega, by go_num, by omega, by assumption, rfl⟩
          case measure => simp [intOf]; omega
      · go_wp2
        go_ret
        exact ⟨⟨_, rfl⟩, rfl⟩


set_option maxHeartbeats 400000 in
theorem bytes22_any (a : Option Addr) (n c : Nat) (ss : List ByteArray) (w : World) (h : IsStrs w a n ss) :
    Calls Try.prog 22 #[.slice a n c] w fun e w' => Boolish e ∧ w' = w := by
  obtain ⟨hl, hm, hsz, hv⟩ := h
  unfold maxLen at hm hsz
  go_enter Try.func22, Try.ntmps22
  go_wp2
  · go_ret
    exact ⟨⟨_, rfl⟩, rfl⟩
  · go_loop [3, 4] (fun t i => ∃ (k : Nat) (q : Int), k ≤ n ∧ i = .int .i64 k ∧ 0 ≤ q ∧ q ≤ 1048576 ∧ t = .int .i64 q) (fun _ i => n - (intOf i).toNat)
    case atStart => exact ⟨0, n, Nat.zero_le _, rfl, by omega, by omega, by go_num⟩
    case round =>
      obtain ⟨k, q, hk, rfl, hq0, hq, rfl⟩ := hrel
      by_cases hlt : k < n
      · obtain ⟨b, off, rfl, hb, hc⟩ := hv (by omega)
        have hkl : k < ss.length := by omega
        obtain ⟨s, hs⟩ : ∃ s, s = ss[k] := ⟨_, rfl⟩
        have hcell : w.cell? ⟨b, off + k, none⟩ = some (.string s) := by rw [hs]; exact hc k hkl
        have hsm : s.size ≤ 9223372036854775807 := by rw [hs]; exact hsz _ (List.getElem_mem _)
        clear hs hc hv hsz
        go_wp2
        · go_ret
          exact ⟨⟨_, rfl⟩, rfl⟩
        · go_ret
          exact ⟨⟨_, rfl⟩, rfl⟩
        · go_round
          case rel => exact ⟨k + 1, _, by omega, by go_num, by omega, by assumption, rfl⟩
          case measure => simp [intOf]; omega
      · go_wp2
        go_ret
        exact ⟨⟨_, rfl⟩, rfl⟩


set_option maxHeartbeats 400000 in
theorem bytes8_any (a : Option Addr) (n c : Nat) (ss : List ByteArray) (x : ByteArray) (hx : x.size ≤ maxLen) (w : World) (h : IsStrs w a n ss) :
    Calls Try.prog 8 #[.slice a n c, .string x] w fun e w' => Boolish e ∧ w' = w := by
  obtain ⟨hl, hm, hsz, hv⟩ := h
  unfold maxLen at hm hsz hx
  go_enter Try.func8, Try.ntmps8
  go_wp2
  · go_ret
    exact ⟨⟨_, rfl⟩, rfl⟩
  · go_loop [5, 6] (fun t i => ∃ (k : Nat) (q : Int), k ≤ n ∧ i = .int .i64 k ∧ 0 ≤ q ∧ q ≤ 1048576 ∧ t = .int .i64 q) (fun _ i => n - (intOf i).toNat)
    case atStart => exact ⟨0, n, Nat.zero_le _, rfl, by omega, by omega, by go_num⟩
    case round =>
      obtain ⟨k, q, hk, rfl, hq0, hq, rfl⟩ := hrel
      by_cases hlt : k < n
      · obtain ⟨b, off, rfl, hb, hc⟩ := hv (by omega)
        have hkl : k < ss.length := by omega
        obtain ⟨s, hs⟩ : ∃ s, s = ss[k] := ⟨_, rfl⟩
        have hcell : w.cell? ⟨b, off + k, none⟩ = some (.string s) := by rw [hs]; exact hc k hkl
        have hsm : s.size ≤ 9223372036854775807 := by rw [hs]; exact hsz _ (List.getElem_mem _)
        clear hs hc hv hsz
        go_wp2
        · go_ret
          exact ⟨⟨_, rfl⟩, rfl⟩
        · go_ret
          exact ⟨⟨_, rfl⟩, rfl⟩
        · go_round
          case rel => exact ⟨k + 1, _, by omega, by go_num, by omega, by assumption, rfl⟩
          case measure => simp [intOf]; omega
      · go_wp2
        all_goals (go_ret; exact ⟨⟨_, rfl⟩, rfl⟩)

set_option maxHeartbeats 400000 in
theorem bytes24_any (a a' : Option Addr) (n c n' c' : Nat) (ss ss' : List ByteArray) (w : World) (h : IsStrs w a n ss) (h' : IsStrs w a' n' ss') :
    Calls Try.prog 24 #[.slice a n c, .slice a' n' c'] w fun e w' => Boolish e ∧ w' = w := by
  obtain ⟨hl, hm, hsz, hv⟩ := h
  obtain ⟨hl', hm', hsz', hv'⟩ := h'
  unfold maxLen at hm hsz hm' hsz'
  go_enter Try.func24, Try.ntmps24
  go_wp2
  · go_ret
    exact ⟨⟨_, rfl⟩, rfl⟩
  · go_loop [5, 6] (fun t i => ∃ (k : Nat) (q : Int), k ≤ n ∧ i = .int .i64 k ∧ 0 ≤ q ∧ q ≤ 1048576 ∧ t = .int .i64 q) (fun _ i => n - (intOf i).toNat)
    case atStart => exact ⟨0, n, Nat.zero_le _, rfl, by omega, by omega, by go_num⟩
    case round =>
      obtain ⟨k, q, hk, rfl, hq0, hq, rfl⟩ := hrel
      by_cases hlt : k < n
      · obtain ⟨b, off, rfl, hb, hc⟩ := hv (by omega)
        have hkl : k < ss.length := by omega
        obtain ⟨s, hs⟩ : ∃ s, s = ss[k] := ⟨_, rfl⟩
        have hcell : w.cell? ⟨b, off + k, none⟩ = some (.string s) := by rw [hs]; exact hc k hkl
        have hsm : s.size ≤ 9223372036854775807 := by rw [hs]; exact hsz _ (List.getElem_mem _)
        clear hs hc hv hsz
        go_wp2
        · go_ret
          exact ⟨⟨_, rfl⟩, rfl⟩
        · go_ret
          exact ⟨⟨_, rfl⟩, rfl⟩
        · go_round
          case rel => exact ⟨k + 1, _, by omega, by go_num, by omega, by assumption, rfl⟩
          case measure => simp [intOf]; omega
      · go_wp2
        · go_ret
          exact ⟨⟨_, rfl⟩, rfl⟩
        · go_ret
          exact ⟨⟨_, rfl⟩, rfl⟩
        · go_loop [5, 7] (fun t i => ∃ (k : Nat) (q : Int), k ≤ n' ∧ i = .int .i64 k ∧ 0 ≤ q ∧ q ≤ 1048576 ∧ t = .int .i64 q) (fun _ i => n' - (intOf i).toNat)
          case atStart => exact ⟨0, _, Nat.zero_le _, rfl, by omega, by assumption, rfl⟩
          case round =>
            obtain ⟨k, q, hk, rfl, hq0, hq, rfl⟩ := hrel
            by_cases hlt : k < n'
            · obtain ⟨b, off, rfl, hb, hc⟩ := hv' (by omega)
              have hkl : k < ss'.length := by omega
              obtain ⟨s, hs⟩ : ∃ s, s = ss'[k] := ⟨_, rfl⟩
              have hcell : w.cell? ⟨b, off + k, none⟩ = some (.string s) := by rw [hs]; exact hc k hkl
              have hsm : s.size ≤ 9223372036854775807 := by rw [hs]; exact hsz' _ (List.getElem_mem _)
              clear hs hc hv' hsz'
              go_wp2
              · go_ret
                exact ⟨⟨_, rfl⟩, rfl⟩
              · go_ret
                exact ⟨⟨_, rfl⟩, rfl⟩
              · go_round
                case rel => exact ⟨k + 1, _, by omega, by go_num, by omega, by assumption, rfl⟩
                case measure => simp [intOf]; omega
            · go_wp2
              go_ret
              exact ⟨⟨_, rfl⟩, rfl⟩
end Go.Proofs.Qxb6601673a
