/-
  SEAT b6602083a: column, ZZColumn.
-/
import Derived.Test.Qxb6602083aStrs
namespace Go.Proofs.Qxb6602083a
open Go.ChangeShapes Go.WideShapes Go.ChangeAt Go.RowKit
set_option linter.unusedVariables false

/-- Are two strings equal? As the walk asks it. -/
def eqs (a b : ByteArray) : Bool := a.toList == b.toList

/-- No string of the first k equals x. -/
def NoneOf (ss : List ByteArray) (x : ByteArray) (k : Nat) : Prop := ∀ j (h : j < ss.length), j < k → eqs ss[j] x = false

/-- What column answers. -/
def ColRet (ss : List ByteArray) (x : ByteArray) (e : Ending) : Prop :=
  (e = .returned (.int .i64 (-1)) ∧ NoneOf ss x ss.length) ∨
  ∃ (r : Nat) (h : r < ss.length), e = .returned (.int .i64 r) ∧ eqs ss[r] x = true ∧ NoneOf ss x r

theorem NoneOf.succ {ss : List ByteArray} {x : ByteArray} {k : Nat} (h : NoneOf ss x k) (hk : k < ss.length) (e : eqs ss[k] x = false) : NoneOf ss x (k + 1) := fun j hj hjk => by
  by_cases e1 : j = k
  · subst e1; exact e
  · exact h j hj (by omega)

set_option maxHeartbeats 1000000 in
theorem column_any (a : Option Addr) (n c : Nat) (ss : List ByteArray) (x : ByteArray) (w : World) (h : IsStrs w a n ss) :
    Calls Try.prog 28 #[.slice a n c, .string x] w fun e w' => ColRet ss x e ∧ w' = w := by
  obtain ⟨hl, hm, hsz, hv⟩ := h
  unfold maxLen at hm
  clear hsz
  go_enter Try.func28, Try.ntmps28
  go_wp2
  go_loop [9] (fun i => ∃ k : Nat, k ≤ n ∧ i = .int .i64 k ∧ Hid (NoneOf ss x k)) (fun i => n - (intOf i).toNat)
  case atStart => exact ⟨0, Nat.zero_le _, rfl, fun j h h0 => absurd h0 (by omega)⟩
  case round =>
    obtain ⟨k, hk, rfl, HN⟩ := hrel
    by_cases hlt : k < n
    · obtain ⟨b, off, rfl, hb, hc⟩ := hv (by omega)
      have hkl : k < ss.length := by omega
      have HY : Hid (eqs ss[k] x = true → ∀ e, e = .returned (.int .i64 (k : Int)) → ColRet ss x e) := fun h0 e he => .inr ⟨k, hkl, he, h0, HN.out⟩
      have HZ : Hid (eqs ss[k] x = false → NoneOf ss x (k + 1)) := fun h0 => HN.out.succ hkl h0
      obtain ⟨s, hs⟩ : ∃ s, s = ss[k] := ⟨_, rfl⟩
      have hcell : w.cell? ⟨b, off + k, none⟩ = some (.string s) := by rw [hs]; exact hc k hkl
      rw [← hs] at HY HZ
      clear hs hc hv HN
      obtain ⟨q, hq⟩ : ∃ q, q = eqs s x := ⟨_, rfl⟩
      rw [← hq] at HY HZ
      unfold eqs at hq
      have hq' := hq.symm
      cases q
      · clear HY hq
        go_wp2
        go_round
        case rel => exact ⟨k + 1, by omega, by go_num, HZ.out rfl⟩
        case measure => simp [intOf]; omega
      · clear HZ hq
        go_wp2
        go_ret
        exact ⟨HY.out trivial _ rfl, rfl⟩
    · have hkn : k = n := by omega
      subst hkn
      go_wp2
      go_ret
      exact ⟨.inl ⟨rfl, by rw [hl]; exact HN.out⟩, rfl⟩

theorem zcolumn_any (a : Option Addr) (n c : Nat) (ss : List ByteArray) (x : ByteArray) (w : World) (h : IsStrs w a n ss) :
    Calls Try.prog 24 #[.slice a n c, .string x] w fun e w' => ColRet ss x e ∧ w' = w := by
  have HC : Hid (Calls Try.prog 28 #[.slice a n c, .string x] w fun e w' => ColRet ss x e ∧ w' = w) := column_any a n c ss x w h
  clear h
  go_enter Try.func24, Try.ntmps24
  go_wp2_with fail
  refine HC.out.mono ?_
  rintro e w' ⟨hr, hw⟩
  have hw2 := hw.symm
  subst hw2
  rcases hr with ⟨rfl, hN⟩ | ⟨r, hrl, rfl, he, hN⟩
  · go_wp2_with fail
    go_ret
    exact ⟨.inl ⟨rfl, hN⟩, rfl⟩
  · go_wp2_with fail
    go_ret
    exact ⟨.inr ⟨r, hrl, rfl, he, hN⟩, rfl⟩
end Go.Proofs.Qxb6602083a
