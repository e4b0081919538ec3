/-
  SEAT b6602083a: isJSONSpace, flatSpace, ZZFlatSpace.
-/
import Derived.Test.Qxb6602083aBase
namespace Go.Proofs.Qxb6602083a
open Go.ChangeShapes Go.WideShapes Go.ChangeAt Go.RowKit
set_option linter.unusedVariables false

/-- JSON's white space. -/
def isSp (c : Int) : Bool := c == 32 || c == 9 || c == 13 || c == 10
theorem isSp_yes {c : Int} (h : c = 32 ∨ c = 9 ∨ c = 13 ∨ c = 10) : isSp c = true := by
  rcases h with rfl | rfl | rfl | rfl <;> rfl
theorem isSp_no {c : Int} (h1 : c ≠ 32) (h2 : c ≠ 9) (h3 : c ≠ 13) (h4 : c ≠ 10) : isSp c = false := by
  simp [isSp, h1, h2, h3, h4]

set_option maxHeartbeats 1000000 in
theorem isSpace_any (c : Int) (w : World) : Calls Try.prog 18 #[.int .u8 c] w fun e w' => e = .returned (.bool (isSp c)) ∧ w' = w := by
  by_cases h1 : c = 32
  · subst h1
    go_enter Try.func18, Try.ntmps18
    go_wp2
    go_ret
    exact ⟨rfl, rfl⟩
  · by_cases h2 : c = 9
    · subst h2
      go_enter Try.func18, Try.ntmps18
      go_wp2
      go_ret
      exact ⟨rfl, rfl⟩
    · by_cases h3 : c = 13
      · subst h3
        go_enter Try.func18, Try.ntmps18
        go_wp2
        go_ret
        exact ⟨rfl, rfl⟩
      · by_cases h4 : c = 10
        · subst h4
          go_enter Try.func18, Try.ntmps18
          go_wp2
          go_ret
          exact ⟨rfl, rfl⟩
        · rw [isSp_no h1 h2 h3 h4]
          have b1 : (c == 32) = false := beq_eq_false_iff_ne.2 h1
          have b2 : (c == 9) = false := beq_eq_false_iff_ne.2 h2
          have b3 : (c == 13) = false := beq_eq_false_iff_ne.2 h3
          have b4 : (c == 10) = false := beq_eq_false_iff_ne.2 h4
          clear h1 h2 h3 h4
          go_enter Try.func18, Try.ntmps18
          go_wp2
          go_ret
          exact ⟨rfl, rfl⟩

/-- How many of zs[i], .., zs[i+m-1] are line feeds. -/
def cnt (zs : List Int) (i : Nat) : Nat → Nat
  | 0 => 0
  | m + 1 => cnt zs i m + (if zs.getD (i + m) 0 = 10 then 1 else 0)
theorem cnt_le (zs : List Int) (i m : Nat) : cnt zs i m ≤ m := by
  induction m with
  | zero => exact Nat.le_refl _
  | succ m ih => simp only [cnt]; split <;> omega

/-- The counter behind c line feeds. -/
def CV (L : Int) (c : Nat) : Int := wrap64 (L + c)
theorem CV_succ (L : Int) (c : Nat) : wrap64 (CV L c + 1) = CV L (c + 1) := by
  unfold CV wrap64; omega

/-- Where flatSpace stands behind m bytes of white space. -/
def FRel (q : Nat) (zs : List Int) (i : Nat) (L : Int) (w : World) (m : Nat) (wr : World) : Prop :=
  wr.cell? ⟨q, 0, none⟩ = some (.int .i64 (CV L (cnt zs i m))) ∧ wr.frozen? ⟨q, 0, none⟩ = false ∧ Below q w wr ∧ ∀ k, k < m → isSp (zs.getD (i + k) 0) = true

/-- What it answers. -/
def FRet (q : Nat) (zs : List Int) (i : Nat) (L : Int) (w : World) (e : Ending) (w' : World) : Prop :=
  ∃ m ok, e = .returned (.tuple #[.int .i64 ((i + m : Nat) : Int), .bool ok]) ∧ FRel q zs i L w m w' ∧ ((i + m = zs.length ∧ ok = false) ∨ (i + m < zs.length ∧ ok = true ∧ isSp (zs.getD (i + m) 0) = false))

theorem FRel.sp {q : Nat} {zs : List Int} {i : Nat} {L : Int} {w wr : World} {m : Nat} (h : FRel q zs i L w m wr) (hz : zs.getD (i + m) 0 ≠ 10) (hs : isSp (zs.getD (i + m) 0) = true) : FRel q zs i L w (m + 1) wr := by
  refine ⟨?_, h.2.1, h.2.2.1, fun k hk => ?_⟩
  · have : cnt zs i (m + 1) = cnt zs i m := by simp only [cnt]; rw [if_neg hz]; rfl
    rw [this]; exact h.1
  · by_cases e : k = m
    · subst e; exact hs
    · exact h.2.2.2 k (by omega)
theorem FRel.nl {q : Nat} {zs : List Int} {i : Nat} {L : Int} {w wr : World} {m : Nat} (h : FRel q zs i L w m wr) (hz : zs.getD (i + m) 0 = 10) : FRel q zs i L w (m + 1) (wr.setCell ⟨q, 0, none⟩ (.int .i64 (wrap64 (CV L (cnt zs i m) + 1)))) := by
  refine ⟨?_, ?_, h.2.2.1.setCell (p := ⟨q, 0, none⟩) (Nat.le_refl _) _, fun k hk => ?_⟩
  · have : cnt zs i (m + 1) = cnt zs i m + 1 := by simp only [cnt]; rw [if_pos hz]
    rw [this, ← CV_succ]
    exact World.cell?_setCell_same _ _ _ h.1
  · rw [World.frozen?_setCell]; exact h.2.1
  · by_cases e : k = m
    · subst e; rw [hz]; rfl
    · exact h.2.2.2 k (by omega)

theorem flat_out (a : Option Addr) (n c : Nat) (i : Int) (p : Option Addr) (w : World) (hi : (n : Int) ≤ i) :
    Calls Try.prog 27 #[.slice a n c, .int .i64 i, .pointer p] w fun e w' => e = .returned (.tuple #[.int .i64 i, .bool false]) ∧ w' = w := by
  have h : ¬ i < (n : Int) := by omega
  go_enter Try.func27, Try.ntmps27
  go_wp2
  refine wp_loop_rounds 1 ?_
  rw [rounds_succ]
  go_wp2
  go_ret2
  exact ⟨rfl, rfl⟩

set_option maxRecDepth 100000 in
set_option maxHeartbeats 2000000 in
theorem flat_in (b off n c i q : Nat) (L : Int) (zs : List Int) (w : World) (hl : zs.length = n) (hn : n ≤ 1048576) (hi : i < n) (hz : ∀ z ∈ zs, 0 ≤ z ∧ z ≤ 255) (hc : ∀ j (h : j < zs.length), w.cell? ⟨b, off + j, none⟩ = some (.int .u8 zs[j])) (hbq : b < q)
    (hq : w.cell? ⟨q, 0, none⟩ = some (.int .i64 L)) (hf : w.frozen? ⟨q, 0, none⟩ = false) (hL : wrap64 L = L) :
    Calls Try.prog 27 #[.slice (some ⟨b, off, none⟩) n c, .int .i64 i, .pointer (some ⟨q, 0, none⟩)] w fun e w' => FRet q zs i L w e w' := by
  have H0 : Hid (FRel q zs i L w 0 w) := ⟨by rw [hq]; show some (Value.int .i64 L) = some (.int .i64 (wrap64 (L + (0 : Nat)))); rw [Int.natCast_zero, Int.add_zero, hL], hf, Below.refl _ _, fun k hk => absurd hk (Nat.not_lt_zero _)⟩
  have HC : Hid (∀ j (h : j < zs.length), w.cell? ⟨b, off + j, none⟩ = some (.int .u8 zs[j])) := hc
  clear hc hq hf hL
  go_enter Try.func27, Try.ntmps27
  go_wp2_with fail
  go_loopw [1] (fun v1 wr => ∃ m : Nat, i + m ≤ n ∧ v1 = .int .i64 ((i + m : Nat) : Int) ∧ FRel q zs i L w m wr) (fun v1 _ => n - (intOf v1).toNat)
  case atStart => exact ⟨0, by omega, rfl, H0.out⟩
  case round =>
    obtain ⟨m, hm, rfl, hF⟩ := hrel
    have HF : Hid (FRel q zs i L w m wr) := hF
    clear H0
    obtain ⟨cq, fq, hbel, _⟩ := hF
    obtain ⟨k, hk⟩ : ∃ k, k = i + m := ⟨_, rfl⟩
    have HK : Hid (k = i + m) := hk
    rw [← hk] at hm ⊢
    clear hk
    by_cases hlt : k < n
    · have hkl : k < zs.length := by omega
      have hcl : wr.cell? ⟨b, off + k, none⟩ = some (.int .u8 zs[k]) := (hbel.cell (p := ⟨b, off + k, none⟩) hbq).trans (HC.out k hkl)
      have hgd : zs.getD (i + m) 0 = zs[k] := by rw [← HK.out, List.getD, List.getElem?_eq_getElem hkl]; rfl
      have hzk := hz zs[k] (List.getElem_mem _)
      have HSP : Hid (zs[k] ≠ 10 → isSp zs[k] = true → FRel q zs i L w (m + 1) wr) := by
        rw [← hgd]; exact fun h1 h2 => HF.out.sp h1 h2
      have HNL : Hid (zs[k] = 10 → FRel q zs i L w (m + 1) (wr.setCell ⟨q, 0, none⟩ (.int .i64 (wrap64 (CV L (cnt zs i m) + 1))))) := by
        rw [← hgd]; exact fun h1 => HF.out.nl h1
      have HNO : Hid (isSp zs[k] = false → ∀ e, e = .returned (.tuple #[.int .i64 (k : Int), .bool true]) → FRet q zs i L w e wr) := by
        rw [← hgd]
        intro h1 e he
        refine ⟨m, true, by rw [he, HK.out], HF.out, .inr ⟨by have := HK.out; omega, rfl, h1⟩⟩
      obtain ⟨z, hzz⟩ : ∃ z, z = zs[k] := ⟨_, rfl⟩
      obtain ⟨C, hC⟩ : ∃ C, C = CV L (cnt zs i m) := ⟨_, rfl⟩
      rw [← hzz] at hcl hzk HSP HNL HNO
      rw [← hC] at cq HNL
      have hki : (k : Int) < (n : Int) := by omega
      clear hzz hC hgd hz hbel
      by_cases h10 : z = 10
      · have H1 : Hid (FRel q zs i L w (m + 1) (wr.setCell ⟨q, 0, none⟩ (.int .i64 (wrap64 (C + 1))))) := HNL.out h10
        subst h10
        go_wp2_with fail
        go_roundw
        case rel => exact ⟨m + 1, by have := HK.out; omega, by rw [HK.out]; go_num, H1.out⟩
        case measure => simp [intOf]; omega
      · have b10 : (z == 10) = false := beq_eq_false_iff_ne.2 h10
        by_cases h32 : z = 32
        · have H1 : Hid (FRel q zs i L w (m + 1) wr) := HSP.out h10 (isSp_yes (.inl h32))
          clear b10
          subst h32
          go_wp2_with fail
          go_roundw
          case rel => exact ⟨m + 1, by have := HK.out; omega, by rw [HK.out]; go_num, H1.out⟩
          case measure => simp [intOf]; omega
        · have b32 : (z == 32) = false := beq_eq_false_iff_ne.2 h32
          by_cases h9 : z = 9
          · have H1 : Hid (FRel q zs i L w (m + 1) wr) := HSP.out h10 (isSp_yes (.inr (.inl h9)))
            clear b10 b32
            subst h9
            go_wp2_with fail
            go_roundw
            case rel => exact ⟨m + 1, by have := HK.out; omega, by rw [HK.out]; go_num, H1.out⟩
            case measure => simp [intOf]; omega
          · have b9 : (z == 9) = false := beq_eq_false_iff_ne.2 h9
            by_cases h13 : z = 13
            · have H1 : Hid (FRel q zs i L w (m + 1) wr) := HSP.out h10 (isSp_yes (.inr (.inr (.inl h13))))
              clear b10 b32 b9
              subst h13
              go_wp2_with fail
              go_roundw
              case rel => exact ⟨m + 1, by have := HK.out; omega, by rw [HK.out]; go_num, H1.out⟩
              case measure => simp [intOf]; omega
            · have b13 : (z == 13) = false := beq_eq_false_iff_ne.2 h13
              have H2 := HNO.out (isSp_no h32 h9 h13 h10)
              have H3 : Hid (∀ e, e = Ending.returned (.tuple #[.int .i64 (k : Int), .bool true]) → FRet q zs i L w e wr) := H2
              clear H2 h10 h32 h9 h13 HSP HNL HNO
              go_wp2_with fail
              go_ret2
              exact H3.out _ rfl
    · have hkn : k = n := by omega
      have H3 : Hid (∀ e, e = Ending.returned (.tuple #[.int .i64 (k : Int), .bool false]) → FRet q zs i L w e wr) := by
        intro e he
        exact ⟨m, false, by rw [he, HK.out], HF.out, .inl ⟨by have := HK.out; omega, rfl⟩⟩
      have hnk : ¬ (k : Int) < (n : Int) := by omega
      clear hkn
      go_wp2_with fail
      go_ret2
      exact H3.out _ rfl

theorem zflat_out (a : Option Addr) (n c : Nat) (i : Int) (p : Option Addr) (w : World) (hi : (n : Int) ≤ i) :
    Calls Try.prog 17 #[.slice a n c, .int .i64 i, .pointer p] w fun e w' => e = .returned (.tuple #[.int .i64 i, .bool false]) ∧ w' = w := by
  have HC : Hid (Calls Try.prog 27 #[.slice a n c, .int .i64 i, .pointer p] w fun e w' => e = .returned (.tuple #[.int .i64 i, .bool false]) ∧ w' = w) := flat_out a n c i p w hi
  clear hi
  go_enter Try.func17, Try.ntmps17
  go_wp2_with fail
  refine HC.out.mono ?_
  rintro e w' ⟨rfl, hw⟩
  have hw2 := hw.symm
  subst hw2
  go_wp2_with fail
  go_ret2
  exact ⟨rfl, rfl⟩

theorem zflat_in (b off n c i q : Nat) (L : Int) (zs : List Int) (w : World) (hl : zs.length = n) (hn : n ≤ 1048576) (hi : i < n) (hz : ∀ z ∈ zs, 0 ≤ z ∧ z ≤ 255) (hc : ∀ j (h : j < zs.length), w.cell? ⟨b, off + j, none⟩ = some (.int .u8 zs[j])) (hbq : b < q)
    (hq : w.cell? ⟨q, 0, none⟩ = some (.int .i64 L)) (hf : w.frozen? ⟨q, 0, none⟩ = false) (hL : wrap64 L = L) :
    Calls Try.prog 17 #[.slice (some ⟨b, off, none⟩) n c, .int .i64 i, .pointer (some ⟨q, 0, none⟩)] w fun e w' => FRet q zs i L w e w' := by
  have HC : Hid (Calls Try.prog 27 #[.slice (some ⟨b, off, none⟩) n c, .int .i64 i, .pointer (some ⟨q, 0, none⟩)] w fun e w' => FRet q zs i L w e w') := flat_in b off n c i q L zs w hl hn hi hz hc hbq hq hf hL
  clear hc hq hf hL hz
  go_enter Try.func17, Try.ntmps17
  go_wp2_with fail
  refine HC.out.mono ?_
  rintro e w' ⟨m, ok, rfl, hF, hr⟩
  have HF : Hid (FRel q zs i L w m w') := hF
  have HR : Hid ((i + m = zs.length ∧ ok = false) ∨ (i + m < zs.length ∧ ok = true ∧ isSp (zs.getD (i + m) 0) = false)) := hr
  clear hF hr
  obtain ⟨j, hj⟩ : ∃ j, j = i + m := ⟨_, rfl⟩
  have HJ : Hid (j = i + m) := hj
  rw [← hj]
  clear hj
  go_wp2_with fail
  go_ret2
  exact ⟨m, ok, by rw [← HJ.out]; rfl, HF.out, HR.out⟩
end Go.Proofs.Qxb6602083a
