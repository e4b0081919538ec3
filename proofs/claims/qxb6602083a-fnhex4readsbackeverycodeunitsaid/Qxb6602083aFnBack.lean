/-
  SEAT b6602083a: FnHex4ReadsBackEveryCodeUnit: the walk.
-/
import Derived.Test.Qxb6602083aHex
namespace Go.Proofs.Qxb6602083a
open Go.ChangeShapes Go.WideShapes Go.ChangeAt Go.RowKit
set_option linter.unusedVariables false

/-- Some bool comes back. -/
def Boolish2 (e : Ending) : Prop := ∃ t : Bool, e = .returned (.bool t)

theorem bytes14_any (u m : Int) (a : Option Addr) (n c : Nat) (w : World) (hn : n ≤ maxLen) :
    Calls Try.prog 14 #[.int .u16 u, .int .u8 m, .slice a n c] w fun e w' => Boolish2 e ∧ w' = w := by
  unfold maxLen at hn
  go_enter Try.func14, Try.ntmps14
  go_wp2
  all_goals (go_ret; exact ⟨⟨_, rfl⟩, rfl⟩)

theorem ret_int {k : IntKind} {a b : Int} (h : a = b) : Ending.returned (.int k a) = .returned (.int k b) := by rw [h]

/-- A digit, written. -/
def hd (d : Int) (up : Bool) : Int := if d < 10 then 48 + d else if up then 55 + d else 87 + d
theorem hd_hex (d : Int) (up : Bool) (h0 : 0 ≤ d) (h1 : d ≤ 15) : hexv (hd d up) = some d ∧ 0 ≤ hd d up ∧ hd d up ≤ 255 := by
  unfold hd hexv
  by_cases h : d < 10
  · rw [if_pos h, if_pos (by omega)]; exact ⟨by congr 1; omega, by omega, by omega⟩
  · cases up
    · rw [if_neg h]
      simp only [Bool.false_eq_true, if_false]
      rw [if_neg (by omega), if_pos (by omega)]; exact ⟨by congr 1; omega, by omega, by omega⟩
    · rw [if_neg h]
      simp only [if_true]
      rw [if_neg (by omega), if_neg (by omega), if_pos (by omega)]; exact ⟨by congr 1; omega, by omega, by omega⟩

theorem digit_any (d : Int) (up : Bool) (w : World) (h0 : 0 ≤ d) (h1 : d ≤ 15) :
    Calls Try.prog 15 #[.int .u16 d, .bool up] w fun e w' => e = .returned (.int .u8 (hd d up)) ∧ w' = w := by
  by_cases h : d < 10
  · have e : hd d up = 48 + d := by unfold hd; rw [if_pos h]
    rw [e]
    go_enter Try.func15, Try.ntmps15
    go_wp2
    go_ret
    exact ⟨rfl, rfl⟩
  · cases up
    · have e : hd d false = 87 + d := by unfold hd; rw [if_neg h]; rfl
      rw [e]
      clear e
      go_enter Try.func15, Try.ntmps15
      go_wp2
      go_ret
      exact ⟨ret_int (a := 97 + d - 10) (by omega), rfl⟩
    · have e : hd d true = 55 + d := by unfold hd; rw [if_neg h]; rfl
      rw [e]
      clear e
      go_enter Try.func15, Try.ntmps15
      go_wp2
      go_ret
      exact ⟨ret_int (a := 65 + d - 10) (by omega), rfl⟩

/-- A row filled as far as 'pre'. -/
def fl (pre : List Int) (N : Nat) : List Value := pre.map (Value.int .u8) ++ List.replicate (N - pre.length) (.int .u8 0)
theorem fl_set (pre : List Int) (N : Nat) (z : Int) (h : pre.length < N) : (fl pre N).set pre.length (.int .u8 z) = fl (pre ++ [z]) N := by
  unfold fl
  obtain ⟨m, hm⟩ : ∃ m, N - pre.length = m + 1 := ⟨N - pre.length - 1, by omega⟩
  rw [List.set_append, if_neg (by simp), List.length_map, Nat.sub_self, hm, List.replicate_succ]
  have e : N - (pre ++ [z]).length = m := by simp; omega
  rw [e]
  simp

/-- The text being laid in block g. -/
def Fill (g N : Nat) (w1 : World) (pre : List Int) (wr : World) : Prop :=
  wr.ownsRow g 5 1 (.slice (some ⟨g, 0, none⟩) N N) N (fl pre N) ∧ Below g w1 wr
theorem Fill.step {g N : Nat} {w1 wr : World} {pre : List Int} (h : Fill g N w1 pre wr) (z : Int) (hN : pre.length < N) : Fill g N w1 (pre ++ [z]) (wr.setCell ⟨g, pre.length, none⟩ (.int .u8 z)) := by
  refine ⟨?_, h.2.setCell (p := ⟨g, pre.length, none⟩) (Nat.le_refl _) _⟩
  rw [← fl_set pre N z hN]
  exact (h.1.stored pre.length _).1
theorem Fill.at {g N : Nat} {w1 wr : World} {pre : List Int} (h : Fill g N w1 pre wr) (hN : pre.length < N) : (∃ u, wr.cell? ⟨g, pre.length, none⟩ = some u) ∧ wr.frozen? ⟨g, pre.length, none⟩ = false := by
  refine ⟨⟨(fl pre N)[pre.length]'(by have := h.1.1; omega), ?_⟩, h.1.frozenAt _⟩
  rw [h.1.cellAt _ (by omega)]
  exact List.getElem?_eq_getElem _

theorem and15 (x : Int) (h0 : 0 ≤ x) (h1 : x < 65536) : bits .and .u16 x 15 = x % 16 := by
  obtain ⟨x', rfl⟩ := Int.eq_ofNat_of_zero_le h0
  have h := u16_and_nat x' 15 (by omega) (by omega)
  have e : x' &&& 15 = x' % 16 := Nat.and_two_pow_sub_one_eq_mod x' 4
  rw [e] at h
  exact h

/-- The k-th hexadecimal digit of u. -/
def dig (u : Int) : Nat → Int
  | 0 => u / 4096 % 16
  | 1 => u / 256 % 16
  | 2 => u / 16 % 16
  | _ => u % 16
theorem dig_bd (u : Int) (k : Nat) : 0 ≤ dig u k ∧ dig u k ≤ 15 := by
  unfold dig
  split <;> omega

/-- The digits written so far. -/
def Digs (u : Int) (ds : List Int) : Prop := ∀ j (h : j < ds.length), hexv ds[j] = some (dig u j) ∧ 0 ≤ ds[j] ∧ ds[j] ≤ 255
theorem Digs.snoc {u : Int} {ds : List Int} (h : Digs u ds) (up : Bool) : Digs u (ds ++ [hd (dig u ds.length) up]) := by
  intro j hj
  by_cases e : j < ds.length
  · rw [List.getElem_append_left e]; exact h j e
  · have ej : j = ds.length := by simp at hj; omega
    subst ej
    have hb := dig_bd u ds.length
    simp only [List.getElem_concat_length]
    exact hd_hex _ up hb.1 hb.2

theorem back_plain {u : Int} {ds zs : List Int} (hu0 : 0 ≤ u) (hu1 : u ≤ 65535) (hd : Digs u ds) (hl : ds.length = 4) {r : Int} {ok : Bool} (h : hexOk (ds ++ zs) r ok) : ok = true ∧ r = u := by
  have at_j : ∀ j (h : j < ds.length), hexv ((ds ++ zs)[j]'(by simp; omega)) = some (dig u j) := fun j hj => by
    rw [List.getElem_append_left hj]; exact (hd j hj).1
  rcases h with ⟨h1, _, h3⟩ | ⟨_, _, j, hj, hj4, hn⟩
  · refine ⟨h1, ?_⟩
    have e : ∀ j, j < 4 → vs (ds ++ zs) j = dig u j := fun j hj => vs_some (by simp; omega) (at_j j (by omega))
    rw [h3]
    simp only [R]
    rw [e 0 (by omega), e 1 (by omega), e 2 (by omega), e 3 (by omega)]
    simp only [dig]
    omega
  · have := at_j j (by omega)
    rw [hn] at this
    cases this

set_option maxRecDepth 100000 in
set_option maxHeartbeats 2000000 in
theorem back_walk (u m : Int) (a : Option Addr) (n c : Nat) (zs : List Int) (w : World) (hu0 : 0 ≤ u) (hu1 : u ≤ 65535) (hm0 : 0 ≤ m) (hm1 : m ≤ 255) (h : IsB w a n zs) :
    Calls Try.prog 4 #[.int .u16 u, .int .u8 m, .slice a n c] w fun e w' => e = .returned (.bool true) ∧ Below w.heap.size w w' := by
  have HI : Hid (IsB w a n zs) := h
  have hnm : n ≤ 9223372036854775807 := h.2.1
  clear h
  obtain ⟨i0, hi, hz0, hz1, hz2⟩ := info_parts Try.info5
  go_enter Try.func4, Try.ntmps4
  go_wp2_with fail
  refine (bytes14_any u m a n c w HI.out.2.1).mono ?_
  rintro e w' ⟨⟨t, rfl⟩, hw⟩
  have hw2 := hw.symm
  subst hw2
  cases t
  · go_wp2_with fail
    go_ret
    exact ⟨rfl, Below.refl _ _⟩
  by_cases hbig : 1048576 < n
  · go_wp2_with fail
    go_ret
    exact ⟨rfl, Below.refl _ _⟩
  go_wp2_with fail
  refine (clone_any a n c zs _ HI.out (by omega)).mono ?_
  rintro e w1 ⟨⟨a1, c1, rfl, hI1, hc1, hc2⟩, hb1⟩
  have HI1 : Hid (IsB w1 a1 n zs) := hI1
  have HL1 : Hid (Below w.heap.size w w1) := hb1
  clear hI1 hb1 HI
  go_wp2_with (at_make; refine wpList_make_full _ rfl _ _ 22 rfl w1.heap.size 5 i0 (.int .u8 0) 1 Try.underlying22 hi hz0 hz1 _ _ _ _ (4 + n) rfl rfl (by omega) (by omega) (by rw [hz2]; omega) (by unfold maxLen; omega) (Nat.le_refl _) ?_; intro w2 hown hgrow)
  have HF0 : Hid (Fill w1.heap.size (4 + n) w1 [] w2) := by
    refine ⟨?_, (Below.refl _ _).grown hgrow (Nat.le_refl _) (by simp)⟩
    have e : (madeCells (Value.int .u8 0).cells ((4 + n) * 1)).toList = fl [] (4 + n) := by
      show (madeCells #[Value.int .u8 0] ((4 + n) * 1)).toList = _
      rw [toList_madeCells_one]; simp [fl]
    rw [← e]; exact hown
  clear hown hgrow
  obtain ⟨g, hg⟩ : ∃ g, g = w1.heap.size := ⟨_, rfl⟩
  have hgw : w.heap.size ≤ g := by rw [hg]; exact HL1.out.size
  have HG : Hid (g = w1.heap.size) := hg
  rw [← hg] at HF0 ⊢
  clear hg
  go_loopw [8, 9] (fun v8 v9 wr => ∃ k : Nat, k ≤ 4 ∧ v8 = .int .i64 k ∧ Hid (∃ ds : List Int, ds.length = k ∧ Digs u ds ∧ Fill g (4 + n) w1 ds wr)) (fun v8 _ _ => 4 - (intOf v8).toNat)
  case atStart => exact ⟨0, Nat.zero_le _, rfl, [], rfl, fun j hj => absurd hj (Nat.not_lt_zero _), HF0.out⟩
  case round =>
    obtain ⟨k, hk, rfl, HD⟩ := hrel
    clear HF0
    by_cases hlt : k < 4
    · obtain ⟨ds, hdl, hdg, hfl⟩ := HD.out
      obtain ⟨⟨u1, d1⟩, f1⟩ := hfl.at (by omega)
      rw [hdl] at d1 f1
      have HST : Hid (∀ up, ∃ ds' : List Int, ds'.length = k + 1 ∧ Digs u ds' ∧ Fill g (4 + n) w1 ds' (wr.setCell ⟨g, k, none⟩ (.int .u8 (hd (dig u k) up)))) := fun up => by
        have hst := hfl.step (hd (dig u ds.length) up) (by omega)
        have hdg2 := hdg.snoc up
        rw [hdl] at hst hdg2
        exact ⟨_, by simp [hdl], hdg2, hst⟩
      have hdb := dig_bd u k
      have HC : Hid (∀ up, Calls Try.prog 15 #[.int .u16 (dig u k), .bool up] wr fun e w' => e = .returned (.int .u8 (hd (dig u k) up)) ∧ w' = wr) := fun up => digit_any (dig u k) up wr hdb.1 hdb.2
      have hki : (k : Int) < 4 + (n : Int) := by omega
      have hk0 : (0 : Int) ≤ (k : Int) := Int.natCast_nonneg _
      clear hdl hdg hfl HD hdb
      have hk4 : k = 0 ∨ k = 1 ∨ k = 2 ∨ k = 3 := by omega
      rcases hk4 with rfl | rfl | rfl | rfl
      · have ha : bits .and .u16 (u / 4096) 15 = dig u 0 := and15 _ (by omega) (by omega)
        have HAE : Hid (bits .and .u16 (u / 4096) 15 = dig u 0) := ha
        clear ha
        go_wp2_with fail
        rw [HAE.out]
        refine (HC.out _).mono ?_
        rintro e w' ⟨rfl, hw⟩
        have hw2 := hw.symm
        subst hw2
        go_wp2_with fail
        go_roundw
        case rel => exact ⟨1, by omega, rfl, HST.out _⟩
        case measure => simp [intOf]
      · have ha : bits .and .u16 (u / 256) 15 = dig u 1 := and15 _ (by omega) (by omega)
        have HAE : Hid (bits .and .u16 (u / 256) 15 = dig u 1) := ha
        clear ha
        go_wp2_with fail
        rw [HAE.out]
        refine (HC.out _).mono ?_
        rintro e w' ⟨rfl, hw⟩
        have hw2 := hw.symm
        subst hw2
        go_wp2_with fail
        go_roundw
        case rel => exact ⟨2, by omega, rfl, HST.out _⟩
        case measure => simp [intOf]
      · have ha : bits .and .u16 (u / 16) 15 = dig u 2 := and15 _ (by omega) (by omega)
        have HAE : Hid (bits .and .u16 (u / 16) 15 = dig u 2) := ha
        clear ha
        go_wp2_with fail
        rw [HAE.out]
        refine (HC.out _).mono ?_
        rintro e w' ⟨rfl, hw⟩
        have hw2 := hw.symm
        subst hw2
        go_wp2_with fail
        go_roundw
        case rel => exact ⟨3, by omega, rfl, HST.out _⟩
        case measure => simp [intOf]
      · have ha : bits .and .u16 (u) 15 = dig u 3 := and15 _ (by omega) (by omega)
        have HAE : Hid (bits .and .u16 (u) 15 = dig u 3) := ha
        clear ha
        go_wp2_with fail
        rw [HAE.out]
        refine (HC.out _).mono ?_
        rintro e w' ⟨rfl, hw⟩
        have hw2 := hw.symm
        subst hw2
        go_wp2_with fail
        go_roundw
        case rel => exact ⟨4, by omega, rfl, HST.out _⟩
        case measure => simp [intOf]
    · have hnk : ¬ (k : Int) < 4 := by omega
      obtain ⟨ds, hdl0, hdg, hfl⟩ := HD.out
      have hdl : ds.length = 4 := by omega
      have HDL : Hid (ds.length = 4) := hdl
      have HDG : Hid (Digs u ds) := hdg
      have HF0 : Hid (Fill g (4 + n) w1 (ds ++ zs.take 0) wr) := by
        have : ds ++ zs.take 0 = ds := by simp
        rw [this]; exact hfl
      clear hdl0 hdl hdg hfl HD
      go_wp2_with fail
      go_loopw [10] (fun v10 wr => ∃ k : Nat, k ≤ n ∧ v10 = .int .i64 k ∧ Fill g (4 + n) w1 (ds ++ zs.take k) wr) (fun v10 _ => n - (intOf v10).toNat)
      case atStart => exact ⟨0, Nat.zero_le _, rfl, HF0.out⟩
      case round =>
        obtain ⟨j, hj, rfl, hF⟩ := hrel
        have HF : Hid (Fill g (4 + n) w1 (ds ++ zs.take j) wr) := hF
        clear hF HF0
        have hl : zs.length = n := HI1.out.1
        by_cases hlt : j < n
        · obtain ⟨b, off, rfl, hbl, hcell⟩ := HI1.out.2.2.2 (by omega)
          have hjl : j < zs.length := by omega
          have hlen : (ds ++ zs.take j).length = 4 + j := by rw [List.length_append, HDL.out, List.length_take]; omega
          obtain ⟨⟨u1, d1⟩, f1⟩ := HF.out.at (by omega)
          have hst := HF.out.step zs[j] (by omega)
          rw [hlen] at d1 f1 hst
          have hcl : wr.cell? ⟨b, off + j, none⟩ = some (.int .u8 zs[j]) := (HF.out.2.cell (p := ⟨b, off + j, none⟩) (by rw [HG.out]; exact hbl)).trans (hcell j hjl)
          have HST : Hid (Fill g (4 + n) w1 (ds ++ zs.take (j + 1)) (wr.setCell ⟨g, 4 + j, none⟩ (.int .u8 zs[j]))) := by
            have e : ds ++ zs.take (j + 1) = ds ++ zs.take j ++ [zs[j]] := by rw [List.take_succ_eq_append_getElem hjl, List.append_assoc]
            rw [e]; exact hst
          obtain ⟨z, hz⟩ : ∃ z, z = zs[j] := ⟨_, rfl⟩
          rw [← hz] at hcl HST
          have hji : (j : Int) < (n : Int) := by omega
          clear hz hst hlen hcell
          go_wp2_with fail
          go_roundw
          case rel => exact ⟨j + 1, by omega, by go_num, HST.out⟩
          case measure => simp [intOf]; omega
        · have hjn : j = n := by omega
          have htk : zs.take j = zs := List.take_of_length_le (by omega)
          have hF := HF.out
          rw [htk] at hF
          have hlen : (ds ++ zs).length = 4 + n := by rw [List.length_append, HDL.out]; omega
          have hzb : ∀ z ∈ ds ++ zs, 0 ≤ z ∧ z ≤ 255 := by
            intro z hz
            rcases List.mem_append.1 hz with hz | hz
            · obtain ⟨i, hi, rfl⟩ := List.getElem_of_mem hz
              exact (HDG.out i hi).2
            · exact HI1.out.2.2.1 z hz
          have hown := hF.1
          have e : fl (ds ++ zs) (4 + n) = (ds ++ zs).map (Value.int .u8) := by unfold fl; rw [hlen, Nat.sub_self]; simp
          rw [e] at hown
          have HIB : Hid (IsB wr (some ⟨g, 0, none⟩) (4 + n) (ds ++ zs)) := isB_of_own hlen (by unfold maxLen; omega) hzb hown
          have HLr : Hid (Below w.heap.size w wr) := HL1.out.trans (hF.2.mono hgw)
          clear hown e hF htk hlen hzb HF hjn
          go_wp2_with fail
          refine (zhex4_long (some ⟨g, 0, none⟩) (4 + n) (4 + n) (ds ++ zs) wr HIB.out (by omega) (Nat.le_refl _) (by omega)).mono ?_
          rintro e w' ⟨⟨r, ok, rfl, hr⟩, hw⟩
          have hw2 := hw.symm
          subst hw2
          obtain ⟨rfl, rfl⟩ := back_plain hu0 hu1 HDG.out HDL.out hr
          clear hr
          go_wp2_with fail
          go_ret
          exact ⟨rfl, HLr.out⟩
end Go.Proofs.Qxb6602083a
