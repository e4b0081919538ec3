/-
  SEAT b6601673a: FnOpenBlockGivesRoomAtTheEnd: the walk.
-/
import Derived.Test.Qxb6601673aRoom
import Derived.Deep.CutBlock
namespace Go.Proofs.Qxb6601673a
open Go.ChangeShapes Go.WideShapes Go.ChangeAt Go.RowKit
set_option linter.unusedVariables false
attribute [local go_sem] Go.wp_at_zero Go.wp_at_succ

/-- What the law keeps of the last part. -/
def Had (ps : List LPart) (v8 v9 v10 : Value) : Prop :=
  v8 = .bool (roomy ps) ∧ (roomy ps = true → ∃ init g bs cap, ps = init ++ [.inr (g, bs, cap)] ∧ v9 = .int .i64 (bs : List UInt8).length ∧ v10 = .int .i64 (cap : Nat))

theorem last_at {ps init : List LPart} {p : LPart} (h : ps = init ++ [p]) (hl : ps.length - 1 < ps.length) : ps[ps.length - 1] = p := by
  subst h; simp

set_option maxRecDepth 100000 in
set_option maxHeartbeats 4000000 in
theorem room_walk (a : Option Addr) (n c : Nat) (ss : List ByteArray) (w : World) (h : IsStrs w a n ss) :
    Calls Try.prog 6 #[.slice a n c] w fun e w' => e = .returned (.bool true) ∧ Below w.heap.size w w' := by
  have HI : Hid (IsStrs w a n ss) := h
  have hnm : n ≤ 9223372036854775807 := h.2.1
  clear h
  go_enter Try.func6, Try.ntmps6
  go_wp2_with fail
  refine (bytes22_any a n c ss w HI.out).mono ?_
  rintro e w' ⟨⟨t, rfl⟩, hw⟩
  have hw2 := hw.symm
  subst hw2
  cases t
  · go_wp2_with fail
    go_ret
    exact ⟨rfl, Below.refl _ _⟩
  go_wp2_with fail
  refine (size_any a n c ss _ HI.out).mono ?_
  rintro e w' ⟨⟨t, rfl, ht0, ht⟩, hw⟩
  have hw2 := hw.symm
  subst hw2
  by_cases hbig : 1048576 < t
  · go_wp2_with fail
    go_ret
    exact ⟨rfl, Below.refl _ _⟩
  have hsz : 16 * n + tot ss ≤ 1048576 := by omega
  clear ht
  go_wp2_with fail
  refine (clone_any a n c ss _ HI.out (by omega)).mono ?_
  rintro e w1 ⟨⟨a1, c1, rfl, hI1⟩, hb1⟩
  have HI1 : Hid (IsStrs w1 a1 n ss) := hI1
  have HL1 : Hid (Below w.heap.size w w1) := hb1
  clear hI1 hb1 HI
  go_wp2_with fail
  refine (build_any a1 n c1 ss _ HI1.out (by omega)).mono ?_
  rintro e w2 ⟨rfl, ⟨pv, ps, hB2, hH⟩, hb2⟩
  obtain ⟨B, hB⟩ : ∃ B, B = w1.heap.size := ⟨_, rfl⟩
  have hwB : w.heap.size ≤ B := by rw [hB]; exact HL1.out.size
  rw [← hB] at hB2 hb2 ⊢
  have HB2 : Hid (BufAt B B pv ps (tot ss) w2) := hB2
  have HH : Hid (Holds ps ss) := hH
  have HL2 : Hid (Below w.heap.size w w2) := HL1.out.trans (hb2.mono hwB)
  have hnp : ps.length ≤ 1048576 := by have := hH.2.le; rw [hH.len] at this; omega
  clear hB2 hH hb2 hB HI1 HL1
  go_wp2_with fail
  have st2 := string_any w2 B B (tot ss) pv ps HB2.out (by omega) (by rw [HH.out.len]; omega) (by omega)
  rw [HH.out.text] at st2
  refine st2.mono ?_
  clear st2
  rintro e w3 ⟨rfl, hb3⟩
  have HB3 : Hid (BufAt B B pv ps (tot ss) w3) := HB2.out.below hb3
  have HL3 : Hid (Below w.heap.size w w3) := HL2.out.trans (hb3.mono HL2.out.size)
  clear hb3 HB2 HL2
  go_wp2_with fail
  refine (parts_any _ _ _ _ _ _ HB3.out).mono ?_
  rintro e w' ⟨rfl, hw⟩
  have hw2 := hw.symm
  subst hw2
  go_wp2_with fail
  go_loop [6, 7] (fun v6 v7 => ∃ k : Nat, k ≤ ps.length ∧ v7 = .int .i64 k ∧ v6 = .int .i64 (nb (ps.take k))) (fun _ v7 => ps.length - (intOf v7).toNat)
  case atStart => exact ⟨0, Nat.zero_le _, rfl, rfl⟩
  case round =>
    obtain ⟨k, hk, rfl, rfl⟩ := hrel
    have hnk : nb (ps.take k) ≤ 1048576 := by have := nb_le (ps.take k); rw [List.length_take] at this; omega
    by_cases hlt : k < ps.length
    · have hblk := block_any w3 B B _ pv ps HB3.out k hlt
      rcases hpi : ps[k] with s | ⟨g, bs, cap⟩
      · rw [hpi] at hblk
        have HK : Hid (Calls Try.prog 18 #[.pointer (some ⟨B, 0, none⟩), .int .i64 k] w3 fun e w' => e = .returned (.slice none 0 0) ∧ w' = w3) := hblk
        have HN : Hid (nb (ps.take (k + 1)) = nb (ps.take k)) := nb_take_inl ps k hlt s hpi
        clear hblk hpi
        go_wp2_with fail
        refine HK.out.mono ?_
        rintro e w' ⟨rfl, hw⟩
        have hw2 := hw.symm
        subst hw2
        go_wp2_with fail
        go_round
        case rel => exact ⟨k + 1, by omega, by go_num, by rw [HN.out]⟩
        case measure => simp [intOf]; omega
      · rw [hpi] at hblk
        have HK : Hid (Calls Try.prog 18 #[.pointer (some ⟨B, 0, none⟩), .int .i64 k] w3 fun e w' => e = .returned (.slice (some ⟨g, 0, none⟩) bs.length cap) ∧ w' = w3) := hblk
        have HN : Hid (nb (ps.take (k + 1)) = nb (ps.take k) + 1) := nb_take_inr ps k hlt _ hpi
        clear hblk hpi
        go_wp2_with fail
        refine HK.out.mono ?_
        rintro e w' ⟨rfl, hw⟩
        have hw2 := hw.symm
        subst hw2
        go_wp2_with fail
        go_round
        case rel => exact ⟨k + 1, by omega, by go_num, by rw [HN.out]; go_num⟩
        case measure => simp [intOf]; omega
    · have hkn : ps.take k = ps := List.take_of_length_le (by omega)
      rw [hkn]
      clear hkn hnk
      go_upto_if 40 with fail
      go_cut [8, 9, 10, 11] (fun v8 v9 v10 v11 wx => Had ps v8 v9 v10 ∧ wx = w3)
      case first =>
        rcases snoc_cases ps with h0 | ⟨init, p, hp⟩
        · have hz : ¬ (0 : Int) < (ps.length : Int) := by rw [h0]; simp
          have HHad : Hid (Had ps (.bool false) (.int .i64 0) (.int .i64 0)) := by rw [h0]; exact ⟨rfl, fun h => by simp [roomy] at h⟩
          clear h0
          go_wp2_with fail
          go_meet
          exact ⟨HHad.out, rfl⟩
        · have hpos : (0 : Int) < (ps.length : Int) := by rw [hp, List.length_append, List.length_singleton]; omega
          have hl1 : ps.length - 1 < ps.length := by omega
          have hblk := block_any w3 B B _ pv ps HB3.out (ps.length - 1) hl1
          have e1 : ((ps.length - 1 : Nat) : Int) = (ps.length : Int) - 1 := by omega
          rw [e1, last_at hp hl1] at hblk
          have HP : Hid (ps = init ++ [p]) := hp
          clear e1 hp
          rcases p with s | ⟨g, bs, cap⟩
          · have HK : Hid (Calls Try.prog 18 #[.pointer (some ⟨B, 0, none⟩), .int .i64 ((ps.length : Int) - 1)] w3 fun e w' => e = .returned (.slice none 0 0) ∧ w' = w3) := hblk
            have HHad : Hid (Had ps (.bool false) (.int .i64 0) (.int .i64 0)) := by rw [HP.out]; exact ⟨by simp [roomy], fun h => by simp [roomy] at h⟩
            clear hblk
            go_wp2_with fail
            refine HK.out.mono ?_
            rintro e w' ⟨rfl, hw⟩
            have hw2 := hw.symm
            subst hw2
            go_wp2_with fail
            go_meet
            exact ⟨HHad.out, rfl⟩
          · have HK : Hid (Calls Try.prog 18 #[.pointer (some ⟨B, 0, none⟩), .int .i64 ((ps.length : Int) - 1)] w3 fun e w' => e = .returned (.slice (some ⟨g, 0, none⟩) bs.length cap) ∧ w' = w3) := hblk
            clear hblk
            by_cases hroom : bs.length < cap
            · have HHad : Hid (Had ps (.bool true) (.int .i64 bs.length) (.int .i64 cap)) := by rw [HP.out]; exact ⟨by simp [roomy, hroom], fun _ => ⟨init, g, bs, cap, rfl, rfl, rfl⟩⟩
              have hroom2 : (bs.length : Int) < (cap : Int) := by omega
              go_wp2_with fail
              refine HK.out.mono ?_
              rintro e w' ⟨rfl, hw⟩
              have hw2 := hw.symm
              subst hw2
              go_wp2_with fail
              go_meet
              exact ⟨HHad.out, rfl⟩
            · have HHad : Hid (Had ps (.bool false) (.int .i64 0) (.int .i64 0)) := by rw [HP.out]; exact ⟨by simp [roomy, hroom], fun h => by simp [roomy, hroom] at h⟩
              have hroom2 : decide ((bs.length : Int) < (cap : Int)) = false := decide_eq_false (by omega)
              go_wp2_with fail
              refine HK.out.mono ?_
              rintro e w' ⟨rfl, hw⟩
              have hw2 := hw.symm
              subst hw2
              go_wp2_with fail
              go_meet
              exact ⟨HHad.out, rfl⟩
      case rest =>
      obtain ⟨hHad, hwx⟩ := hcut
      have HHad : Hid (Had ps u8 u9 u10) := hHad
      have hwx2 := hwx.symm
      subst hwx2
      clear hHad
      go_wp2_with fail
      refine (openZ_any w3 B B (tot ss) pv ps HB3.out hnp).mono ?_
      rintro e w4 ⟨init, g, bs, cap, gr, pc, rfl, hB4, hrel4, hbel4, hoth4⟩
      have HB4 : Hid (BufAt B B (.slice (some ⟨gr, 0, none⟩) (init.length + 1) pc) (init ++ [.inr (g, bs, cap)]) (tot ss) w4) := hB4
      have HR4 : Hid (OpenRel ps init g bs cap) := hrel4
      have HL4 : Hid (Below w.heap.size w w4) := HL3.out.trans (hbel4.mono hwB)
      have hroom : bs.length < cap := hrel4.1
      have hil : init.length ≤ 1048576 := by
        rcases hrel4.2 with ⟨_, h⟩ | ⟨_, h, _⟩
        · rw [h, List.length_append] at hnp; omega
        · rw [← h]; exact hnp
      clear hB4 hrel4 hbel4 hoth4 HB3 HL3
      obtain ⟨cB, fB, hownB, hc6, hggr⟩ := last_cell HB4.out
      have pc4 := parts_any w4 B B _ _ _ HB4.out
      have e4 : (((init ++ [.inr (g, bs, cap)] : List LPart).length : Nat) : Int) = (init.length : Int) + 1 := by rw [List.length_append, List.length_singleton]; omega
      rw [e4] at pc4
      have HP4 : Hid (Calls Try.prog 16 #[.pointer (some ⟨B, 0, none⟩)] w4 fun e w' => e = .returned (.int .i64 ((init.length : Int) + 1)) ∧ w' = w4) := pc4
      clear e4 pc4
      go_wp2_with fail
      refine HP4.out.mono ?_
      rintro e w' ⟨rfl, hw⟩
      have hw2 := hw.symm
      subst hw2
      go_upto_if 64 with fail
      go_cut [13] (fun s13 wx => (∃ d, wx = w4.drewN d) ∧ s13 = .int .i64 ((init.length : Int) + 1))
      case first =>
        cases hrm : roomy ps
        · have hps : ps = init ∧ bs = [] ∧ cap = bsz (nb ps + 1) := by
            rcases HR4.out.2 with ⟨h, _⟩ | ⟨_, h⟩
            · rw [hrm] at h; cases h
            · exact h
          have h8 : u8 = .bool false := by have := HHad.out.1; rw [hrm] at this; exact this
          subst h8
          obtain ⟨he1, he2, hcap⟩ := hps
          subst he1 he2
          have hnb : nb ps ≤ 1048576 := by have := nb_le ps; omega
          have HBC : Hid (∀ q, Calls Try.prog 21 #[.int .i64 (nb ps)] (w4.drewN q) fun e w' => e = .returned (.int .i64 cap) ∧ w' = w4.drewN q) := by
            intro q
            have := blockCap_any (nb ps) hnb (w4.drewN q)
            rw [← hcap] at this
            exact this
          have HKC : Hid (∀ q, Calls Try.prog 19 #[.pointer (some ⟨B, 0, none⟩), .int .i64 ps.length] (w4.drewN q) fun e w' => e = .returned (.string ByteArray.empty) ∧ w' = w4.drewN q) := by
            intro q
            have := kept_any (w4.drewN q) B B _ _ _ (HB4.out.drewN q) ps.length (by simp)
            simp only [List.getElem_concat_length, kstr] at this
            exact this
          have cB' : w4.cell? ⟨gr, ps.length * 2 + 1, none⟩ = some (.slice (some ⟨g, 0, none⟩) 0 cap) := cB
          clear hrm HHad hownB hcap cB
          go_wp2_with fail
          go_quiet ((go_at_call 21; exact Calls.quiet_of_same (HBC.out _)))
          go_wp2_with fail
          refine (HKC.out _).mono ?_
          rintro e w' ⟨rfl, hw⟩
          subst hw
          go_wp2_with fail
          go_meet
          exact ⟨⟨_, rfl⟩, rfl⟩
        · have hps : ps = init ++ [.inr (g, bs, cap)] := by
            rcases HR4.out.2 with ⟨_, h⟩ | ⟨h, _⟩
            · exact h
            · rw [hrm] at h; cases h
          obtain ⟨h8, h9⟩ := HHad.out
          rw [hrm] at h8
          obtain ⟨i2, g2, b2, c2, he, hv9, hv10⟩ := h9 hrm
          rw [hps] at he
          have hinj := List.append_inj' he rfl
          simp only [List.cons.injEq, Sum.inr.injEq, Prod.mk.injEq, and_true] at hinj
          obtain ⟨rfl, rfl, rfl, rfl⟩ := hinj
          have hq1 : (((init.length : Int) + 1) == (ps.length : Int)) = true := by rw [hps]; simp
          have HQ : Hid (((init.length : Int) + 1) = (ps.length : Int)) := by
            have := congrArg List.length hps
            rw [List.length_append, List.length_singleton] at this
            have h2 : ((init.length : Int) + 1) = (ps.length : Int) := by omega
            exact h2
          subst h8 hv9 hv10
          clear hps hrm HHad h9 he hownB
          go_wp2_with fail
          go_meet
          exact ⟨⟨0, rfl⟩, by first | rfl | rw [HQ.out]⟩
      case rest =>
      obtain ⟨⟨d, rfl⟩, rfl⟩ := hcut
      have htx : text (init ++ [.inr (g, bs, cap)]) = cat ss := by
        rw [← HH.out.text]
        rcases HR4.out.2 with ⟨_, h⟩ | ⟨_, rfl, rfl, _⟩
        · rw [← h]
        · rw [text_append, text_one]; simp [ptx]
      have HTX : Hid (text (init ++ [.inr (g, bs, cap)]) = cat ss) := htx
      have HB5 : Hid (BufAt B B (.slice (some ⟨gr, 0, none⟩) (init.length + 1) pc) (init ++ [.inr (g, bs, cap)]) (tot ss) (w4.drewN d)) := HB4.out.drewN d
      have HL5 : Hid (Below w.heap.size w (w4.drewN d)) := HL4.out.trans (below_drewN' d)
      have c5 : (w4.drewN d).cell? ⟨gr, init.length * 2 + 1, none⟩ = some (.slice (some ⟨g, 0, none⟩) bs.length cap) := cB
      obtain ⟨w5, hw5⟩ : ∃ w5, w5 = w4.drewN d := ⟨_, rfl⟩
      rw [← hw5] at HB5 HL5 c5 ⊢
      have hroom2 : ¬ (cap : Int) ≤ (bs.length : Int) := by omega
      clear hw5 htx cB fB hownB HB4 HL4 HP4 HR4 HHad
      go_wp2_with fail
      go_quiet (fail)
      go_wp2_with fail
      have HB6 : Hid (BufAt B B (.slice (some ⟨gr, 0, none⟩) (init.length + 1) pc) (init ++ [.inr (g, bs, cap)]) (tot ss) (w5.drewN nq)) := HB5.out.drewN nq
      have HL6 : Hid (Below w.heap.size w (w5.drewN nq)) := HL5.out.trans (below_drewN' nq)
      have hll : (init ++ [.inr (g, bs, cap)] : List LPart).length ≤ 2097152 := by rw [List.length_append, List.length_singleton]; omega
      have htl : (text (init ++ [.inr (g, bs, cap)])).length = tot ss := by rw [HTX.out, cat_length]
      have st6 := string_any (w5.drewN nq) B B (tot ss) _ _ HB6.out (by omega) (by rw [htl]; omega) hll
      rw [HTX.out] at st6
      refine st6.mono ?_
      clear st6
      rintro e w7 ⟨rfl, hb7⟩
      have HB7 : Hid (BufAt B B (.slice (some ⟨gr, 0, none⟩) (init.length + 1) pc) (init ++ [.inr (g, bs, cap)]) (tot ss) w7) := HB6.out.below hb7
      have HL7 : Hid (Below w.heap.size w w7) := HL6.out.trans (hb7.mono HL6.out.size)
      clear hb7 HB6 HL6 HB5 HL5 c5
      go_wp2_with fail
      refine (len_any _ _ _ _ _ _ HB7.out).mono ?_
      rintro e w' ⟨rfl, hw⟩
      have hw2 := hw.symm
      subst hw2
      have z1 : (mkS (cat ss)).size = tot ss := by rw [mkS_size, cat_length]
      obtain ⟨c7, f7, hown7, _, _⟩ := last_cell HB7.out
      go_upto_region 41 with fail
      go_cut [] (fun wx => BufAt B B (.slice (some ⟨gr, 0, none⟩) (init.length + 1) pc) (init ++ [.inr (g, bs ++ [120], cap)]) (tot ss) wx ∧ Below w.heap.size w wx)
      case first =>
        have l7 : gr < w7.heap.size := World.block_lt_of_cell? w7 _ c7
        have HB8 : Hid (∀ o, BufAt B B (.slice (some ⟨gr, 0, none⟩) (init.length + 1) pc) (init ++ [.inr (g, bs, cap)]) (tot ss) (w7.alloc o)) := fun o => HB7.out.below ((Below.refl _ w7).alloc (Nat.le_refl _) o)
        have HFC : Hid (∀ o, (w7.alloc o).cell? ⟨gr, init.length * 2 + 1, none⟩ = some (.slice (some ⟨g, 0, none⟩) bs.length cap)) := fun o => (last_cell (HB8.out o)).1
        have HFF : Hid (∀ o, (w7.alloc o).frozen? ⟨gr, init.length * 2 + 1, none⟩ = false) := fun o => (last_cell (HB8.out o)).2.1
        have hl7 : w.heap.size ≤ w7.heap.size := HL7.out.size
        go_wp2_with (at_builtin; refine wpList_put_cells rfl _ _ rfl B g bs.length cap (bcells bs) rfl (hown7.alloc _) ⟨w7.heap.size, 0, none⟩ 1 1 [.int .u8 120] rfl rfl (World.news_of_block (cs := #[.int .u8 120]) (t := 5) (fr := (0, 0)) (heap_alloc_new w7 _)) (by simp [Value.oneCell']) (by omega) ?_; intro w8 hown8 hsame8; have hf8 := (World.frozen?_of_block (a := ⟨gr, init.length * 2 + 1, none⟩) (hsame8.block gr (Ne.symm hggr))).trans (HFF.out _); have hc8 := (World.cell?_of_block (a := ⟨gr, init.length * 2 + 1, none⟩) (hsame8.block gr (Ne.symm hggr))).trans (HFC.out _))
        go_meet
        have hput := buf_put (t := [120]) (HB8.out _) hown8 hsame8
        exact ⟨hput.1, HL7.out.trans (((Below.refl _ w7).alloc (Nat.le_refl _) _ |>.mono hl7).trans (hput.2.1.mono hwB))⟩
      case rest =>
      obtain ⟨hB9, hb9⟩ := hcut
      have HL9 : Hid (Below w.heap.size w wc) := hb9
      have htx9 : text (init ++ [.inr (g, bs ++ [120], cap)]) = cat ss ++ [120] := by
        have := HTX.out
        rw [text_append, text_one] at this ⊢
        show text init ++ (bs ++ [120]) = _
        rw [← List.append_assoc]
        have h2 : text init ++ bs = cat ss := this
        rw [h2]
      have ha9 : mkS (cat ss ++ [120]) = mkS (cat ss) ++ ⟨#[120]⟩ := by
        have h9 : (mkS (cat ss ++ [120])).data = (mkS (cat ss) ++ ⟨#[120]⟩).data := by
          rw [ByteArray.data_append]
          apply Array.ext'
          simp [mkS]
        exact ByteArray.ext h9
      have st9 := string_any wc B B (tot ss) _ _ hB9 (by omega) (by rw [htx9, List.length_append, cat_length]; simp; omega) (by rw [List.length_append, List.length_singleton]; omega)
      rw [htx9, ha9] at st9
      have HST : Hid (Calls Try.prog 14 #[.pointer (some ⟨B, 0, none⟩)] wc fun e w' => e = .returned (.string (mkS (cat ss) ++ ⟨#[120]⟩)) ∧ Below wc.heap.size wc w') := st9
      clear st9 hB9 hb9 htx9 ha9 HB7 HL7 hown7 c7 f7
      go_wp2_with fail
      refine HST.out.mono ?_
      rintro e w10 ⟨rfl, hb10⟩
      have HL10 : Hid (Below w.heap.size w w10) := HL9.out.trans (hb10.mono HL9.out.size)
      clear hb10 HST HL9
      go_wp2_with fail
      go_ret
      exact ⟨rfl, HL10.out⟩
end Go.Proofs.Qxb6601673a
