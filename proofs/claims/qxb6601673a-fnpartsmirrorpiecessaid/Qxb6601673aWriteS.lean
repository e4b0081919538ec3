/-
  SEAT b6601673a: WriteString, a piece shorter than 4 KiB: copied into blocks.
-/
import Derived.Test.Qxb6601673aWriteK
namespace Go.Proofs.Qxb6601673a
open Go.ChangeShapes Go.WideShapes Go.ChangeAt Go.RowKit
set_option linter.unusedVariables false
attribute [local go_sem] Go.wp_at_zero Go.wp_at_succ

/-- The size of the string in a slot. -/
def strSz : Value → Nat | .string s => s.size | _ => 0

/-- The last part's cell, behind openBlock. -/
theorem last_cell {base bb gr pc g cap N : Nat} {init : List LPart} {bs : List UInt8} {w : World}
    (h : BufAt base bb (.slice (some ⟨gr, 0, none⟩) (init.length + 1) pc) (init ++ [.inr (g, bs, cap)]) N w) :
    w.cell? ⟨gr, init.length * 2 + 1, none⟩ = some (.slice (some ⟨g, 0, none⟩) bs.length cap) ∧ w.frozen? ⟨gr, init.length * 2 + 1, none⟩ = false ∧
    w.ownsRow base 5 1 (.slice (some ⟨g, 0, none⟩) bs.length cap) bs.length (bcells bs) ∧ cap ≤ 65536 ∧ g ≠ gr := by
  have hrow := h.2.2.1
  have hl : (init ++ [Sum.inr (g, bs, cap)] : List LPart).length = init.length + 1 := by simp
  rw [hl] at hrow
  have hp := h.2.2.2.1 (.inr (g, bs, cap)) (by simp)
  refine ⟨?_, hrow.frozenAt _, hp.2, hp.1, ?_⟩
  · rw [hrow.cellAt _ (by omega), rowOf_at _ _ (by simp) 1 (by omega)]
    simp [pcells]
  · intro e
    rcases hrow.2 with ⟨h', _⟩ | ⟨g', cap', cur, h', hb, hg, _⟩
    · simp at h'
    · simp at h'
      rw [← h'.1] at hg
      exact own_ne hp.2 hg (by decide) (by rw [e]; rfl)

theorem isEmpty_of_size (t : ByteArray) (h : t.size = 0) : t.toList.isEmpty = true := by
  rw [ByteArray.toList_eq, List.isEmpty_iff]
  exact List.eq_nil_of_length_eq_zero (by rw [bytes_length]; exact h)
theorem not_isEmpty (t : ByteArray) (h : ¬ t.size = 0) : t.toList.isEmpty = false := by
  rw [ByteArray.toList_eq]
  have : t.data.toList ≠ [] := fun e => h (by rw [← bytes_length, e]; rfl)
  simpa using this
theorem ext_take (t : ByteArray) (m : Nat) : (t.extract 0 m).data.toList = t.data.toList.take m := by
  simp [ByteArray.data_extract]
theorem ext_drop (t : ByteArray) (m : Nat) : (t.extract m t.size).data.toList = t.data.toList.drop m := by
  simp only [ByteArray.data_extract, Array.toList_extract, List.extract_eq_take_drop]
  apply List.take_of_length_le
  rw [List.length_drop, bytes_length]; exact Nat.le_refl _

/-- WHAT HOLDS AT THE LOOP's HEAD: dn is written, t is left. -/
def WRel (base bb N : Nat) (ps : List LPart) (s : ByteArray) (w : World) (v : Value) (wr : World) : Prop :=
  ∃ (t : ByteArray) (dn : List UInt8) (pv' : Value) (ps' : List LPart), v = .string t ∧ s.data.toList = dn ++ t.data.toList ∧ BufAt base bb pv' ps' (N + s.size) wr ∧ (Below base w wr ∧ OthT w wr) ∧
    ptoks ps' = ptoks ps ++ dn.map .inl ∧ Ext ps ps' ∧ AllNE ps' ∧ (dn = [] → ps' = ps)

theorem BufAt.drew {base bb : Nat} {pv : Value} {ps : List LPart} {N : Nat} {w : World} (h : BufAt base bb pv ps N w) : BufAt base bb pv ps N w.drew :=
  ⟨h.1, h.2.1, h.2.2.1, fun p hp => (h.2.2.2.1 p hp).kept fun _ _ e => e, h.2.2.2.2⟩

/-- A ROUND's STEP. -/
theorem wrel_step {base bb N M g cap : Nat} {ps ps' init : List LPart} {s t : ByteArray} {dn bs : List UInt8} {pv2 : Value} {w wr wx : World}
    (H : s.data.toList = dn ++ t.data.toList ∧ (Below base w wr ∧ OthT w wr) ∧ ptoks ps' = ptoks ps ++ dn.map .inl ∧ Ext ps ps' ∧ AllNE ps' ∧ (dn = [] → ps' = ps))
    (hrel : OpenRel ps' init g bs cap) (hB : BufAt base bb pv2 (init ++ [.inr (g, bs ++ (t.extract 0 M).data.toList, cap)]) (N + s.size) wx) (hb : Below base wr wx ∧ OthT wr wx) (hM0 : 0 < M) (hM : M ≤ t.size) :
    WRel base bb N ps s w (.string (t.extract M t.size)) wx := by
  obtain ⟨hsd, hbel, htk, hext, hne, hdn⟩ := H
  rw [ext_take] at hB
  have hx : 0 < (t.data.toList.take M).length := by rw [List.length_take, bytes_length]; omega
  refine ⟨t.extract M t.size, dn ++ t.data.toList.take M, pv2, init ++ [.inr (g, bs ++ t.data.toList.take M, cap)], rfl, ?_, hB, ⟨hbel.1.trans hb.1, hbel.2.trans hb.2⟩, ?_, ?_, ?_, ?_⟩
  · rw [ext_drop, List.append_assoc, List.take_append_drop]; exact hsd
  · have key : ptoks (init ++ [.inr (g, bs ++ t.data.toList.take M, cap)]) = ptoks ps' ++ (t.data.toList.take M).map .inl := by
      rcases hrel.2 with ⟨_, rfl⟩ | ⟨_, rfl, rfl, _⟩
      · rw [ptoks_append, ptoks_one, ptoks_append, ptoks_one]; simp [ptok]
      · rw [ptoks_append, ptoks_one]; simp [ptok]
    rw [key, htk, List.map_append, List.append_assoc]
  · refine hext.trans ?_
    rcases hrel.2 with ⟨_, rfl⟩ | ⟨_, rfl, rfl, _⟩
    · exact Ext.last _ _ _ _ _
    · exact Ext.snoc _ _
  · intro p hp
    rcases List.mem_append.1 hp with hp | hp
    · refine hne p ?_
      rcases hrel.2 with ⟨_, rfl⟩ | ⟨_, rfl, _⟩
      · exact List.mem_append.2 (.inl hp)
      · exact hp
    · simp at hp; subst hp
      show 0 < (bs ++ t.data.toList.take M).length
      rw [List.length_append]; omega
  · intro e
    have := congrArg List.length e
    rw [List.length_append, List.length_nil] at this
    omega

set_option maxRecDepth 100000 in
set_option maxHeartbeats 2000000 in
theorem write_short (w : World) (base bb N : Nat) (pv : Value) (ps : List LPart) (s : ByteArray) (h : BufAt base bb pv ps N w) (hne : AllNE ps) (ht : (text ps).length = N) (hN : N + s.size ≤ 1048576) (hs2 : s.size < 4096) :
    Calls Try.prog 15 #[.pointer (some ⟨bb, 0, none⟩), .string s] w fun e w' => e = .returned (.tuple #[]) ∧ (∃ v, WRel base bb N ps s w v w' ∧ strSz v = 0) := by
  have c1 : w.cell? ⟨bb, 1, none⟩ = some (.int .i64 N) := cell_of_row w bb 1 _ _ _ h.2.1
  have f1 : w.frozen? ⟨bb, 1, none⟩ = false := frozen_of_row w bb 1 _ _ h.2.1
  have HH : Hid (BufAt base bb pv ps N w) := h
  clear h
  go_enter Try.func15, Try.ntmps15
  go_upto_region 0 with fail
  go_cut [] (fun wx => BufAt base bb pv ps (N + s.size) wx ∧ (Below base w wx ∧ OthT w wx))
  case first =>
    go_wp2
    go_meet
    obtain ⟨hB, hS⟩ := buf_setN (M := N + s.size) HH.out
    have e2 : ((N + s.size : Nat) : Int) = (N : Int) + (s.size : Int) := by omega
    rw [e2] at hB hS
    exact ⟨hB, hS.below HH.out.1, hS.oth HH.out.2.1 (.inr (.inr rfl))⟩
  case rest =>
  obtain ⟨hB, hbel⟩ := hcut
  have HB : Hid (BufAt base bb pv ps (N + s.size) wc) := hB
  have HL : Hid (Below base w wc ∧ OthT w wc) := hbel
  clear hB hbel c1 f1 HH
  go_wp2
  go_loopw [1, 4, 5] (fun v1 v4 v5 wr => WRel base bb N ps s w v1 wr) (fun v1 _ _ _ => strSz v1)
  case atStart => exact ⟨s, [], pv, ps, rfl, rfl, HB.out, HL.out, by simp, Ext.refl _, hne, fun _ => rfl⟩
  case round =>
    obtain ⟨t, dn, pv', ps', rfl, hsd, hB, hbel, htk, hext, hne', hdn⟩ := hrel
    by_cases h0 : t.size = 0
    · have hem := isEmpty_of_size t h0
      have HR : Hid (WRel base bb N ps s w (.string t) wr) := ⟨t, dn, pv', ps', rfl, hsd, hB, hbel, htk, hext, hne', hdn⟩
      clear hsd hB hbel htk hext hne' hdn HB HL
      go_wp2
      go_end0
      exact ⟨rfl, _, HR.out, h0⟩
    · have hem := not_isEmpty t h0
      have htl : (text ps').length ≤ N + s.size := by
        rw [text_toks, htk, tokBs_append, ← text_toks, tokBs_bytes, List.length_append, ht]
        have := congrArg List.length hsd
        rw [bytes_length, List.length_append, bytes_length] at this
        omega
      have hlen : ps'.length ≤ 1048576 := by have := hne'.le; omega
      have htsz : t.size ≤ s.size := by
        have := congrArg List.length hsd
        rw [bytes_length, List.length_append, bytes_length] at this
        omega
      have HR : Hid (s.data.toList = dn ++ t.data.toList ∧ (Below base w wr ∧ OthT w wr) ∧ ptoks ps' = ptoks ps ++ dn.map .inl ∧ Ext ps ps' ∧ AllNE ps' ∧ (dn = [] → ps' = ps)) := ⟨hsd, hbel, htk, hext, hne', hdn⟩
      have HBr : Hid (BufAt base bb pv' ps' (N + s.size) wr) := hB
      clear hsd hB hbel htk hext hne' hdn HB HL htl
      go_wp2_with (go_at_call 29; refine (open_any _ base bb _ _ _ HBr.out hlen).mono ?_; rintro e w1 ⟨init, g, bs, cap, gr, pc, rfl, hB1, hrel, hbel1⟩)
      obtain ⟨cB, fB, hownB, hc6, hggr⟩ := last_cell hB1
      have hroom : bs.length < cap := hrel.1
      have HB1 : Hid (BufAt base bb (.slice (some ⟨gr, 0, none⟩) (init.length + 1) pc) (init ++ [.inr (g, bs, cap)]) (N + s.size) w1) := hB1
      have HREL : Hid (OpenRel ps' init g bs cap) := hrel
      have HL1 : Hid (Below base wr w1 ∧ OthT wr w1) := hbel1
      obtain ⟨M, hM1, hM2, hM3, hM4⟩ : ∃ M : Nat, M ≤ t.size ∧ bs.length + M ≤ cap ∧ 0 < M ∧ Hid (M = min t.size (cap - bs.length)) := ⟨_, Nat.min_le_left _ _, by omega, by omega, rfl⟩
      clear hB1 hrel hbel1
      obtain ⟨L, hL⟩ : ∃ L, L = bs.length := ⟨_, rfl⟩
      rw [← hL] at cB hownB hroom hM2 hM4
      have HLe : Hid (L = bs.length) := hL
      clear hL
      go_cut [5] (fun s5 wx => s5 = .int .i64 (M : Int) ∧ ∃ d, wx = w1.drewN d)
      case first =>
        clear hownB
        go_quiet (fail)
        go_wp2
        · go_meet
          have hM := hM4.out
          exact ⟨by congr 1; omega, _, rfl⟩
        · go_meet
          have hM := hM4.out
          exact ⟨by congr 1; omega, _, rfl⟩
      case rest =>
      obtain ⟨rfl, d, rfl⟩ := hcut
      have cD : (w1.drewN d).cell? ⟨gr, init.length * 2 + 1, none⟩ = some (.slice (some ⟨g, 0, none⟩) L cap) := cB
      have fD : (w1.drewN d).frozen? ⟨gr, init.length * 2 + 1, none⟩ = false := fB
      have oD : (w1.drewN d).ownsRow base 5 1 (.slice (some ⟨g, 0, none⟩) L cap) L (bcells bs) := hownB
      have HB2 : Hid (BufAt base bb (.slice (some ⟨gr, 0, none⟩) (init.length + 1) pc) (init ++ [.inr (g, bs, cap)]) (N + s.size) (w1.drewN d)) := HB1.out.drewN d
      have HL2 : Hid (Below base wr (w1.drewN d) ∧ OthT wr (w1.drewN d)) := ⟨HL1.out.1.trans (below_drewN' d), HL1.out.2⟩
      obtain ⟨w2, hw2⟩ : ∃ w2, w2 = w1.drewN d := ⟨_, rfl⟩
      rw [← hw2] at cD fD oD HB2 HL2
      have HW2 : Hid (w2 = w1.drewN d) := hw2
      rw [← hw2]
      clear hw2 cB fB hownB HB1 HL1 HBr
      have hMi0 : (0 : Int) ≤ (M : Int) := Int.natCast_nonneg _
      have hMi1 : (M : Int) ≤ (t.size : Int) := by omega
      have hsz1 : (t.extract 0 M).size = M := by rw [ByteArray.size_extract]; omega
      have hrm : L + (t.extract 0 M).size ≤ cap := by omega
      have HSZ : Hid ((t.extract 0 M).size = M) := hsz1
      clear hsz1
      go_upto_region 6 with fail
      go_cut [] (fun wx => BufAt base bb (.slice (some ⟨gr, 0, none⟩) (init.length + 1) pc) (init ++ [.inr (g, bs ++ (t.extract 0 M).data.toList, cap)]) (N + s.size) wx ∧ (Below base w2 wx ∧ OthT w2 wx))
      case first =>
        go_region_law
          ((refine step_put_str (by rfl) _ _ (by rfl) base g L cap (bcells bs) (by rfl) (by exact oD) (t.extract 0 M) (by rfl) hrm ?_; intro w3 hown3 hsame3; have hf0 := (World.frozen?_of_block (hsame3.block gr (Ne.symm hggr))).trans fD; have hc0 := (World.cell?_of_block (hsame3.block gr (Ne.symm hggr))).trans cD))
        all_goals (go_wp2_with fail)
        go_meet
        have hL := HLe.out
        subst hL
        have hl : (t.extract 0 M).data.toList.length = (t.extract 0 M).size := bytes_length _
        have hput := buf_put (t := (t.extract 0 M).data.toList) HB2.out.drew (by rw [hl]; exact hown3) hsame3
        rw [hl, HSZ.out] at hput
        exact ⟨hput.1, (Below.refl base w2).drew.trans hput.2.1, hput.2.2⟩
      case rest =>
      obtain ⟨hB4, hbel4⟩ := hcut
      have HW : Hid (WRel base bb N ps s w (.string (t.extract M t.size)) wc) := wrel_step HR.out HREL.out hB4 ⟨HL2.out.1.trans hbel4.1, HL2.out.2.trans hbel4.2⟩ hM3 hM1
      clear hB4 hbel4 HR HREL HB2 HL2 oD cD fD
      go_wp2
      go_roundw
      case rel => exact HW.out
      case measure => simp [strSz]; omega
end Go.Proofs.Qxb6601673a
