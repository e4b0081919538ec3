/-
  SEAT b6601673a: FnPartsMirrorPieces: the walk.
-/
import Derived.Test.Qxb6601673aMirror
import Derived.Deep.CutBlock
namespace Go.Proofs.Qxb6601673a
open Go.ChangeShapes Go.WideShapes Go.ChangeAt Go.RowKit
set_option linter.unusedVariables false

/-- What the laws' setting-up leaves. -/
def Ready (B bb : Nat) (pv : Value) (ps : List LPart) (ss : List ByteArray) (a : Option Addr) (n : Nat) (w : World) : Prop :=
  IsStrs w a n ss ∧ BufAt B bb pv ps (tot ss) w ∧ Holds ps ss ∧ tot ss ≤ 1048576

/-- At the head of the law's loop. -/
def MRel (ss : List ByteArray) (ps : List LPart) (w3 : World) (k i : Nat) (wr : World) : Prop :=
  toks (ss.drop k) = ptoks (ps.drop i) ∧ Below w3.heap.size w3 wr
/-- At the head of the loop over short pieces. -/
def SRel (ss : List ByteArray) (w3 : World) (k k' : Nat) (v : Value) (run : List UInt8) (wr : World) : Prop :=
  toks (ss.drop k) = run.map .inl ++ toks (ss.drop k') ∧ wr.ownsRow w3.heap.size 5 1 v run.length (bcells run) ∧ Below w3.heap.size w3 wr
/-- At the head of the loop over blocks; w5: the world in which it began. -/
def PRel (ps : List LPart) (w5 : World) (i i' : Nat) (v : Value) (run : List UInt8) (wr : World) : Prop :=
  ptoks (ps.drop i) = run.map .inl ++ ptoks (ps.drop i') ∧ wr.ownsRow w5.heap.size 5 1 v run.length (bcells run) ∧ Below w5.heap.size w5 wr

theorem SRel.step {ss : List ByteArray} {w3 wr w1 : World} {k k' : Nat} {v v' : Value} {run : List UInt8} (h : SRel ss w3 k k' v run wr) (hk : k' < ss.length) (hs : ss[k'].size < 4096)
    (h1 : w1.ownsRow w3.heap.size 5 1 v' (run.length + ss[k'].size) (bcells run ++ Lib.strCells ss[k'])) (hg : wr.grownBy w1 v.ownBlock) :
    SRel ss w3 k (k' + 1) v' (run ++ ss[k'].data.toList) w1 := by
  refine ⟨?_, ?_, h.2.2.grown hg h.2.2.size fun j hj => (h.2.1.lt j hj).1⟩
  · rw [h.1, toks_drop_short ss k' hk hs, List.map_append, List.append_assoc]
  · rw [bcells_append, ← bcells_str, List.length_append, bytes_length]; exact h1

theorem PRel.step {ps : List LPart} {w5 wr w1 : World} {i i' g cap : Nat} {v v' : Value} {run bs : List UInt8} (h : PRel ps w5 i i' v run wr) (hk : i' < ps.length) (hs : ps[i'] = .inr (g, bs, cap))
    (h1 : w1.ownsRow w5.heap.size 5 1 v' (run.length + bs.length) (bcells run ++ bcells bs)) (hg : wr.grownBy w1 v.ownBlock) :
    PRel ps w5 i (i' + 1) v' (run ++ bs) w1 := by
  refine ⟨?_, ?_, h.2.2.grown hg h.2.2.size fun j hj => (h.2.1.lt j hj).1⟩
  · rw [h.1, ptoks_drop ps i' hk, hs, List.map_append, List.append_assoc]; rfl
  · rw [bcells_append, List.length_append]; exact h1

theorem own_below {w w' : World} {base e size n : Nat} {v : Value} {xs : List Value} (h : w.ownsRow base e size v n xs) (hb : Below w.heap.size w w') : w'.ownsRow base e size v n xs := by
  refine ⟨h.1, ?_⟩
  rcases h.2 with hn | ⟨g, cap, cur, hv, hbg, hg, rest⟩
  · exact .inl hn
  · exact .inr ⟨g, cap, cur, hv, hbg, (hb.block g (Array.getElem?_eq_some_iff.1 hg).1).trans hg, rest⟩

/-- BOTH RUNS ARE ONE; and what stands behind them. -/
theorem mirror_meet {ss : List ByteArray} {ps : List LPart} {w3 w5 wo wc : World} {k k' i i' : Nat} {v7 v8 : Value} {run run2 : List UInt8} (hM : MRel ss ps w3 k i wo) (hS : SRel ss w3 k k' v7 run w5) (hP : PRel ps w5 i i' v8 run2 wc)
    (hl : ∀ h : k' < ss.length, ¬ ss[k'].size < 4096) (hp : ∀ h : i' < ps.length, ∃ s, ps[i'] = .inl s) :
    run = run2 ∧ toks (ss.drop k') = ptoks (ps.drop i') := by
  have e : run.map .inl ++ toks (ss.drop k') = run2.map .inl ++ ptoks (ps.drop i') := by rw [← hS.1, ← hP.1]; exact hM.1
  refine runs_eq e ?_ ?_
  · by_cases h : k' < ss.length
    · exact .inr ⟨_, _, toks_drop_long ss k' h (hl h)⟩
    · left; rw [List.drop_of_length_le (by omega)]; rfl
  · by_cases h : i' < ps.length
    · obtain ⟨s, hs⟩ := hp h
      right; rw [ptoks_drop ps i' h, hs]; exact ⟨s, _, rfl⟩
    · left; rw [List.drop_of_length_le (by omega)]; rfl

/-- Behind the loop over short pieces. -/
def SEnd (ss : List ByteArray) (w3 : World) (k n : Nat) (v5 v7 : Value) (wx : World) : Prop :=
  ∃ (k' : Nat) (run : List UInt8), k ≤ k' ∧ k' ≤ n ∧ v5 = .int .i64 k' ∧ SRel ss w3 k k' v7 run wx ∧ ∀ h : k' < ss.length, ¬ ss[k'].size < 4096
/-- Behind the loop over blocks. -/
def PEnd (ps : List LPart) (w5 : World) (i : Nat) (v6 v8 : Value) (wx : World) : Prop :=
  ∃ (i' : Nat) (run : List UInt8), i' ≤ ps.length ∧ v6 = .int .i64 i' ∧ PRel ps w5 i i' v8 run wx ∧ ∀ h : i' < ps.length, ∃ s, ps[i'] = .inl s

set_option maxRecDepth 100000 in
set_option maxHeartbeats 2000000 in
theorem mirror_walk (a : Option Addr) (n c : Nat) (ss : List ByteArray) (w : World) (h : IsStrs w a n ss) :
    Calls Try.prog 4 #[.slice a n c] w fun e w' => e = .returned (.bool true) ∧ Below w.heap.size w w' := by
  have HI : Hid (IsStrs w a n ss) := h
  have hnm : n ≤ 9223372036854775807 := h.2.1
  clear h
  go_enter Try.func4, Try.ntmps4
  go_wp2_with fail
  refine (bytes17_any a n c ss w HI.out).mono ?_
  rintro e w' ⟨⟨t, rfl⟩, hw⟩
  have hw2 := hw.symm
  subst hw2
  cases t
  · go_wp2_with fail
    go_ret
    exact ⟨rfl, Below.refl _ _⟩
  go_wp2_with fail
  refine (size_any a n c ss _ HI.out).mono ?_
  rintro e w' ⟨⟨t, rfl, ht0, ht⟩, hw⟩
  have hw2 := hw.symm
  subst hw2
  by_cases hbig : 1048576 < t
  · go_wp2_with fail
    go_ret
    exact ⟨rfl, Below.refl _ _⟩
  have hsz : 16 * n + tot ss ≤ 1048576 := by omega
  clear ht
  go_wp2_with fail
  refine (clone_any a n c ss _ HI.out (by omega)).mono ?_
  rintro e w1 ⟨⟨a1, c1, rfl, hI1⟩, hb1⟩
  have HI1 : Hid (IsStrs w1 a1 n ss) := hI1
  clear hI1
  go_wp2_with fail
  refine (build_any a1 n c1 ss _ HI1.out (by omega)).mono ?_
  rintro e w2 ⟨rfl, ⟨pv, ps, hB2, hH⟩, hb2⟩
  have HB2 : Hid (BufAt w1.heap.size w1.heap.size pv ps (tot ss) w2) := hB2
  have HH : Hid (Holds ps ss) := hH
  have HI2 : Hid (IsStrs w2 a1 n ss) := HI1.out.below hb2
  have hnp : ps.length ≤ 1048576 := by have := hH.2.le; rw [hH.len] at this; omega
  clear hB2 hH
  go_wp2_with fail
  refine (parts_any _ _ _ _ _ _ HB2.out).mono ?_
  rintro e w' ⟨rfl, hw⟩
  have hw2 := hw.symm
  subst hw2
  go_wp2_with fail
  refine (concat_any a1 n c1 ss _ HI2.out (by omega)).mono ?_
  rintro e w3 ⟨rfl, hb3⟩
  have HR : Hid (Ready w1.heap.size w1.heap.size pv ps ss a1 n w3) := ⟨HI2.out.below hb3, HB2.out.below hb3, HH.out, by omega⟩
  have HL : Hid (Below w.heap.size w w3) := (hb1.trans (hb2.mono hb1.size)).trans (hb3.mono (Nat.le_trans hb1.size hb2.size))
  clear hb1 hb2 hb3 HB2 HI2 HI1 HI
  obtain ⟨B, hB⟩ : ∃ B, B = w1.heap.size := ⟨_, rfl⟩
  rw [← hB] at HR ⊢
  clear hB
  have hq : (((ps.length : Int) == 0) == (((mkS (cat ss)).size : Int) == 0)) = true := by
    have := tot_zero_iff ss ps HH.out
    rw [mkS_size]
    by_cases h0 : ps.length = 0
    · have := this.2 h0; simp [h0, this]
    · have h1 : ¬ (cat ss).length = 0 := fun e => h0 (this.1 e)
      have a1 : ((ps.length : Int) == 0) = false := by simpa using h0
      have a2 : (((cat ss).length : Int) == 0) = false := by simpa using h1
      rw [a1, a2]; rfl
  go_wp2_with fail
  clear hq
  obtain ⟨i0, hi, hz0, hz1, hz2⟩ := info_parts Try.info5
  have HM0 : Hid (MRel ss ps w3 0 0 w3) := ⟨by simpa using HH.out.1.symm, Below.refl _ _⟩
  go_loopw [5, 6, 7, 8, 9] (fun v5 v6 v7 v8 v9 wr => ∃ k i : Nat, k ≤ n ∧ i ≤ ps.length ∧ v5 = .int .i64 k ∧ v6 = .int .i64 i ∧ MRel ss ps w3 k i wr) (fun v5 _ _ _ _ _ => n - (intOf v5).toNat)
  case atStart => exact ⟨0, 0, Nat.zero_le _, Nat.zero_le _, rfl, rfl, HM0.out⟩
  case round =>
    obtain ⟨k, i, hk, hip, rfl, rfl, hM⟩ := hrel
    clear HM0
    have HM : Hid (MRel ss ps w3 k i wr) := hM
    have HS0 : Hid (SRel ss w3 k k (.slice none 0 0) [] wr) := ⟨by simp, World.ownsRow_nil _ _ _ _, hM.2⟩
    clear hM
    obtain ⟨wo, rfl⟩ : ∃ wo : World, wo = wr := ⟨_, rfl⟩
    go_upto_block 2 with fail
    go_cut [5, 7] (fun v5 v7 wx => SEnd ss w3 k n v5 v7 wx)
    case first =>
      go_wp2_with fail
      go_loopw [5, 7] (fun v5 v7 wr => ∃ (k' : Nat) (run : List UInt8), k ≤ k' ∧ k' ≤ n ∧ v5 = .int .i64 k' ∧ SRel ss w3 k k' v7 run wr) (fun v5 _ _ => n - (intOf v5).toNat)
      case atStart => exact ⟨k, [], Nat.le_refl _, hk, rfl, HS0.out⟩
      case round =>
        obtain ⟨k', run, hkk, hk', rfl, hS⟩ := hrel
        clear HS0
        have HS : Hid (SRel ss w3 k k' u7 run wr) := hS
        have hI := HR.out.1.below hS.2.2
        obtain ⟨hl, hm, hsz2, hv⟩ := hI
        by_cases hlt : k' < n
        · obtain ⟨b, off, rfl, hbl, hc⟩ := hv (by omega)
          have hkl : k' < ss.length := by omega
          have hcell : wr.cell? ⟨b, off + k', none⟩ = some (.string ss[k']) := hc k' hkl
          have hrl : run.length ≤ 1048576 := Nat.le_trans (cat_drop_le ss k k' run hS.1) HR.out.2.2.2
          have hown := hS.2.1
          have hbs : w3.heap.size ≤ wr.heap.size := hS.2.2.size
          clear hS hc hv hsz2 hm
          by_cases hsh : ss[k'].size < 4096
          · go_wp2_with (at_builtin; refine Lib.wpList_append_own_string _ rfl _ _ 33 9 rfl w3.heap.size 5 i0 Try.underlying33 Try.underlying9 hi hz0 hz1 hz2 _ _ _ rfl hown ss[k'] rfl (by unfold maxLen; omega) (by omega) hbs ?_; intro v' w5 hown' hgrow _)
            go_roundw
            case rel => exact ⟨k' + 1, _, by omega, by omega, by go_num, HS.out.step hkl hsh hown' hgrow⟩
            case measure => simp [intOf]; omega
          · go_wp2_with fail
            go_meet
            exact ⟨k', run, hkk, hk', rfl, HS.out, fun _ => hsh⟩
        · go_wp2_with fail
          go_meet
          exact ⟨k', run, hkk, hk', rfl, HS.out, fun h => absurd h (by omega)⟩
    case rest =>
    obtain ⟨k', run, hkk, hk', rfl, hS, hlong⟩ := hcut
    have HP0 : Hid (PRel ps wc i i (.slice none 0 0) [] wc) := ⟨by simp, World.ownsRow_nil _ _ _ _, Below.refl _ _⟩
    have HS : Hid (SRel ss w3 k k' u7 run wc) := hS
    have HLg : Hid (∀ h : k' < ss.length, ¬ ss[k'].size < 4096) := hlong
    have HR5 : Hid (Ready B B pv ps ss a1 n wc) := ⟨HR.out.1.below hS.2.2, HR.out.2.1.below hS.2.2, HR.out.2.2⟩
    have hw5 : w3.heap.size ≤ wc.heap.size := hS.2.2.size
    clear hS hlong HS0
    obtain ⟨w5, rfl⟩ : ∃ w5 : World, w5 = wc := ⟨_, rfl⟩
    go_upto_block 4 with fail
    go_cut [6, 8, 9] (fun v6 v8 v9 wx => PEnd ps w5 i v6 v8 wx)
    case first =>
      go_wp2_with fail
      go_loopw [6, 8, 9] (fun v6 v8 v9 wr => ∃ (i' : Nat) (run : List UInt8), i' ≤ ps.length ∧ v6 = .int .i64 i' ∧ PRel ps w5 i i' v8 run wr) (fun v6 _ _ _ => ps.length - (intOf v6).toNat)
      case atStart => exact ⟨i, [], hip, rfl, HP0.out⟩
      case round =>
        obtain ⟨i', run2, hi', rfl, hP⟩ := hrel
        clear HP0
        have HP : Hid (PRel ps w5 i i' u8 run2 wr) := hP
        have HB : Hid (BufAt B B pv ps (tot ss) wr) := HR5.out.2.1.below hP.2.2
        by_cases hlt : i' < ps.length
        · have hblk := block_any wr B B _ pv ps HB.out i' hlt
          have hkep := kept_any wr B B _ pv ps HB.out i' hlt
          rcases hpi : ps[i'] with s | ⟨g, bs, cap⟩
          · rw [hpi] at hblk
            have HK : Hid (Calls Try.prog 18 #[.pointer (some ⟨B, 0, none⟩), .int .i64 i'] wr fun e w' => e = .returned (.slice none 0 0) ∧ w' = wr) := hblk
            have HPI : Hid (ps[i'] = .inl s) := hpi
            clear hblk hkep hpi hP
            go_wp2_with fail
            refine HK.out.mono ?_
            rintro e w' ⟨rfl, hw⟩
            have hw2 := hw.symm
            subst hw2
            go_wp2_with fail
            go_meet
            exact ⟨i', run2, hi', rfl, HP.out, fun _ => ⟨s, HPI.out⟩⟩
          · rw [hpi] at hblk hkep
            have HK : Hid (Calls Try.prog 18 #[.pointer (some ⟨B, 0, none⟩), .int .i64 i'] wr fun e w' => e = .returned (.slice (some ⟨g, 0, none⟩) bs.length cap) ∧ w' = wr) := hblk
            have HK2 : Hid (Calls Try.prog 19 #[.pointer (some ⟨B, 0, none⟩), .int .i64 i'] wr fun e w' => e = .returned (.string ByteArray.empty) ∧ w' = wr) := hkep
            have HPI : Hid (ps[i'] = .inr (g, bs, cap)) := hpi
            have hpo := HB.out.2.2.2.1 ps[i'] (List.getElem_mem _)
            have hne := HR5.out.2.2.1.2 ps[i'] (List.getElem_mem _)
            rw [hpi] at hpo hne
            have hrow : wr.ownsRow B 5 1 (.slice (some ⟨g, 0, none⟩) bs.length cap) bs.length (bcells bs) := hpo.2
            have hcap : cap ≤ 65536 := hpo.1
            have hb0 : 0 < bs.length := hne
            have hbc : bs.length ≤ cap := by
              rcases hrow.2 with ⟨h', _⟩ | ⟨g', cap'', cur, h', _, _, h6, _⟩
              · simp at h'
              · simp at h'; omega
            have hbz : ((bs.length : Int) == 0) = false := beq_eq_false_iff_ne.2 (by omega)
            have hbz2 : decide ((cap : Int) < (bs.length : Int)) = false := decide_eq_false (by omega)
            have hrl : run2.length ≤ 1048576 := by
              have := text_drop_le ps i i' run2 hP.1
              rw [HR5.out.2.2.1.len] at this
              have := HR5.out.2.2.2
              omega
            have hown := hP.2.1
            have hbs : w5.heap.size ≤ wr.heap.size := hP.2.2.size
            have hnews : ∀ j u, (bcells bs)[j]? = some u → wr.cell? ((⟨g, 0, none⟩ : Addr).add j) = some u := hrow.cells (g := g) rfl
            have h1c : ∀ u ∈ bcells bs, u.oneCell' = true := by
              intro u hu
              simp only [bcells, List.mem_map] at hu
              obtain ⟨x, _, rfl⟩ := hu
              rfl
            have hbl := bcells_length bs
            have HNW : Hid ((bcells bs).length = bs.length * 1) := (by rw [hbl, Nat.mul_one] : (bcells bs).length = bs.length * 1)
            have HN1 : Hid (∀ j u, (bcells bs)[j]? = some u → wr.cell? ((⟨g, 0, none⟩ : Addr).add j) = some u) := hnews
            have HN2 : Hid (∀ u ∈ bcells bs, u.oneCell' = true) := h1c
            clear hblk hkep hpi hP hpo hne hrow hnews h1c hbl
            go_wp2_with fail
            refine HK.out.mono ?_
            rintro e w' ⟨rfl, hw⟩
            have hw2 := hw.symm
            subst hw2
            go_wp2_with fail
            refine HK.out.mono ?_
            rintro e w' ⟨rfl, hw⟩
            have hw2 := hw.symm
            subst hw2
            go_wp2_with fail
            refine HK2.out.mono ?_
            rintro e w' ⟨rfl, hw⟩
            have hw2 := hw.symm
            subst hw2
            go_wp2_with (at_builtin; refine wpList_append_own _ rfl _ _ 33 rfl w5.heap.size 5 i0 (.int .u8 0) 1 1 Try.underlying33 hi hz0 hz1 hz2 rfl (by decide) _ _ _ rfl hown ⟨g, 0, none⟩ bs.length cap (bcells bs) rfl HNW.out HN1.out HN2.out (by unfold maxLen; omega) (by omega) hbs ?_; intro v' w6 hown' hgrow _)
            go_roundw
            case rel => exact ⟨i' + 1, _, by omega, by go_num, HP.out.step hlt HPI.out hown' hgrow⟩
            case measure => simp [intOf]; omega
        · go_wp2_with fail
          go_meet
          exact ⟨i', run2, hi', rfl, HP.out, fun h => absurd h hlt⟩
    case rest =>
    obtain ⟨i', run2, hi', rfl, hP, hkept⟩ := hcut
    obtain ⟨hrun, htk⟩ := mirror_meet HM.out HS.out hP HLg.out hkept
    subst hrun
    have s7 := own_string (own_below HS.out.2.1 hP.2.2)
    have s8 := own_string hP.2.1
    have HI6 : Hid (IsStrs wc a1 n ss) := HR5.out.1.below hP.2.2
    have HB6 : Hid (BufAt B B pv ps (tot ss) wc) := HR5.out.2.1.below hP.2.2
    have HL6 : Hid (Below w3.heap.size w3 wc) := HS.out.2.2.trans (hP.2.2.mono HS.out.2.2.size)
    have hln : ss.length = n := HI6.out.1
    have hLg := HLg.out
    clear hP HP0 HM HS HR5
    by_cases hkn : k' = n
    · have hin : i' = ps.length := by
        rcases Nat.lt_or_ge i' ps.length with h | h
        · obtain ⟨s, hs⟩ := hkept h
          rw [List.drop_of_length_le (by omega), ptoks_drop ps i' h, hs] at htk
          cases htk
        · omega
      clear hkept htk hLg HLg
      subst hkn
      subst hin
      go_wp2_with fail
      go_ret
      exact ⟨rfl, HL.out.trans (HL6.out.mono HL.out.size)⟩
    · have hkl : k' < ss.length := by omega
      have htl := toks_drop_long ss k' hkl (hLg hkl)
      have hil : i' < ps.length := by
        rcases Nat.lt_or_ge i' ps.length with h | h
        · exact h
        · rw [htl, List.drop_of_length_le (l := ps) (i := i') h] at htk
          cases htk
      obtain ⟨s, hs⟩ := hkept hil
      rw [htl, ptoks_drop ps i' hil, hs] at htk
      simp only [ptok, List.cons_append, List.nil_append, List.cons.injEq, Sum.inr.injEq] at htk
      obtain ⟨hsk, htk2⟩ := htk
      have HK : Hid (∀ d, Calls Try.prog 19 #[.pointer (some ⟨B, 0, none⟩), .int .i64 i'] (wc.drewN d) fun e w' => e = .returned (.string s) ∧ w' = wc.drewN d) := by
        intro d
        have hkep := kept_any (wc.drewN d) B B _ pv ps (HB6.out.drewN d) i' hil
        rw [hs] at hkep
        exact hkep
      obtain ⟨b, off, rfl, hbl, hc⟩ := HI6.out.2.2.2 (by omega)
      have hcell : wc.cell? ⟨b, off + k', none⟩ = some (.string s) := by rw [← hsk]; exact hc k' hkl
      have HT : Hid (toks (ss.drop (k' + 1)) = ptoks (ps.drop (i' + 1))) := htk2
      have hk1 : ((k' : Int) == (n : Int)) = false := beq_eq_false_iff_ne.2 (by omega)
      have hi1 : ((i' : Int) == (ps.length : Int)) = false := beq_eq_false_iff_ne.2 (by omega)
      have hk2 : (k' : Int) < (n : Int) := by omega
      clear hkept hLg HLg htl hs hsk htk2 hc
      go_wp2_with fail
      go_quiet ((go_at_call 19; exact Calls.quiet_of_same (HK.out _)))
      go_wp2_with fail
      go_roundw
      case rel => exact ⟨k' + 1, i' + 1, by omega, by omega, by go_num, by go_num, HT.out, HL6.out.trans (below_drewN' _)⟩
      case measure => simp [intOf]; omega
end Go.Proofs.Qxb6601673a
