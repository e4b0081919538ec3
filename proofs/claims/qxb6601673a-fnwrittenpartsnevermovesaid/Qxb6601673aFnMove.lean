/-
  SEAT b6601673a: FnWrittenPartsNeverMove: the walk.
-/
import Derived.Test.Qxb6601673aMove
import Derived.Deep.CutBlock
namespace Go.Proofs.Qxb6601673a
open Go.ChangeShapes Go.WideShapes Go.ChangeAt Go.RowKit
set_option linter.unusedVariables false
attribute [local go_sem] Go.wp_at_zero Go.wp_at_succ

theorem mkS_app2 (a : List UInt8) (s : ByteArray) : mkS (a ++ s.data.toList) = mkS a ++ s := by
  have h : (mkS (a ++ s.data.toList)).data = (mkS a ++ s).data := by
    rw [ByteArray.data_append]
    apply Array.ext'
    simp [mkS]
  exact ByteArray.ext h

theorem bval_str (W : World) (base : Nat) (p : LPart) (h : pOk W base p) : (convert 33 9 (bval p)).run Try.prog W = .ok (.string (mkS (btx p))) W := by
  rcases p with s | ⟨g, bs, cap⟩
  · exact own_string (base := 0) (l := []) (World.ownsRow_nil W 0 5 1)
  · exact own_string h.2

theorem bval_form (p : LPart) : ∃ a' l' c', bval p = .slice a' l' c' ∧ a'.isSome = isB p ∧ c' = capP p ∧ l' = (btx p).length := by
  rcases p with s | ⟨g, bs, cap⟩
  · exact ⟨_, _, _, rfl, rfl, rfl, rfl⟩
  · exact ⟨_, _, _, rfl, rfl, rfl, rfl⟩

/-- The first bytes of an owned row, turned to a string. -/
theorem own_prefix {W : World} {base g cap : Nat} {bs t : List UInt8} (h : W.ownsRow base 5 1 (.slice (some ⟨g, 0, none⟩) (bs ++ t).length cap) (bs ++ t).length (bcells (bs ++ t))) :
    (convert 33 9 (.slice (some ⟨g, 0, none⟩) bs.length cap)).run Try.prog W = .ok (.string (mkS bs)) W := by
  refine run_convert_bytes_back W 33 9 5 _ cap bs Try.underlying33 Try.underlying5 Try.underlying9 fun j hj => ?_
  refine h.cells (g := g) rfl j _ ?_
  rw [bcells_append, List.getElem?_append_left (by rw [bcells_length]; exact hj)]
  simp [bcells, hj]

theorem Snap.drewN {ps : List LPart} {H k1 k2 k3 k4 : Nat} {w : World} (h : Snap ps H k1 k2 k3 k4 w) (d : Nat) : Snap ps H k1 k2 k3 k4 (w.drewN d) := h.oth (OthT.drewN w d)

/-- Behind loop 1's k rounds. -/
def L1 (ps : List LPart) (B bb N : Nat) (pv : Value) (w3 : World) (k1 k2 k3 k4 : Nat) (wr : World) : Prop :=
  Snap ps w3.heap.size k1 k2 k3 k4 wr ∧ BufAt B bb pv ps N wr ∧ Below w3.heap.size w3 wr

theorem L1.s1 {ps : List LPart} {B bb N k k2 k3 k4 : Nat} {pv : Value} {w3 wr : World} (hB : BufAt B bb pv ps N w3) (h : L1 ps B bb N pv w3 k k2 k3 k4 wr) (hk : k < ps.length) : L1 ps B bb N pv w3 (k + 1) k2 k3 k4 (wr.setCell ⟨w3.heap.size, k, none⟩ (fK ps[k])) := by
  have hb := h.2.2.setCell (p := ⟨w3.heap.size, k, none⟩) (Nat.le_refl _) (fK ps[k])
  exact ⟨h.1.s1 hk, hB.below hb, hb⟩
theorem L1.s2 {ps : List LPart} {B bb N k1 k k3 k4 : Nat} {pv : Value} {w3 wr : World} (hB : BufAt B bb pv ps N w3) (h : L1 ps B bb N pv w3 k1 k k3 k4 wr) (hk : k < ps.length) : L1 ps B bb N pv w3 k1 (k + 1) k3 k4 (wr.setCell ⟨w3.heap.size + 1, k, none⟩ (fB ps[k])) := by
  have hb := h.2.2.setCell (p := ⟨w3.heap.size + 1, k, none⟩) (Nat.le_succ _) (fB ps[k])
  exact ⟨h.1.s2 hk, hB.below hb, hb⟩
theorem L1.s3 {ps : List LPart} {B bb N k1 k2 k k4 : Nat} {pv : Value} {w3 wr : World} (hB : BufAt B bb pv ps N w3) (h : L1 ps B bb N pv w3 k1 k2 k k4 wr) (hk : k < ps.length) : L1 ps B bb N pv w3 k1 k2 (k + 1) k4 (wr.setCell ⟨w3.heap.size + 2, k, none⟩ (fI ps[k])) := by
  have hb := h.2.2.setCell (p := ⟨w3.heap.size + 2, k, none⟩) (by show w3.heap.size ≤ w3.heap.size + 2; omega) (fI ps[k])
  exact ⟨h.1.s3 hk, hB.below hb, hb⟩
theorem L1.s4 {ps : List LPart} {B bb N k1 k2 k3 k : Nat} {pv : Value} {w3 wr : World} (hB : BufAt B bb pv ps N w3) (h : L1 ps B bb N pv w3 k1 k2 k3 k wr) (hk : k < ps.length) : L1 ps B bb N pv w3 k1 k2 k3 (k + 1) (wr.setCell ⟨w3.heap.size + 3, k, none⟩ (fC ps[k])) := by
  have hb := h.2.2.setCell (p := ⟨w3.heap.size + 3, k, none⟩) (by show w3.heap.size ≤ w3.heap.size + 3; omega) (fC ps[k])
  exact ⟨h.1.s4 hk, hB.below hb, hb⟩

/-- Behind k of the later writes. -/
def L2 (ps : List LPart) (ss ss' : List ByteArray) (B H : Nat) (w2 : World) (k : Nat) (wr : World) : Prop :=
  (∃ pv' ps', BufAt B B pv' ps' (tot ss + tot (ss'.take k)) wr ∧ Ext ps ps' ∧ Holds ps' (ss ++ ss'.take k)) ∧ Snap ps H ps.length ps.length ps.length ps.length wr ∧ Below B w2 wr

theorem L2.step {ps : List LPart} {ss ss' : List ByteArray} {B H k : Nat} {w2 wr w1 : World} {ps' ps1 : List LPart} {pv1 : Value} (hk : k < ss'.length) (hext : Ext ps ps') (hH : Holds ps' (ss ++ ss'.take k)) (hsn : Snap ps H ps.length ps.length ps.length ps.length wr) (hb : Below B w2 wr)
    (hB : BufAt B B pv1 ps1 (tot ss + tot (ss'.take k) + ss'[k].size) w1) (hw : Wrote ps' ss'[k] ps1) (hb1 : Below B wr w1) (ho : OthT wr w1) : L2 ps ss ss' B H w2 (k + 1) w1 := by
  refine ⟨⟨pv1, ps1, ?_, hext.trans hw.2.1, ?_⟩, hsn.oth ho, hb.trans hb1⟩
  · rw [tot_take_succ ss' k hk, ← Nat.add_assoc]; exact hB
  · rw [List.take_succ_eq_append_getElem hk, ← List.append_assoc]; exact hH.wrote hw

set_option maxRecDepth 100000 in
set_option maxHeartbeats 4000000 in
theorem move_walk (a a' : Option Addr) (n c n' c' : Nat) (ss ss' : List ByteArray) (w : World) (h : IsStrs w a n ss) (h' : IsStrs w a' n' ss') :
    Calls Try.prog 7 #[.slice a n c, .slice a' n' c'] w fun e w' => e = .returned (.bool true) ∧ Below w.heap.size w w' := by
  have HI : Hid (IsStrs w a n ss) := h
  have HJ : Hid (IsStrs w a' n' ss') := h'
  have hnm : n ≤ 9223372036854775807 := h.2.1
  have hnm' : n' ≤ 9223372036854775807 := h'.2.1
  clear h h'
  go_enter Try.func7, Try.ntmps7
  go_wp2_with fail
  refine (bytes24_any a a' n c n' c' ss ss' w HI.out HJ.out).mono ?_
  rintro e w' ⟨⟨t, rfl⟩, hw⟩
  have hw2 := hw.symm
  subst hw2
  cases t
  · go_wp2_with fail
    go_ret
    exact ⟨rfl, Below.refl _ _⟩
  go_wp2_with fail
  refine (size_any a n c ss _ HI.out).mono ?_
  rintro e w' ⟨⟨t, rfl, ht0, ht⟩, hw⟩
  have hw2 := hw.symm
  subst hw2
  by_cases hbig : 1048576 < t
  · go_wp2_with fail
    go_ret
    exact ⟨rfl, Below.refl _ _⟩
  go_wp2_with fail
  refine (size_any a' n' c' ss' _ HJ.out).mono ?_
  rintro e w' ⟨⟨t2, rfl, ht20, ht2⟩, hw⟩
  have hw2 := hw.symm
  subst hw2
  go_wp2_with fail
  refine (size_any a n c ss _ HI.out).mono ?_
  rintro e w' ⟨⟨t3, rfl, ht30, ht3⟩, hw⟩
  have hw2 := hw.symm
  subst hw2
  have b2 : t2 ≤ 4194304 := by omega
  have b3 : t3 ≤ 4194304 := by omega
  by_cases hbig2 : 1048576 - t3 < t2
  · clear ht ht2 ht3
    go_wp2_with fail
    go_ret
    exact ⟨rfl, Below.refl _ _⟩
  have hsz : 16 * n + tot ss + (16 * n' + tot ss') ≤ 1048576 := by omega
  clear ht ht2 ht3
  go_wp2_with fail
  refine (clone_any a n c ss _ HI.out (by omega)).mono ?_
  rintro e w1 ⟨⟨a1, c1, rfl, hI1⟩, hb1⟩
  have HI1 : Hid (IsStrs w1 a1 n ss) := hI1
  have HJ1 : Hid (IsStrs w1 a' n' ss') := HJ.out.below hb1
  have HL1 : Hid (Below w.heap.size w w1) := hb1
  clear hI1 hb1 HI HJ
  go_wp2_with fail
  refine (clone_any a' n' c' ss' _ HJ1.out (by omega)).mono ?_
  rintro e w2 ⟨⟨a2, c2, rfl, hJ2⟩, hb2⟩
  have HI2 : Hid (IsStrs w2 a1 n ss) := HI1.out.below hb2
  have HJ2 : Hid (IsStrs w2 a2 n' ss') := hJ2
  have HL2 : Hid (Below w.heap.size w w2) := HL1.out.trans (hb2.mono HL1.out.size)
  clear hJ2 hb2 HI1 HJ1 HL1
  go_wp2_with fail
  refine (build_any a1 n c1 ss _ HI2.out (by omega)).mono ?_
  rintro e w3 ⟨rfl, ⟨pv, ps, hB3, hH⟩, hb3⟩
  obtain ⟨B, hB⟩ : ∃ B, B = w2.heap.size := ⟨_, rfl⟩
  have hwB : w.heap.size ≤ B := by rw [hB]; exact HL2.out.size
  have HBe : Hid (B = w2.heap.size) := hB
  rw [← hB] at hB3 hb3 ⊢
  have HB3 : Hid (BufAt B B pv ps (tot ss) w3) := hB3
  have HL3 : Hid (Below B w2 w3) := hb3
  have HH : Hid (Holds ps ss) := hH
  have hnp : ps.length ≤ 1048576 := by have := hH.2.le; rw [hH.len] at this; omega
  clear hB3 hb3 hH hB
  go_wp2_with fail
  refine (parts_any _ _ _ _ _ _ HB3.out).mono ?_
  rintro e w' ⟨rfl, hw⟩
  have hw2 := hw.symm
  subst hw2
  have mk9 := run_mkRow 22 9 (.string ByteArray.empty) 16 Try.underlying22 Try.info9 rfl ps.length (by omega) hnp
  have mk4 := run_mkRow 40 4 (.bool false) 1 Try.underlying40 Try.info4 rfl ps.length (by omega) hnp
  have mk3 := run_mkRow 41 3 (.int .i64 0) 8 Try.underlying41 Try.info3 rfl ps.length (by omega) hnp
  go_upto_block 0 with fail
  go_cut [7, 8, 9, 10, 11, 12] (fun v7 v8 v9 v10 v11 v12 wx => v7 = .slice (some ⟨w3.heap.size, 0, none⟩) ps.length ps.length ∧ v8 = .slice (some ⟨w3.heap.size + 1, 0, none⟩) ps.length ps.length ∧ v9 = .slice (some ⟨w3.heap.size + 2, 0, none⟩) ps.length ps.length ∧ v10 = .slice (some ⟨w3.heap.size + 3, 0, none⟩) ps.length ps.length ∧ L1 ps B B (tot ss) pv w3 ps.length ps.length ps.length ps.length wx)
  case first =>
    have hbnew : Below w3.heap.size w3 ((((w3.alloc (.cells (mkRow (.string ByteArray.empty) ps.length) 9)).alloc (.cells (mkRow (.string ByteArray.empty) ps.length) 9)).alloc (.cells (mkRow (.bool false) ps.length) 4)).alloc (.cells (mkRow (.int .i64 0) ps.length) 3)) :=
      ((((Below.refl _ w3).alloc (Nat.le_refl _) _).alloc (by simp) _).alloc (by simp; omega) _).alloc (by simp; omega) _
    have H0 : Hid (L1 ps B B (tot ss) pv w3 0 0 0 0 ((((w3.alloc (.cells (mkRow (.string ByteArray.empty) ps.length) 9)).alloc (.cells (mkRow (.string ByteArray.empty) ps.length) 9)).alloc (.cells (mkRow (.bool false) ps.length) 4)).alloc (.cells (mkRow (.int .i64 0) ps.length) 3))) :=
      ⟨Snap.new w3 ps hnp, HB3.out.below hbnew, hbnew⟩
    clear mk9 mk4 mk3 hbnew
    go_wp2_with fail
    go_loopw [11, 12] (fun v11 v12 wr => ∃ k : Nat, k ≤ ps.length ∧ v11 = .int .i64 k ∧ L1 ps B B (tot ss) pv w3 k k k k wr) (fun v11 _ _ => ps.length - (intOf v11).toNat)
    case atStart => exact ⟨0, Nat.zero_le _, rfl, H0.out⟩
    case round =>
      obtain ⟨k, hk, rfl, hL⟩ := hrel
      have HL : Hid (L1 ps B B (tot ss) pv w3 k k k k wr) := hL
      clear hL H0
      by_cases hlt : k < ps.length
      · have hki : (k : Int) < (ps.length : Int) := by omega
        have hk0 : (0 : Int) ≤ (k : Int) := Int.natCast_nonneg _
        go_upto_region 20 with fail
        go_cut [] (fun wx => L1 ps B B (tot ss) pv w3 (k + 1) k k k wx)
        case first =>
          obtain ⟨u1, d1⟩ := HL.out.1.1.someAt (Nat.le_of_lt hlt) k hlt
          have e1 : wr.frozen? ⟨w3.heap.size, k, none⟩ = false := HL.out.1.1.free k
          have HS : Hid (L1 ps B B (tot ss) pv w3 (k + 1) k k k (wr.setCell ⟨w3.heap.size, k, none⟩ (fK ps[k]))) := HL.out.s1 HB3.out hlt
          obtain ⟨ks, hks⟩ : ∃ ks, ks = kstr ps[k] := ⟨_, rfl⟩
          have kc := kept_any wr B B _ pv ps HL.out.2.1 k hlt
          unfold fK at HS
          rw [← hks] at kc HS
          have HKC : Hid (Calls Try.prog 19 #[.pointer (some ⟨B, 0, none⟩), .int .i64 k] wr fun e w' => e = .returned (.string ks) ∧ w' = wr) := kc
          clear hks kc
          go_wp2_with fail
          refine HKC.out.mono ?_
          rintro e w' ⟨rfl, hw⟩
          have hw2 := hw.symm
          subst hw2
          go_wp2_with fail
          go_meet
          exact HS.out
        case rest =>
        have HL2' : Hid (L1 ps B B (tot ss) pv w3 (k + 1) k k k wc) := hcut
        clear hcut
        obtain ⟨ba, bl, bc, hbv, hba, hbc, hbl⟩ := bval_form ps[k]
        have bcl := block_any wc B B _ pv ps HL2'.out.2.1 k hlt
        rw [hbv] at bcl
        have HBV : Hid (bval ps[k] = .slice ba bl bc) := hbv
        have HBA : Hid (ba.isSome = isB ps[k]) := hba
        have HBC : Hid (bc = capP ps[k]) := hbc
        have HBL : Hid (bl = (btx ps[k]).length) := hbl
        clear hbv hba hbc hbl
        go_wp2_with fail
        refine bcl.mono ?_
        clear bcl
        rintro e w' ⟨rfl, hw⟩
        have hw2 := hw.symm
        subst hw2
        obtain ⟨w5, rfl⟩ : ∃ w5 : World, w5 = wc := ⟨_, rfl⟩
        go_upto_region 22 with fail
        go_cut [] (fun wx => L1 ps B B (tot ss) pv w3 (k + 1) k (k + 1) k wx)
        case first =>
          obtain ⟨u1, d1⟩ := HL2'.out.1.2.2.1.someAt (Nat.le_of_lt hlt) k hlt
          have d1' : w5.cell? ⟨w3.heap.size + 1 + 1, k, none⟩ = some u1 := d1
          have e1 : w5.frozen? ⟨w3.heap.size + 1 + 1, k, none⟩ = false := HL2'.out.1.2.2.1.free k
          have HS : Hid (L1 ps B B (tot ss) pv w3 (k + 1) k (k + 1) k (w5.setCell ⟨w3.heap.size + 1 + 1, k, none⟩ (.bool ba.isSome))) := by
            have := HL2'.out.s3 HB3.out hlt
            rw [HBA.out]
            exact this
          clear d1
          go_wp2_with fail
          go_meet
          exact HS.out
        case rest =>
        have HL3' : Hid (L1 ps B B (tot ss) pv w3 (k + 1) k (k + 1) k wc) := hcut
        clear hcut HL2'
        obtain ⟨w6, rfl⟩ : ∃ w6 : World, w6 = wc := ⟨_, rfl⟩
        go_upto_region 23 with fail
        go_cut [] (fun wx => L1 ps B B (tot ss) pv w3 (k + 1) (k + 1) (k + 1) k wx)
        case first =>
          obtain ⟨u1, d1⟩ := HL3'.out.1.2.1.someAt (Nat.le_of_lt hlt) k hlt
          have e1 : w6.frozen? ⟨w3.heap.size + 1, k, none⟩ = false := HL3'.out.1.2.1.free k
          have hcv := bval_str w6 B ps[k] (HL3'.out.2.1.2.2.2.1 ps[k] (List.getElem_mem _))
          rw [HBV.out] at hcv
          have HS : Hid (L1 ps B B (tot ss) pv w3 (k + 1) (k + 1) (k + 1) k (w6.setCell ⟨w3.heap.size + 1, k, none⟩ (.string (mkS (btx ps[k]))))) := HL3'.out.s2 HB3.out hlt
          obtain ⟨bx, hbx⟩ : ∃ bx, bx = mkS (btx ps[k]) := ⟨_, rfl⟩
          rw [← hbx] at hcv HS
          clear hbx
          go_wp2_with fail
          go_meet
          exact HS.out
        case rest =>
        have HL4' : Hid (L1 ps B B (tot ss) pv w3 (k + 1) (k + 1) (k + 1) k wc) := hcut
        clear hcut HL3'
        obtain ⟨w7, rfl⟩ : ∃ w7 : World, w7 = wc := ⟨_, rfl⟩
        obtain ⟨u1, d1⟩ := HL4'.out.1.2.2.2.someAt (Nat.le_of_lt hlt) k hlt
        have d1' : w7.cell? ⟨w3.heap.size + 1 + 1 + 1, k, none⟩ = some u1 := d1
        have e1 : w7.frozen? ⟨w3.heap.size + 1 + 1 + 1, k, none⟩ = false := HL4'.out.1.2.2.2.free k
        have HS : Hid (L1 ps B B (tot ss) pv w3 (k + 1) (k + 1) (k + 1) (k + 1) (w7.setCell ⟨w3.heap.size + 1 + 1 + 1, k, none⟩ (.int .i64 bc))) := by
          have := HL4'.out.s4 HB3.out hlt
          rw [HBC.out]
          exact this
        clear d1
        go_wp2_with fail
        go_roundw
        case rel => exact ⟨k + 1, by omega, by go_num, HS.out⟩
        case measure => simp [intOf]; omega
      · have hkn : k = ps.length := by omega
        go_wp2_with fail
        go_meet
        have hL := HL.out
        rw [hkn] at hL
        exact ⟨rfl, rfl, rfl, rfl, hL⟩
  case rest =>
  obtain ⟨rfl, rfl, rfl, rfl, hL⟩ := hcut
  clear mk9 mk4 mk3
  have hB3 : B ≤ w3.heap.size := by rw [HBe.out]; exact HL3.out.size
  have H0 : Hid (L2 ps ss ss' B w3.heap.size w2 0 wc) :=
    ⟨⟨pv, ps, by simpa [tot] using hL.2.1, Ext.refl _, by simpa using HH.out⟩, hL.1, HL3.out.trans (hL.2.2.mono hB3)⟩
  obtain ⟨H, hHe⟩ : ∃ H, H = w3.heap.size := ⟨_, rfl⟩
  rw [← hHe] at H0 ⊢
  clear hL hHe HB3 HL3
  go_wp2_with fail
  go_loopw [13] (fun v13 wr => ∃ k : Nat, k ≤ n' ∧ v13 = .int .i64 k ∧ L2 ps ss ss' B H w2 k wr) (fun v13 _ => n' - (intOf v13).toNat)
  case atStart => exact ⟨0, Nat.zero_le _, rfl, H0.out⟩
  case round =>
    obtain ⟨k, hk, rfl, hL⟩ := hrel
    have HL : Hid (L2 ps ss ss' B H w2 k wr) := hL
    have hl' : ss'.length = n' := HJ2.out.1
    clear hL H0
    by_cases hlt : k < n'
    · obtain ⟨b, off, ha2, hbl, hc⟩ := HJ2.out.2.2.2 (by omega)
      subst ha2
      have hkl : k < ss'.length := by omega
      obtain ⟨⟨pv', ps', hB', hext, hH'⟩, hsn, hb⟩ := HL.out
      have hcell : wr.cell? ⟨b, off + k, none⟩ = some (.string ss'[k]) := (hb.cell (p := ⟨b, off + k, none⟩) (by rw [HBe.out]; exact hbl)).trans (hc k hkl)
      have hN : tot ss + tot (ss'.take k) + ss'[k].size ≤ 1048576 := by
        have := tot_take_succ ss' k hkl
        have := tot_take_le ss' (k + 1)
        omega
      have htl : (text ps').length = tot ss + tot (ss'.take k) := by rw [hH'.len, tot_append]
      have HW : Hid (∀ w1 pv1 ps1, BufAt B B pv1 ps1 (tot ss + tot (ss'.take k) + ss'[k].size) w1 → Wrote ps' ss'[k] ps1 → Below B wr w1 → OthT wr w1 → L2 ps ss ss' B H w2 (k + 1) w1) :=
        fun w1 pv1 ps1 h1 h2 h3 h4 => L2.step hkl hext hH' hsn hb h1 h2 h3 h4
      have HC : Hid (Calls Try.prog 15 #[.pointer (some ⟨B, 0, none⟩), .string ss'[k]] wr fun e w' => e = .returned (.tuple #[]) ∧ (∃ pv1 ps1, BufAt B B pv1 ps1 (tot ss + tot (ss'.take k) + ss'[k].size) w' ∧ Wrote ps' ss'[k] ps1) ∧ Below B wr w' ∧ OthT wr w') :=
        write_any wr B B _ pv' ps' ss'[k] hB' hH'.2 htl hN
      obtain ⟨s, hs⟩ : ∃ s, s = ss'[k] := ⟨_, rfl⟩
      rw [← hs] at hcell HC HW
      clear hs hB' hext hH' hsn hb hc hN htl HL
      go_wp2_with fail
      refine HC.out.mono ?_
      rintro e w1 ⟨rfl, ⟨pv1, ps1, hB1, hw1⟩, hbel1, hoth1⟩
      have H1 : Hid (L2 ps ss ss' B H w2 (k + 1) w1) := HW.out w1 pv1 ps1 hB1 hw1 hbel1 hoth1
      clear hB1 hw1 hbel1 hoth1 HW HC
      go_wp2_with fail
      go_roundw
      case rel => exact ⟨k + 1, by omega, by go_num, H1.out⟩
      case measure => simp [intOf]; omega
    · have hkn : k = n' := by omega
      have hlk : ss'.take k = ss' := List.take_of_length_le (by omega)
      obtain ⟨⟨pv', ps', hB', hext, hH'⟩, hsn, hb⟩ := HL.out
      rw [hlk] at hB' hH'
      have HB' : Hid (BufAt B B pv' ps' (tot ss + tot ss') wr) := hB'
      have HE : Hid (Ext ps ps') := hext
      have HH' : Hid (Holds ps' (ss ++ ss')) := hH'
      have HSN : Hid (Snap ps H ps.length ps.length ps.length ps.length wr) := hsn
      have HLb : Hid (Below B w2 wr) := hb
      have hle : decide ((ps'.length : Int) < (ps.length : Int)) = false := decide_eq_false (by have := hext.1; omega)
      have hle2 : decide (ps'.length < ps.length) = false := decide_eq_false (by have := hext.1; omega)
      have hnp' : ps'.length ≤ 1048576 := by have := hH'.2.le; rw [hH'.len, tot_append] at this; omega
      clear hB' hext hH' hsn hb HL hlk
      go_wp2_with fail
      refine (parts_any _ _ _ _ _ _ HB'.out).mono ?_
      rintro e w' ⟨rfl, hw⟩
      have hw2 := hw.symm
      subst hw2
      go_wp2_with fail
      obtain ⟨w8, rfl⟩ : ∃ w8 : World, w8 = wr := ⟨_, rfl⟩
      go_loopw [14, 15] (fun v14 v15 wx => ∃ k : Nat, k ≤ ps.length ∧ v14 = .int .i64 k ∧ Hid (∃ d, wx = w8.drewN d)) (fun v14 _ _ => ps.length - (intOf v14).toNat)
      case atStart => exact ⟨0, Nat.zero_le _, rfl, 0, rfl⟩
      case round =>
        obtain ⟨k, hk, rfl, HD⟩ := hrel
        have HBr : Hid (BufAt B B pv' ps' (tot ss + tot ss') wr) := by obtain ⟨d, rfl⟩ := HD.out; exact HB'.out.drewN d
        have HSr : Hid (Snap ps H ps.length ps.length ps.length ps.length wr) := by obtain ⟨d, rfl⟩ := HD.out; exact HSN.out.drewN d
        have HEnd : Hid (∀ q, ∃ d, wr.drewN q = w8.drewN d) := by
          obtain ⟨d, rfl⟩ := HD.out
          exact fun q => ⟨d + q, by rw [World.drewN_drewN]⟩
        by_cases hlt : k < ps.length
        · have hlt' : k < ps'.length := Nat.lt_of_lt_of_le hlt HE.out.1
          have hki : (k : Int) < (ps.length : Int) := by omega
          have hk0 : (0 : Int) ≤ (k : Int) := Int.natCast_nonneg _
          obtain ⟨hpe, hps⟩ := HE.out.2 k hlt hlt'
          have cK := HSr.out.1.full k hlt
          have cB := HSr.out.2.1.full k hlt
          have cI := HSr.out.2.2.1.full k hlt
          have cC := HSr.out.2.2.2.full k hlt
          have HKC : ∀ q, Calls Try.prog 19 #[.pointer (some ⟨B, 0, none⟩), .int .i64 k] (wr.drewN q) fun e w' => e = .returned (.string (kstr ps'[k])) ∧ w' = wr.drewN q := fun q => kept_any (wr.drewN q) B B _ pv' ps' (HBr.out.drewN q) k hlt'
          have HBC : ∀ q, Calls Try.prog 18 #[.pointer (some ⟨B, 0, none⟩), .int .i64 k] (wr.drewN q) fun e w' => e = .returned (bval ps'[k]) ∧ w' = wr.drewN q := fun q => block_any (wr.drewN q) B B _ pv' ps' (HBr.out.drewN q) k hlt'
          have hpo : ∀ q, pOk (wr.drewN q) B ps'[k] := fun q => (HBr.out.drewN q).2.2.2.1 ps'[k] (List.getElem_mem _)
          rcases hpi : ps[k] with s | ⟨g, bs, cap⟩
          · rw [hpi] at hpe hps cK cB cI cC
            have hp' : ps'[k] = .inl s := hpe
            rw [hp'] at HKC HBC
            have KC : Hid (∀ q, Calls Try.prog 19 #[.pointer (some ⟨B, 0, none⟩), .int .i64 k] (wr.drewN q) fun e w' => e = .returned (.string s) ∧ w' = wr.drewN q) := HKC
            have BC : Hid (∀ q, Calls Try.prog 18 #[.pointer (some ⟨B, 0, none⟩), .int .i64 k] (wr.drewN q) fun e w' => e = .returned (.slice none 0 0) ∧ w' = wr.drewN q) := HBC
            have c1 : wr.cell? ⟨H, k, none⟩ = some (.string s) := cK
            have c2 : wr.cell? ⟨H + 1, k, none⟩ = some (.string ByteArray.empty) := cB
            have c3 : wr.cell? ⟨H + 2, k, none⟩ = some (.bool false) := cI
            have c4 : wr.cell? ⟨H + 3, k, none⟩ = some (.int .i64 0) := cC
            have hcv : ∀ q, (convert 33 9 (.slice none 0 0)).run Try.prog (wr.drewN q) = .ok (.string ByteArray.empty) (wr.drewN q) := fun q => run_convert_bytes_nil (wr.drewN q) 33 5 Try.underlying33 Try.underlying5 0 0 9 Try.underlying9
            clear cK cB cI cC HKC HBC hpe hps hpo hpi hp' HBr HSr
            go_wp2_with fail
            go_quiet ((go_at_call 19; exact Calls.quiet_of_same (KC.out _)))
            go_wp2_with fail
            refine (BC.out _).mono ?_
            rintro e w' ⟨rfl, hw⟩
            subst hw
            go_wp2_with fail
            go_quiet (fail)
            by_cases hl1 : (k : Int) < (ps.length : Int) - 1
            · go_wp2_with fail
              go_roundw
              case rel => exact ⟨k + 1, by omega, by go_num, HEnd.out _⟩
              case measure => simp [intOf]; omega
            · have hl2 : decide ((k : Int) < (ps.length : Int) - 1) = false := decide_eq_false hl1
              go_wp2_with fail
              go_roundw
              case rel => exact ⟨k + 1, by omega, by go_num, HEnd.out _⟩
              case measure => simp [intOf]; omega
          · rw [hpi] at hpe hps cK cB cI cC
            obtain ⟨t1, hp'⟩ := hpe
            rw [hp'] at HKC HBC hpo hps
            have hMm : k + 1 < ps.length → (bs ++ t1).length = bs.length := fun h => by
              have := hps h
              simp only [Sum.inr.injEq, Prod.mk.injEq] at this
              rw [this.2.1]
            have hrow : ∀ q, (wr.drewN q).ownsRow B 5 1 (.slice (some ⟨g, 0, none⟩) (bs ++ t1).length cap) (bs ++ t1).length (bcells (bs ++ t1)) := fun q => (hpo q).2
            have hcap : cap ≤ 65536 := (hpo 0).1
            have hMc : (bs ++ t1).length ≤ cap := by
              rcases (hrow 0).2 with ⟨h', _⟩ | ⟨g', cap'', cur, h', _, _, h6, _⟩
              · simp at h'
              · simp only [Value.slice.injEq] at h'; omega
            have hmM : bs.length ≤ (bs ++ t1).length := by rw [List.length_append]; omega
            have hcv : ∀ q, (convert 33 9 (.slice (some ⟨g, 0, none⟩) bs.length cap)).run Try.prog (wr.drewN q) = .ok (.string (mkS bs)) (wr.drewN q) := fun q => own_prefix (hrow q)
            have hbx := mkS_size bs
            have BC0 : ∀ q, Calls Try.prog 18 #[.pointer (some ⟨B, 0, none⟩), .int .i64 k] (wr.drewN q) fun e w' => e = .returned (.slice (some ⟨g, 0, none⟩) (bs ++ t1).length cap) ∧ w' = wr.drewN q := HBC
            have KC : Hid (∀ q, Calls Try.prog 19 #[.pointer (some ⟨B, 0, none⟩), .int .i64 k] (wr.drewN q) fun e w' => e = .returned (.string ByteArray.empty) ∧ w' = wr.drewN q) := HKC
            have c1 : wr.cell? ⟨H, k, none⟩ = some (.string ByteArray.empty) := cK
            have c2 : wr.cell? ⟨H + 1, k, none⟩ = some (.string (mkS bs)) := cB
            have c3 : wr.cell? ⟨H + 2, k, none⟩ = some (.bool true) := cI
            have c4 : wr.cell? ⟨H + 3, k, none⟩ = some (.int .i64 cap) := cC
            obtain ⟨M, hM⟩ : ∃ M, M = (bs ++ t1).length := ⟨_, rfl⟩
            obtain ⟨m, hm⟩ : ∃ m, m = bs.length := ⟨_, rfl⟩
            obtain ⟨bx, hbxe⟩ : ∃ bx, bx = mkS bs := ⟨_, rfl⟩
            rw [← hM] at hMm hMc hmM BC0
            rw [← hm] at hMm hmM hcv hbx
            rw [← hbxe] at hcv hbx c2
            have BC : Hid (∀ q, Calls Try.prog 18 #[.pointer (some ⟨B, 0, none⟩), .int .i64 k] (wr.drewN q) fun e w' => e = .returned (.slice (some ⟨g, 0, none⟩) M cap) ∧ w' = wr.drewN q) := BC0
            have hm0 : (0 : Int) ≤ (m : Int) := Int.natCast_nonneg _
            have hm1 : (m : Int) ≤ (cap : Int) := by omega
            have HMm : Hid (k + 1 < ps.length → M = m) := hMm
            clear cK cB cI cC HKC HBC hps hpo hpi hp' HBr HSr hrow BC0 hM hm hbxe hMm
            go_wp2_with fail
            go_quiet ((go_at_call 19; exact Calls.quiet_of_same (KC.out _)))
            go_wp2_with fail
            refine (BC.out _).mono ?_
            rintro e w' ⟨rfl, hw⟩
            subst hw
            go_wp2_with fail
            go_quiet (fail)
            by_cases hl1 : (k : Int) < (ps.length : Int) - 1
            · have hMe := HMm.out (by omega)
              subst hMe
              go_wp2_with fail
              go_roundw
              case rel => exact ⟨k + 1, by omega, by go_num, HEnd.out _⟩
              case measure => simp [intOf]; omega
            · have hl2 : decide ((k : Int) < (ps.length : Int) - 1) = false := decide_eq_false hl1
              go_wp2_with fail
              go_roundw
              case rel => exact ⟨k + 1, by omega, by go_num, HEnd.out _⟩
              case measure => simp [intOf]; omega
        · have hsz3 : tot (ss ++ ss') ≤ 1048576 := by rw [tot_append]; omega
          have st := string_any wr B B (tot ss + tot ss') pv' ps' HBr.out (by omega) (by rw [HH'.out.len]; omega) (by omega)
          rw [HH'.out.text, cat_append, ← mkS_toList (cat ss'), mkS_app2] at st
          have HST : Hid (Calls Try.prog 14 #[.pointer (some ⟨B, 0, none⟩)] wr fun e w' => e = .returned (.string (mkS (cat ss) ++ mkS (cat ss'))) ∧ Below wr.heap.size wr w') := st
          have HLr : Hid (Below B w2 wr) := by obtain ⟨d, rfl⟩ := HD.out; exact HLb.out.trans (below_drewN' d)
          have HLw : Hid (Below w2.heap.size w2 wr) := by have := HLr.out; rw [HBe.out] at this; exact this
          clear st HBr HSr HEnd HD HB' HSN HE HLb
          go_wp2_with fail
          refine HST.out.mono ?_
          rintro e w9 ⟨rfl, hb9⟩
          have HL9 : Hid (Below w2.heap.size w2 w9) := HLw.out.trans (hb9.mono HLw.out.size)
          clear hb9 HST HLw HLr
          go_wp2_with fail
          refine (concat_any a1 n c1 ss _ (HI2.out.below HL9.out) (by omega)).mono ?_
          rintro e w10 ⟨rfl, hb10⟩
          have HL10 : Hid (Below w2.heap.size w2 w10) := HL9.out.trans (hb10.mono HL9.out.size)
          clear hb10 HL9
          go_wp2_with fail
          refine (concat_any a2 n' c2 ss' _ (HJ2.out.below HL10.out) (by omega)).mono ?_
          rintro e w11 ⟨rfl, hb11⟩
          have HL11 : Hid (Below w.heap.size w w11) := HL2.out.trans ((HL10.out.trans (hb11.mono HL10.out.size)).mono HL2.out.size)
          clear hb11 HL10
          have z1 : (mkS (cat ss)).size = tot ss := by rw [mkS_size, cat_length]
          have z2 : (mkS (cat ss')).size = tot ss' := by rw [mkS_size, cat_length]
          go_wp2_with fail
          go_ret
          exact ⟨rfl, HL11.out⟩
end Go.Proofs.Qxb6601673a
