/-
  SEAT b6601673a: FnWriteStringAppendsToText: the walk.
-/
import Derived.Test.Qxb6601673aString
namespace Go.Proofs.Qxb6601673a
open Go.ChangeShapes Go.WideShapes Go.ChangeAt Go.RowKit
set_option linter.unusedVariables false

theorem mkS_append (a : List UInt8) (s : ByteArray) : mkS (a ++ s.data.toList) = mkS a ++ s := by
  have h : (mkS (a ++ s.data.toList)).data = (mkS a ++ s).data := by
    rw [ByteArray.data_append]
    apply Array.ext'
    simp [mkS]
  exact ByteArray.ext h

theorem Wrote.text {ps ps' : List LPart} {s : ByteArray} (h : Wrote ps s ps') : text ps' = Qxb6601673a.text ps ++ s.data.toList := by
  rw [text_toks, h.1, tokBs_append, ← text_toks, tokBs_tokS]

set_option maxRecDepth 100000 in
set_option maxHeartbeats 2000000 in
theorem appends_walk (a : Option Addr) (n c : Nat) (ss : List ByteArray) (s : ByteArray) (w : World) (h : IsStrs w a n ss) (hs : s.size ≤ maxLen) :
    Calls Try.prog 3 #[.slice a n c, .string s] w fun e w' => e = .returned (.bool true) ∧ Below w.heap.size w w' := by
  have HI : Hid (IsStrs w a n ss) := h
  have hnm : n ≤ 9223372036854775807 := h.2.1
  have hsm : s.size ≤ 9223372036854775807 := hs
  have HS : Hid (s.size ≤ maxLen) := hs
  clear h hs
  go_enter Try.func3, Try.ntmps3
  go_wp2_with fail
  refine (bytes8_any a n c ss s HS.out w HI.out).mono ?_
  rintro e w' ⟨⟨t, rfl⟩, hw⟩
  have hw2 := hw.symm
  subst hw2
  cases t
  · go_wp2_with fail
    go_ret
    exact ⟨rfl, Below.refl _ _⟩
  by_cases hsb : 1048576 < s.size
  · go_wp2_with fail
    go_ret
    exact ⟨rfl, Below.refl _ _⟩
  go_wp2_with fail
  refine (size_any a n c ss _ HI.out).mono ?_
  rintro e w' ⟨⟨t, rfl, ht0, ht⟩, hw⟩
  have hw2 := hw.symm
  subst hw2
  by_cases hbig : 1048576 - (s.size : Int) < t
  · go_wp2_with fail
    go_ret
    exact ⟨rfl, Below.refl _ _⟩
  have hsz : 16 * n + tot ss + s.size ≤ 1048576 := by omega
  clear ht
  go_wp2_with fail
  refine (clone_any a n c ss _ HI.out (by omega)).mono ?_
  rintro e w1 ⟨⟨a1, c1, rfl, hI1⟩, hb1⟩
  have HI1 : Hid (IsStrs w1 a1 n ss) := hI1
  have HL1 : Hid (Below w.heap.size w w1) := hb1
  clear hI1 hb1 HI
  go_wp2_with fail
  refine (concat_any a1 n c1 ss _ HI1.out (by omega)).mono ?_
  rintro e w2 ⟨rfl, hb2⟩
  have HI2 : Hid (IsStrs w2 a1 n ss) := HI1.out.below hb2
  have HL2 : Hid (Below w.heap.size w w2) := HL1.out.trans (hb2.mono HL1.out.size)
  clear hb2 HI1 HL1
  go_wp2_with fail
  refine (build_any a1 n c1 ss _ HI2.out (by omega)).mono ?_
  rintro e w3 ⟨rfl, ⟨pv, ps, hB3, hH⟩, hb3⟩
  obtain ⟨B, hB⟩ : ∃ B, B = w2.heap.size := ⟨_, rfl⟩
  have hwB : w.heap.size ≤ B := by rw [hB]; exact HL2.out.size
  rw [← hB] at hB3 hb3 ⊢
  have HB3 : Hid (BufAt B B pv ps (tot ss) w3) := hB3
  have HL3 : Hid (Below w.heap.size w w3) := HL2.out.trans (hb3.mono hwB)
  have HH : Hid (Holds ps ss) := hH
  have hnp : ps.length ≤ 1048576 := by have := hH.2.le; rw [hH.len] at this; omega
  have hsc : (mkS (cat ss)).size = tot ss := by rw [mkS_size, cat_length]
  have HSC : Hid ((mkS (cat ss)).size = tot ss) := hsc
  clear hB3 hb3 hH hB HL2 HI2
  go_wp2_with fail
  refine (len_any _ _ _ _ _ _ HB3.out).mono ?_
  rintro e w' ⟨rfl, hw⟩
  have hw2 := hw.symm
  subst hw2
  go_wp2_with fail
  have HT : Hid (text ps = cat ss) := HH.out.text
  have st3 := string_any w3 B B (tot ss) pv ps HB3.out (by omega) (by rw [HH.out.len]; omega) (by omega)
  rw [HT.out] at st3
  refine st3.mono ?_
  clear st3
  rintro e w4 ⟨rfl, hb4⟩
  have HB4 : Hid (BufAt B B pv ps (tot ss) w4) := HB3.out.below hb4
  have HL4 : Hid (Below w.heap.size w w4) := HL3.out.trans (hb4.mono HL3.out.size)
  clear hb4 HB3 HL3
  go_wp2_with fail
  have st4 := string_any w4 B B (tot ss) pv ps HB4.out (by omega) (by rw [HH.out.len]; omega) (by omega)
  rw [HT.out] at st4
  refine st4.mono ?_
  clear st4
  rintro e w5 ⟨rfl, hb5⟩
  have HB5 : Hid (BufAt B B pv ps (tot ss) w5) := HB4.out.below hb5
  have HL5 : Hid (Below w.heap.size w w5) := HL4.out.trans (hb5.mono HL4.out.size)
  clear hb5 HB4 HL4
  go_wp2_with fail
  refine (write_any w5 B B (tot ss) pv ps s HB5.out HH.out.2 HH.out.len (by omega)).mono ?_
  rintro e w6 ⟨rfl, ⟨pv6, ps6, hB6, hw6⟩, hb6, _⟩
  have HB6 : Hid (BufAt B B pv6 ps6 (tot ss + s.size) w6) := hB6
  have HW6 : Hid (Wrote ps s ps6) := hw6
  have HL6 : Hid (Below w.heap.size w w6) := HL5.out.trans (hb6.mono hwB)
  have HT6 : Hid (text ps6 = cat ss ++ s.data.toList) := by
    have := hw6.text
    rw [HT.out] at this
    exact this
  have HTL6 : Hid ((text ps6).length = tot ss + s.size) := by
    have := congrArg List.length HT6.out
    rw [List.length_append, cat_length, bytes_length] at this
    exact this
  have hnp6 : ps6.length ≤ 1048576 := by have := hw6.2.2.1.le; rw [HTL6.out] at this; omega
  clear hB6 hw6 hb6 HB5 HL5
  go_wp2_with fail
  refine (len_any _ _ _ _ _ _ HB6.out).mono ?_
  rintro e w' ⟨rfl, hw⟩
  have hw2 := hw.symm
  subst hw2
  go_wp2_with fail
  have st6 := string_any w6 B B (tot ss + s.size) pv6 ps6 HB6.out (by omega) (by rw [HTL6.out]; omega) (by omega)
  rw [HT6.out, mkS_append] at st6
  refine st6.mono ?_
  clear st6
  rintro e w7 ⟨rfl, hb7⟩
  have HB7 : Hid (BufAt B B pv6 ps6 (tot ss + s.size) w7) := HB6.out.below hb7
  have HL7 : Hid (Below w.heap.size w w7) := HL6.out.trans (hb7.mono HL6.out.size)
  clear hb7 HB6 HL6
  go_wp2_with fail
  refine (parts_any _ _ _ _ _ _ HB7.out).mono ?_
  rintro e w' ⟨rfl, hw⟩
  have hw2 := hw.symm
  subst hw2
  go_wp2_with fail
  refine (write_any w7 B B (tot ss + s.size) pv6 ps6 ⟨#[]⟩ HB7.out HW6.out.2.2.1 HTL6.out (by show _ + 0 ≤ _; omega)).mono ?_
  rintro e w8 ⟨rfl, ⟨pv8, ps8, hB8, hw8⟩, hb8, _⟩
  have hp8 : ps8 = ps6 := hw8.2.2.2 rfl
  subst hp8
  have HB8 : Hid (BufAt B B pv8 ps8 (tot ss + s.size) w8) := hB8
  have HL8 : Hid (Below w.heap.size w w8) := HL7.out.trans (hb8.mono hwB)
  clear hB8 hw8 hb8 HB7 HL7
  go_wp2_with fail
  refine (parts_any _ _ _ _ _ _ HB8.out).mono ?_
  rintro e w' ⟨rfl, hw⟩
  have hw2 := hw.symm
  subst hw2
  go_wp2_with fail
  refine (len_any _ _ _ _ _ _ HB8.out).mono ?_
  rintro e w' ⟨rfl, hw⟩
  have hw2 := hw.symm
  subst hw2
  go_wp2_with fail
  have st8 := string_any w8 B B (tot ss + s.size) pv8 ps8 HB8.out (by omega) (by rw [HTL6.out]; omega) (by omega)
  rw [HT6.out, mkS_append] at st8
  refine st8.mono ?_
  clear st8
  rintro e w9 ⟨rfl, hb9⟩
  have HL9 : Hid (Below w.heap.size w w9) := HL8.out.trans (hb9.mono HL8.out.size)
  clear hb9
  go_wp2_with fail
  go_ret
  exact ⟨rfl, HL9.out⟩
end Go.Proofs.Qxb6601673a
