/-
  SEAT b6601673a: WriteString whole; zzBuild_textbuf_b1.
-/
import Derived.Test.Qxb6601673aWriteS
namespace Go.Proofs.Qxb6601673a
open Go.ChangeShapes Go.WideShapes Go.ChangeAt Go.RowKit
set_option linter.unusedVariables false

/-- What one WriteString(s) does to the parts. -/
def Wrote (ps : List LPart) (s : ByteArray) (ps' : List LPart) : Prop :=
  ptoks ps' = ptoks ps ++ tokS s ∧ Ext ps ps' ∧ AllNE ps' ∧ (s.size = 0 → ps' = ps)

theorem write_any (w : World) (base bb N : Nat) (pv : Value) (ps : List LPart) (s : ByteArray) (h : BufAt base bb pv ps N w) (hne : AllNE ps) (ht : (text ps).length = N) (hN : N + s.size ≤ 1048576) :
    Calls Try.prog 15 #[.pointer (some ⟨bb, 0, none⟩), .string s] w fun e w' => e = .returned (.tuple #[]) ∧ (∃ pv' ps', BufAt base bb pv' ps' (N + s.size) w' ∧ Wrote ps s ps') ∧ Below base w w' ∧ OthT w w' := by
  by_cases hs : s.size < 4096
  · refine (write_short w base bb N pv ps s h hne ht hN hs).mono ?_
    rintro e w' ⟨he, v, ⟨t, dn, pv', ps', rfl, hsd, hB, hbel, htk, hext, hne', hdn⟩, hz⟩
    have ht0 : t.data.toList = [] := List.eq_nil_of_length_eq_zero (by rw [bytes_length]; exact hz)
    rw [ht0, List.append_nil] at hsd
    refine ⟨he, ⟨pv', ps', hB, ?_, hext, hne', ?_⟩, hbel⟩
    · rw [htk, tokS, if_neg (by omega), hsd]
    · intro h0
      refine hdn ?_
      rw [← hsd]
      exact List.eq_nil_of_length_eq_zero (by rw [bytes_length]; exact h0)
  · refine (write_kept w base bb N pv ps s h (by have := hne.le; omega) (by omega) (by omega) (by omega)).mono ?_
    rintro e w' ⟨he, ⟨pv', hB⟩, hbel, hoth⟩
    refine ⟨he, ⟨pv', _, hB, ?_, Ext.snoc _ _, ?_, ?_⟩, hbel, hoth⟩
    · rw [ptoks_append, ptoks_one, tokS, if_pos (by omega)]; rfl
    · intro p hp
      rcases List.mem_append.1 hp with hp | hp
      · exact hne p hp
      · simp at hp; subst hp
        show 0 < s.data.toList.length
        rw [bytes_length]; omega
    · intro h0; omega

/-- The parts ps hold the pieces ss. -/
def Holds (ps : List LPart) (ss : List ByteArray) : Prop := ptoks ps = toks ss ∧ AllNE ps

theorem Holds.text {ps : List LPart} {ss : List ByteArray} (h : Holds ps ss) : text ps = cat ss := by
  rw [text_toks, h.1, tokBs_toks]
theorem Holds.len {ps : List LPart} {ss : List ByteArray} (h : Holds ps ss) : (Qxb6601673a.text ps).length = tot ss := by
  rw [h.text, cat_length]
theorem Holds.wrote {ps ps' : List LPart} {ss : List ByteArray} {s : ByteArray} (h : Holds ps ss) (hw : Wrote ps s ps') : Holds ps' (ss ++ [s]) := by
  refine ⟨?_, hw.2.2.1⟩
  rw [hw.1, h.1, toks_append]; simp [toks]

/-- A new, empty buffer. -/
theorem buf_fresh (w : World) : BufAt w.heap.size w.heap.size (.slice none 0 0) [] 0 (w.alloc (.cells #[.slice none 0 0, .int .i64 0, .int .i64 0] 44)) :=
  ⟨Nat.le_refl _, heap_alloc_new w _, World.ownsRow_nil _ _ _ _, by simp, by simp [gsOf]⟩

/-- The loop's relation: k pieces are written. -/
def BRel (B bb : Nat) (ss : List ByteArray) (w : World) (k : Nat) (wr : World) : Prop :=
  (∃ pv ps, BufAt B bb pv ps (tot (ss.take k)) wr ∧ Holds ps (ss.take k)) ∧ Below B w wr

set_option maxRecDepth 100000 in
set_option maxHeartbeats 1000000 in
theorem build_any (a : Option Addr) (n c : Nat) (ss : List ByteArray) (w : World) (h : IsStrs w a n ss) (ht : tot ss ≤ 1048576) :
    Calls Try.prog 12 #[.slice a n c] w fun e w' => e = .returned (.pointer (some ⟨w.heap.size, 0, none⟩)) ∧ (∃ pv ps, BufAt w.heap.size w.heap.size pv ps (tot ss) w' ∧ Holds ps ss) ∧ Below w.heap.size w w' := by
  obtain ⟨hl, hm, hsz, hv⟩ := h
  unfold maxLen at hm
  have H0 : Hid (BRel w.heap.size w.heap.size ss w 0 (w.alloc (.cells #[.slice none 0 0, .int .i64 0, .int .i64 0] 44))) :=
    ⟨⟨_, [], buf_fresh w, rfl, by intro p hp; simp at hp⟩, (Below.refl _ _).alloc (Nat.le_refl _) _⟩
  go_enter Try.func12, Try.ntmps12
  go_wp2
  go_loopw [4] (fun i wr => ∃ k : Nat, k ≤ n ∧ i = .int .i64 k ∧ BRel w.heap.size w.heap.size ss w k wr) (fun i _ => n - (intOf i).toNat)
  case atStart => exact ⟨0, Nat.zero_le _, rfl, H0.out⟩
  case round =>
    obtain ⟨k, hk, rfl, hR⟩ := hrel
    clear H0
    by_cases hlt : k < n
    · obtain ⟨b, off, rfl, hbl, hc⟩ := hv (by omega)
      have hkl : k < ss.length := by omega
      obtain ⟨⟨pv, ps, hB, hH⟩, hb⟩ := hR
      have hcell : wr.cell? ⟨b, off + k, none⟩ = some (.string ss[k]) := (hb.cell (p := ⟨b, off + k, none⟩) hbl).trans (hc k hkl)
      have htk := tot_take_succ ss k hkl
      have htl := tot_take_le ss (k + 1)
      have hN : tot (ss.take k) + ss[k].size ≤ 1048576 := by omega
      have HB : Hid (BufAt w.heap.size w.heap.size pv ps (tot (ss.take k)) wr) := hB
      have HH : Hid (Holds ps (ss.take k)) := hH
      have HL : Hid (Below w.heap.size w wr) := hb
      have HT : Hid (tot (ss.take (k + 1)) = tot (ss.take k) + ss[k].size) := htk
      clear hB hH hb hc hv htk htl
      go_wp2_with (go_at_call 15; refine (write_any _ w.heap.size w.heap.size _ pv ps ss[k] HB.out HH.out.2 HH.out.len hN).mono ?_; rintro e w1 ⟨rfl, ⟨pv', ps', hB1, hw1⟩, hbel1, _⟩)
      go_roundw
      case rel =>
        refine ⟨k + 1, by omega, by go_num, ⟨pv', ps', ?_, ?_⟩, HL.out.trans hbel1⟩
        · rw [HT.out]; exact hB1
        · rw [List.take_succ_eq_append_getElem hkl]; exact HH.out.wrote hw1
      case measure => simp [intOf]; omega
    · have hkn : k = n := by omega
      subst hkn
      have HR : Hid (BRel w.heap.size w.heap.size ss w k wr) := hR
      clear hR
      go_wp2
      go_ret
      obtain ⟨⟨pv, ps, hB, hH⟩, hb⟩ := HR.out
      rw [List.take_of_length_le (by omega)] at hB hH
      exact ⟨rfl, ⟨pv, ps, hB, hH⟩, hb⟩
end Go.Proofs.Qxb6601673a
