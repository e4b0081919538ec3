/-
  SEAT b6601673a: (*Buffer).String.
-/
import Derived.Test.Qxb6601673aBuilder3
namespace Go.Proofs.Qxb6601673a
open Go.ChangeShapes Go.WideShapes Go.ChangeAt Go.RowKit
set_option linter.unusedVariables false

theorem text_take_succ (ps : List LPart) (k : Nat) (h : k < ps.length) : text (ps.take (k + 1)) = text (ps.take k) ++ ptx ps[k] := by
  rw [List.take_succ_eq_append_getElem h, text_append, text_one]

theorem text_take_le (ps : List LPart) (k : Nat) : (text (ps.take k)).length ≤ (text ps).length := by
  have := text_append (ps.take k) (ps.drop k)
  rw [List.take_append_drop] at this
  have e := congrArg List.length this
  rw [List.length_append] at e
  omega

/-- The builder behind k parts. -/
def TRel (B : Nat) (ps : List LPart) (w : World) (k : Nat) (wr : World) : Prop :=
  Lib.IsBuilder 49 5 B B (bcells (text (ps.take k))) wr ∧ Below B w wr

theorem isBuilder_alloc {T e B b : Nat} {bs : List Value} {w : World} (h : Lib.IsBuilder T e B b bs w) (o : Obj) : Lib.IsBuilder T e B b bs (w.alloc o) := by
  have key : ∀ p, Lib.BuilderAt T e B b p bs w → Lib.BuilderAt T e B b p bs (w.alloc o) := fun p h => by
    have l0 := h.lt
    obtain ⟨hB, v, hb, hown, hne⟩ := h
    exact ⟨hB, v, (Below.heap_alloc w o b l0).trans hb, hown.alloc o, hne⟩
  rcases h with h | h
  · exact .inl (key _ h)
  · exact .inr (key _ h)

theorem own_later {w w' : World} {base e size n : Nat} {v : Value} {xs : List Value} (h : w.ownsRow base e size v n xs) (hb : Below w.heap.size w w') : w'.ownsRow base e size v n xs := by
  refine ⟨h.1, ?_⟩
  rcases h.2 with hn | ⟨g, cap, cur, hv, hbg, hg, rest⟩
  · exact .inl hn
  · exact .inr ⟨g, cap, cur, hv, hbg, (hb.block g (Array.getElem?_eq_some_iff.1 hg).1).trans hg, rest⟩

/-- What the round reads of part k. -/
theorem part_at {base bb N gr pc : Nat} {ps : List LPart} {w : World} (h : BufAt base bb (.slice (some ⟨gr, 0, none⟩) ps.length pc) ps N w) (i : Nat) (hi : i < ps.length) :
    w.cell? ⟨gr, i * 2, none⟩ = some (.string (kstr ps[i])) ∧ w.cell? ⟨gr, i * 2 + 1, none⟩ = some (bval ps[i]) := by
  have hrow := h.2.2.1
  refine ⟨?_, ?_⟩
  · have e := rowOf_at ps i hi 0 (by omega)
    rw [Nat.add_zero] at e
    rw [hrow.cellAt _ (by omega), e]
    generalize ps[i] = p
    cases p <;> rfl
  · rw [hrow.cellAt _ (by omega), rowOf_at ps i hi 1 (by omega)]
    generalize ps[i] = p
    cases p <;> rfl

set_option maxRecDepth 100000 in
set_option maxHeartbeats 1000000 in
theorem string_one (w : World) (base bb N : Nat) (pv : Value) (s : ByteArray) (h : BufAt base bb pv [.inl s] N w) :
    Calls Try.prog 14 #[.pointer (some ⟨bb, 0, none⟩)] w fun e w' => e = .returned (.string (mkS (text [.inl s]))) ∧ Below w.heap.size w w' := by
  obtain ⟨gr, pc, c0, c1, c2⟩ := part_cells h 0 (by simp)
  simp only [List.length_singleton, List.getElem_cons_zero, kstr, bval, Nat.zero_mul, Nat.zero_add] at c0 c1 c2
  have hnil := fun w a l c => Lib.run_eql_slice_nil (P := Try.prog) w 33 5 a l c 0 0 Try.underlying33
  have e : mkS (text [.inl s]) = s := by rw [text_one]; exact mkS_bytes s
  rw [e]
  clear h e
  go_enter Try.func14, Try.ntmps14
  go_wp2
  go_ret
  exact ⟨rfl, Below.refl _ _⟩

/-- A round's step. -/
theorem TRel.step {B k : Nat} {ps : List LPart} {w wr w1 w2 : World} {bs' : List Value} {p : Value} (h : TRel B ps w k wr) (hk : k < ps.length) {o : Obj} (hB : B ≤ wr.heap.size)
    (hb1 : Below B (wr.alloc o) w1) (h2 : Lib.BuilderAt 49 5 B B (.pointer (some ⟨B, 0, none⟩)) bs' w2) (hb2 : Below B w1 w2) (hbs : bs' = bcells (text (ps.take k)) ++ bcells (ptx ps[k])) : TRel B ps w (k + 1) w2 := by
  refine ⟨.inr ?_, ((h.2.alloc hB o).trans hb1).trans hb2⟩
  rw [text_take_succ ps k hk, bcells_append, ← hbs]
  exact h2

set_option maxRecDepth 100000 in
set_option maxHeartbeats 2000000 in
theorem string_many (w : World) (base bb N : Nat) (pv : Value) (ps : List LPart) (h : BufAt base bb pv ps N w) (hN : N ≤ 1048576) (ht : (text ps).length ≤ 2097152) (hlen : ps.length ≤ 2097152)
    (hcase : ps.length ≠ 1 ∨ ∃ g bs cap, ps = [.inr (g, bs, cap)]) :
    Calls Try.prog 14 #[.pointer (some ⟨bb, 0, none⟩)] w fun e w' => e = .returned (.string (mkS (text ps))) ∧ Below w.heap.size w w' := by
  obtain ⟨ao, c, rfl⟩ := pv_form h
  have hnil := fun w a l c => Lib.run_eql_slice_nil (P := Try.prog) w 33 5 a l c 0 0 Try.underlying33
  have HB : Hid (BufAt base bb (.slice ao ps.length c) ps N w) := h
  have c0 : w.cell? ⟨bb, 0, none⟩ = some (.slice ao ps.length c) := cell_of_row w bb 0 _ _ _ h.2.1
  have c1 : w.cell? ⟨bb, 1, none⟩ = some (.int .i64 N) := cell_of_row w bb 1 _ _ _ h.2.1
  have lb := h.lt
  clear h
  go_enter Try.func14, Try.ntmps14
  go_upto_region 1 with fail
  go_cut [21] (fun s21 wx => s21 = .bool false ∧ wx = w)
  case first =>
    rcases hcase with hne | ⟨g, bs, cap, rfl⟩
    · have h1 : ((ps.length : Int) == 1) = false := beq_eq_false_iff_ne.2 (by omega)
      go_wp2_with fail
      go_meet
      exact ⟨rfl, rfl⟩
    · obtain ⟨gr, pc, d0, d1, d2⟩ := part_cells HB.out 0 (by simp)
      simp only [List.length_singleton, List.getElem_cons_zero, kstr, bval, Nat.zero_mul, Nat.zero_add] at c0 d0 d1 d2
      rw [d0] at c0
      simp only [Option.some.injEq, Value.slice.injEq] at c0
      obtain ⟨rfl, _, rfl⟩ := c0
      go_wp2_with fail
      go_meet
      exact ⟨rfl, rfl⟩
  case rest =>
  obtain ⟨rfl, hwx⟩ := hcut
  have hwx2 := hwx.symm
  subst hwx2
  go_wp2_with fail
  refine (bGrow_fresh w.heap.size w.heap.size N _ (Nat.le_refl _) (heap_alloc_new w _) (by simp) (by omega)).mono ?_
  rintro e w1 ⟨rfl, hb1, hbl1⟩
  have HL1 : Hid (Below w.heap.size w w1) := ((Below.refl _ w).alloc (Nat.le_refl _) _).trans hbl1
  have HT0 : Hid (TRel w.heap.size ps w 0 w1) := ⟨.inr hb1, HL1.out⟩
  have d0 : w1.cell? ⟨bb, 0, none⟩ = some (.slice ao ps.length c) := (HL1.out.cell (p := ⟨bb, 0, none⟩) lb).trans c0
  clear hb1 hbl1
  go_wp2_with fail
  go_loopw [5, 39] (fun v5 v39 wr => ∃ k : Nat, k ≤ ps.length ∧ v39 = .int .i64 k ∧ TRel w.heap.size ps w k wr) (fun _ v39 _ => ps.length - (intOf v39).toNat)
  case atStart => exact ⟨0, Nat.zero_le _, rfl, HT0.out⟩
  case round =>
    obtain ⟨k, hk, rfl, hT⟩ := hrel
    have HT : Hid (TRel w.heap.size ps w k wr) := hT
    clear HT0 hT d0 HL1
    by_cases hlt : k < ps.length
    · obtain ⟨gr, pc, hpv, _, _⟩ := HB.out.2.2.1.form (by omega)
      simp only [Value.slice.injEq, true_and] at hpv
      obtain ⟨rfl, rfl⟩ := hpv
      obtain ⟨p0, p1⟩ := part_at (HB.out.below HT.out.2) k hlt
      have htk : (text (ps.take k)).length + (ptx ps[k]).length ≤ 2097152 := by
        have := text_take_le ps (k + 1)
        rw [text_take_succ ps k hlt, List.length_append] at this
        omega
      have hki : (k : Int) < (ps.length : Int) := by omega
      have hBw : w.heap.size ≤ wr.heap.size := HT.out.2.size
      have hbl := bcells_length (text (ps.take k))
      rcases hpi : ps[k] with s | ⟨g, bs, cap⟩
      · rw [hpi] at p0 p1 htk
        have q0 : wr.cell? ⟨gr, k * 2, none⟩ = some (.string s) := p0
        have q1 : wr.cell? ⟨gr, k * 2 + 1, none⟩ = some (.slice none 0 0) := p1
        have hsz : (text (ps.take k)).length + s.size ≤ 2097152 := by
          have : (ptx (.inl s)).length = s.size := bytes_length s
          omega
        have HPI : Hid (ps[k] = .inl s) := hpi
        have HBL : Hid ((bcells (text (ps.take k))).length = (text (ps.take k)).length) := hbl
        clear p0 p1 hpi htk hbl
        go_wp2_with fail
        refine (bWriteString w.heap.size w.heap.size _ s _ (isBuilder_alloc HT.out.1 _) (by rw [HBL.out]; omega) (by simp; omega)).mono ?_
        rintro e w2 ⟨rfl, hB2, hbel2, hoth⟩
        have hpb := hoth wr.heap.size _ 46 (by decide) (by have := (HT.out.1 : Lib.IsBuilder 49 5 w.heap.size w.heap.size _ wr); rcases this with h | h <;> (have := h.lt; omega)) (heap_alloc_new wr _)
        have r1 : w2.cell? ⟨wr.heap.size, 1, none⟩ = some (.slice none 0 0) := cell_of_row w2 _ 1 _ _ _ hpb
        have HB2 : Hid (Lib.BuilderAt 49 5 w.heap.size w.heap.size (.pointer (some ⟨w.heap.size, 0, none⟩)) (bcells (text (ps.take k)) ++ Lib.strCells s) w2) := hB2
        clear hB2 hoth hpb
        go_wp2_with fail
        refine (bWriteNil w.heap.size w.heap.size _ w2 (.inr HB2.out)).mono ?_
        rintro e w3 ⟨rfl, hB3, hbel3⟩
        have HT3 : Hid (TRel w.heap.size ps w (k + 1) w3) := HT.out.step (p := .nilIface) hlt hBw hbel2 hB3 hbel3 (by rw [HPI.out]; rfl)
        clear hB3 hbel3 hbel2 HB2
        go_wp2_with fail
        go_roundw
        case rel => exact ⟨k + 1, by omega, by go_num, HT3.out⟩
        case measure => simp [intOf]; omega
      · have hpo := HB.out.2.2.2.1 ps[k] (List.getElem_mem _)
        rw [hpi] at p0 p1 htk hpo
        have q0 : wr.cell? ⟨gr, k * 2, none⟩ = some (.string ByteArray.empty) := p0
        have q1 : wr.cell? ⟨gr, k * 2 + 1, none⟩ = some (.slice (some ⟨g, 0, none⟩) bs.length cap) := p1
        have hsz : (text (ps.take k)).length + bs.length ≤ 2097152 := htk
        have hgB : g < w.heap.size := (hpo.2.lt g rfl).2
        have HPO : Hid (w.ownsRow base 5 1 (.slice (some ⟨g, 0, none⟩) bs.length cap) bs.length (bcells bs)) := hpo.2
        have HPI : Hid (ps[k] = .inr (g, bs, cap)) := hpi
        have HBL : Hid ((bcells (text (ps.take k))).length = (text (ps.take k)).length) := hbl
        clear p0 p1 hpi htk hbl hpo
        go_wp2_with fail
        refine (bWriteString w.heap.size w.heap.size _ ByteArray.empty _ (isBuilder_alloc HT.out.1 _) (by rw [HBL.out]; simp; omega) (by simp; omega)).mono ?_
        rintro e w2 ⟨rfl, hB2, hbel2, hoth⟩
        have hpb := hoth wr.heap.size _ 46 (by decide) (by have := (HT.out.1 : Lib.IsBuilder 49 5 w.heap.size w.heap.size _ wr); rcases this with h | h <;> (have := h.lt; omega)) (heap_alloc_new wr _)
        have r1 : w2.cell? ⟨wr.heap.size, 1, none⟩ = some (.slice (some ⟨g, 0, none⟩) bs.length cap) := cell_of_row w2 _ 1 _ _ _ hpb
        have HB2 : Hid (Lib.BuilderAt 49 5 w.heap.size w.heap.size (.pointer (some ⟨w.heap.size, 0, none⟩)) (bcells (text (ps.take k)) ++ Lib.strCells ByteArray.empty) w2) := hB2
        have hbw2 : Below w.heap.size w w2 := (HT.out.2.alloc hBw _).trans hbel2
        have HN1 : Hid (∀ j u, (bcells bs)[j]? = some u → w2.cell? ((⟨g, 0, none⟩ : Addr).add j) = some u) := (own_later HPO.out hbw2).cells (g := g) rfl
        have HN2 : Hid (∀ u ∈ bcells bs, u.oneCell' = true) := by
          intro u hu
          simp only [bcells, List.mem_map] at hu
          obtain ⟨x, _, rfl⟩ := hu
          rfl
        have hB2w : w.heap.size ≤ w2.heap.size := hbw2.size
        clear hB2 hoth hpb hbw2
        go_wp2_with fail
        refine (bWrite w.heap.size w.heap.size _ ⟨g, 0, none⟩ bs.length cap (bcells bs) w2 (.inr HB2.out) (bcells_length bs) HN1.out hgB HN2.out (by rw [List.length_append, HBL.out]; simp [Lib.strCells]; omega) hB2w).mono ?_
        rintro e w3 ⟨rfl, hB3, hbel3⟩
        have HT3 : Hid (TRel w.heap.size ps w (k + 1) w3) := HT.out.step (p := .nilIface) hlt hBw hbel2 hB3 hbel3 (by rw [HPI.out]; simp [Lib.strCells, ptx])
        clear hB3 hbel3 hbel2 HB2
        go_wp2_with fail
        go_roundw
        case rel => exact ⟨k + 1, by omega, by go_num, HT3.out⟩
        case measure => simp [intOf]; omega
    · have hkn : k = ps.length := by omega
      subst hkn
      have hl : (ps.take ps.length) = ps := List.take_length
      have HI : Hid (Lib.IsBuilder 49 5 w.heap.size w.heap.size (Lib.byteCells (text ps)) wr) := by
        have := HT.out.1
        rw [hl] at this
        exact this
      go_wp2_with fail
      refine (bString w.heap.size w.heap.size (text ps) wr HI.out HT.out.2.size).mono ?_
      rintro e w2 ⟨rfl, hb2⟩
      go_wp2_with fail
      go_ret
      exact ⟨rfl, HT.out.2.trans hb2⟩

/-- (*Buffer).String, whatever the buffer holds: its text. -/
theorem string_any (w : World) (base bb N : Nat) (pv : Value) (ps : List LPart) (h : BufAt base bb pv ps N w) (hN : N ≤ 1048576) (ht : (text ps).length ≤ 2097152) (hlen : ps.length ≤ 2097152) :
    Calls Try.prog 14 #[.pointer (some ⟨bb, 0, none⟩)] w fun e w' => e = .returned (.string (mkS (text ps))) ∧ Below w.heap.size w w' := by
  by_cases h1 : ps.length = 1
  · obtain ⟨p, rfl⟩ : ∃ p, ps = [p] := List.length_eq_one_iff.1 h1
    rcases p with s | ⟨g, bs, cap⟩
    · exact string_one w base bb N pv s h
    · exact string_many w base bb N pv _ h hN ht hlen (.inr ⟨g, bs, cap, rfl⟩)
  · exact string_many w base bb N pv ps h hN ht hlen (.inl h1)
end Go.Proofs.Qxb6601673a
