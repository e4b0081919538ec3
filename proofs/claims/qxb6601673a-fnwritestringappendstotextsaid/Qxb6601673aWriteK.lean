/-
  SEAT b6601673a: WriteString, a piece of 4 KiB or more: kept as it came.
-/
import Derived.Test.Qxb6601673aPut
namespace Go.Proofs.Qxb6601673a
open Go.ChangeShapes Go.WideShapes Go.ChangeAt Go.RowKit
set_option linter.unusedVariables false

/-- 'b.n' set anew. -/
theorem buf_setN {base bb N M : Nat} {pv : Value} {ps : List LPart} {w : World} (h : BufAt base bb pv ps N w) :
    BufAt base bb pv ps M (w.setCell ⟨bb, 1, none⟩ (.int .i64 M)) ∧ SameBut bb w (w.setCell ⟨bb, 1, none⟩ (.int .i64 M)) := by
  obtain ⟨h1, h2, h3, h4, h5⟩ := h
  have hs : SameBut bb w (w.setCell ⟨bb, 1, none⟩ (.int .i64 M)) := (⟨rfl, rfl, rfl, rfl, fun _ _ => rfl⟩ : SameBut bb w w).setCell 1 _
  refine ⟨⟨h1, ?_, hs.owns h3 (own_ne h3 h2 (by decide)), ?_, h5⟩, hs⟩
  · have := heap_setCell_same w bb 1 _ 44 (.int .i64 M) h2
    exact this
  · intro p hp
    have := h4 p hp
    cases p with
    | inl s => trivial
    | inr x => obtain ⟨g, bs, cap⟩ := x; exact ⟨this.1, hs.owns this.2 (own_ne this.2 h2 (by decide))⟩

theorem SameBut.below {bb base : Nat} {w w' : World} (h : SameBut bb w w') (hb : base ≤ bb) : Below base w w' :=
  ⟨h.os, h.tape, h.output, by rw [h.size]; exact Nat.le_refl _, fun k hk => h.block k (by omega)⟩

theorem pv_form {base bb N : Nat} {pv : Value} {ps : List LPart} {w : World} (h : BufAt base bb pv ps N w) : ∃ ao c, pv = .slice ao ps.length c := by
  rcases h.2.2.1.2 with ⟨hv, h0⟩ | ⟨g, cap, cur, hv, _⟩
  · exact ⟨none, 0, by rw [hv, h0]⟩
  · exact ⟨_, _, hv⟩

/-- A kept part appended. -/
theorem buf_kept {base bb n c N gg pc : Nat} {ao : Option Addr} {ps : List LPart} {s : ByteArray} {w w1 : World} {o : Obj} (hn : ps.length = n)
    (h : BufAt base bb (.slice ao n c) ps N w)
    (hown : w1.ownsRow base 46 2 (.slice (some ⟨gg, 0, none⟩) (n + 1) pc) (n + 1) (rowOf ps ++ [.string s, .slice none 0 0])) (hgrow : (w.alloc o).grownBy w1 (Value.slice ao n c).ownBlock) :
    BufAt base bb (.slice (some ⟨gg, 0, none⟩) (n + 1) pc) (ps ++ [.inl s]) N (w1.setCell ⟨bb, 0, none⟩ (.slice (some ⟨gg, 0, none⟩) (n + 1) pc)) ∧
    Below base w (w1.setCell ⟨bb, 0, none⟩ (.slice (some ⟨gg, 0, none⟩) (n + 1) pc)) ∧ OthT w (w1.setCell ⟨bb, 0, none⟩ (.slice (some ⟨gg, 0, none⟩) (n + 1) pc)) := by
  have l0 := h.lt
  obtain ⟨h1, h2, h3, h4, h5⟩ := h
  rw [hn] at h3
  have hne := own_ne h3 h2 (by decide)
  have old : ∀ k, k < w.heap.size → some k ≠ (Value.slice ao n c).ownBlock → w1.heap[k]? = w.heap[k]? := fun k hk hkn =>
    (hgrow.block k (by simp; omega) hkn).trans (Below.heap_alloc w o k hk)
  have hbb1 := (old bb l0 (Ne.symm hne)).trans h2
  have hset : ∀ k, k ≠ bb → (w1.setCell ⟨bb, 0, none⟩ (.slice (some ⟨gg, 0, none⟩) (n + 1) pc)).heap[k]? = w1.heap[k]? := fun k hk => Below.heap_setCell _ _ _ _ hk
  have hgs : gsOf (ps ++ [.inl s]) = gsOf ps := by rw [gsOf_append]; simp [gsOf, gOf]
  have hnb : nb (ps ++ [.inl s]) = nb ps := by unfold nb; rw [hgs]
  refine ⟨⟨h1, ?_, ?_, ?_, ?_⟩, ?_, ?_⟩
  · rw [hnb]
    have := heap_setCell_same w1 bb 0 _ 44 (.slice (some ⟨gg, 0, none⟩) (n + 1) pc) hbb1
    exact this
  · rw [List.length_append, hn, rowOf_append, rowOf_one]
    have hne2 : (Value.slice (some ⟨gg, 0, none⟩) (n + 1) pc).ownBlock ≠ some bb := own_ne hown hbb1 (by decide)
    exact hown.kept (row := some bb) ⟨rfl, rfl, rfl, by simp [World.setCell], fun k _ hk => hset k (fun e => hk (by rw [e]))⟩ (.inr hne2)
  · intro p hp
    rcases List.mem_append.1 hp with hp | hp
    · refine (h4 p hp).kept fun k cur hk => ?_
      have hkb : k ≠ bb := fun e => by rw [e, h2] at hk; simp at hk
      rw [hset k hkb, old k (Array.getElem?_eq_some_iff.1 hk).1 (Ne.symm (own_ne h3 hk (by decide)))]
      exact hk
    · simp at hp; subst hp; trivial
  · rw [hgs]; exact h5
  · refine Below.setCell ?_ (p := ⟨bb, 0, none⟩) h1 _
    exact ((Below.refl base w).alloc (by omega) o).grown hgrow (by simp; omega) (fun k hk => (h3.lt k hk).1)
  · intro k cur U fr' t5 t46 t44 hk
    have hkb : k ≠ bb := fun e => by
      rw [e, h2] at hk
      simp only [Option.some.injEq, Obj.cells.injEq] at hk
      exact t44 hk.2.1.symm
    rw [hset k hkb, old k (Array.getElem?_eq_some_iff.1 hk).1 (Ne.symm (own_ne h3 hk t46))]
    exact hk

set_option maxRecDepth 100000 in
set_option maxHeartbeats 1000000 in
theorem write_kept (w : World) (base bb N : Nat) (pv : Value) (ps : List LPart) (s : ByteArray) (h : BufAt base bb pv ps N w) (hlen : ps.length ≤ 1048576) (hN : N ≤ 1048576) (hs1 : 4096 ≤ s.size) (hs2 : s.size ≤ 1048576) :
    Calls Try.prog 15 #[.pointer (some ⟨bb, 0, none⟩), .string s] w fun e w' => e = .returned (.tuple #[]) ∧ (∃ pv', BufAt base bb pv' (ps ++ [.inl s]) (N + s.size) w') ∧ Below base w w' ∧ OthT w w' := by
  obtain ⟨i0, hi, hz0, hz1, hz2⟩ := info_parts Try.info46
  obtain ⟨ao, c, rfl⟩ := pv_form h
  have c1 : w.cell? ⟨bb, 1, none⟩ = some (.int .i64 N) := cell_of_row w bb 1 _ _ _ h.2.1
  have f1 : w.frozen? ⟨bb, 1, none⟩ = false := frozen_of_row w bb 1 _ _ h.2.1
  have HH : Hid (BufAt base bb (.slice ao ps.length c) ps N w) := h
  clear h
  go_enter Try.func15, Try.ntmps15
  go_upto_region 0 with fail
  go_cut [] (fun wx => BufAt base bb (.slice ao ps.length c) ps (N + s.size) wx ∧ Below base w wx ∧ OthT w wx)
  case first =>
    go_wp2
    go_meet
    obtain ⟨hB, hS⟩ := buf_setN (M := N + s.size) HH.out
    have e2 : ((N + s.size : Nat) : Int) = (N : Int) + (s.size : Int) := by omega
    rw [e2] at hB hS
    exact ⟨hB, hS.below HH.out.1, hS.oth HH.out.2.1 (.inr (.inr rfl))⟩
  case rest =>
  obtain ⟨hB, hbel, hoth⟩ := hcut
  have HO : Hid (OthT w wc) := hoth
  clear hoth
  have c0 : wc.cell? ⟨bb, 0, none⟩ = some (.slice ao ps.length c) := cell_of_row wc bb 0 _ _ _ hB.2.1
  have f0 : wc.frozen? ⟨bb, 0, none⟩ = false := frozen_of_row wc bb 0 _ _ hB.2.1
  have hown := hB.2.2.1
  have lb := hB.lt
  have hne := own_ne hown hB.2.1 (by decide)
  have hbase : base ≤ wc.heap.size := Nat.le_trans hB.1 (Nat.le_of_lt lb)
  have HB : Hid (BufAt base bb (.slice ao ps.length c) ps (N + s.size) wc) := hB
  have HL : Hid (Below base w wc) := hbel
  have fc : ∀ o, (wc.alloc o).cell? ⟨bb, 0, none⟩ = some (.slice ao ps.length c) := fun o => (World.cell?_of_block (Below.heap_alloc wc o bb lb)).trans c0
  have ff : ∀ o, (wc.alloc o).frozen? ⟨bb, 0, none⟩ = false := fun o => (World.frozen?_of_block (Below.heap_alloc wc o bb lb)).trans f0
  have HFC : Hid (∀ o, (wc.alloc o).cell? ⟨bb, 0, none⟩ = some (.slice ao ps.length c)) := fc
  have HFF : Hid (∀ o, (wc.alloc o).frozen? ⟨bb, 0, none⟩ = false) := ff
  clear hB hbel c1 f1 HH fc ff
  go_wp2_with (at_builtin; refine wpList_append_lies _ rfl _ _ 42 rfl base 46 i0 _ 2 40 Try.underlying42 hi hz0 hz1 hz2 rfl (by omega) (.slice ao ps.length c) ps.length (rowOf ps) rfl (hown.alloc _) ⟨wc.heap.size, 0, none⟩ 1 1 [.string s, .slice none 0 0] rfl rfl (World.news_of_block (cs := #[.string s, .slice none 0 0]) (t := 46) (fr := (0, 0)) (heap_alloc_new wc _)) (by simp [Value.oneCell']) (by omega) (by unfold maxLen; omega) (by omega) (by simp; omega) (wc.heap.size + 1) (by simp) ?_; intro gg pc w1 hown1 hgrow hat hlt; have hf0 := (hgrow.frozen_far ⟨bb, 0, none⟩ (by simp; omega) (Ne.symm hne)).trans (HFF.out _); have hc0 := (hgrow.cell_far ⟨bb, 0, none⟩ (by simp; omega) (Ne.symm hne)).trans (HFC.out _))
  refine bodyPost_ret (results_none Try.results15 _ _ _) rfl ?_
  have hk := buf_kept rfl HB.out hown1 hgrow
  exact ⟨rfl, ⟨_, hk.1⟩, HL.out.trans hk.2.1, HO.out.trans hk.2.2⟩
end Go.Proofs.Qxb6601673a
