/-
  SEAT b6601673a: openBlock, where a new block is made.
-/
import Derived.Test.Qxb6601673aOpenA
import Derived.Deep.RegionHeld3
import Derived.Deep.RegionLaw
import Derived.Deep.AppendLies
import Derived.Deep.DrawnRows
import Derived.Deep.DeepCutAuto
namespace Go.Proofs.Qxb6601673a
open Go.ChangeShapes Go.WideShapes Go.ChangeAt Go.RowKit
set_option linter.unusedVariables false
attribute [local go_sem] Go.wp_at_zero Go.wp_at_succ

theorem Try.info46 : (Try.prog.info? 46).map (fun i => (i.zero, i.size, i.bytes)) = some (some (.agg #[.string ByteArray.empty, .slice none 0 0]), 2, 40) := by kernel_rfl

/-- The room of the next block. -/
def nextB (q : Nat) : Nat := min (max (2 * q) 512) 65536
theorem nextB_le (q : Nat) : 512 ≤ nextB q ∧ nextB q ≤ 65536 := by unfold nextB; omega

/-- The cells of a new block of room K. -/
def made (K : Nat) : Array Value := madeCells #[.int .u8 0] K
theorem made_size (K : Nat) : (made K).size = K := by simp [made, madeCells]

theorem run_made (K : Nat) (hK : K ≤ 65536) (w : World) : (Instr.makeSlice 33 (.int .i64 0) (.int .i64 (K : Int))).run Try.prog w = .ok (.slice (some ⟨w.heap.size, 0, none⟩) 0 K) (w.alloc (.cells (made K) 5)) := by
  obtain ⟨i5, hi5, hy0, hy1, hy2⟩ := info_parts Try.info5
  have h := run_make (P := Try.prog) w 33 5 i5 (.int .u8 0) Try.underlying33 hi5 hy0 .i64 .i64 0 K (Int.le_refl _) (by omega) (by rw [hy2]; omega) (by omega)
  rw [h, hy1]
  simp [made, Value.cells]

/-- w' is w but for block bb. -/
structure SameBut (bb : Nat) (w w' : World) : Prop where
  os : w'.os = w.os
  tape : w'.tape = w.tape
  output : w'.output = w.output
  size : w'.heap.size = w.heap.size
  block : ∀ k, k ≠ bb → w'.heap[k]? = w.heap[k]?

theorem SameBut.of_drewN (bb d : Nat) (w : World) : SameBut bb w (w.drewN d) := ⟨rfl, rfl, rfl, rfl, fun _ _ => rfl⟩
theorem SameBut.setCell {bb : Nat} {w w' : World} (h : SameBut bb w w') (j : Nat) (v : Value) : SameBut bb w (w'.setCell ⟨bb, j, none⟩ v) :=
  ⟨h.os, h.tape, h.output, by simp [World.setCell, h.size], fun k hk => (Below.heap_setCell _ _ _ _ hk).trans (h.block k hk)⟩

theorem SameBut.owns {bb : Nat} {w w' : World} (h : SameBut bb w w') {base e size n : Nat} {v : Value} {xs : List Value} (ho : w.ownsRow base e size v n xs) (hne : v.ownBlock ≠ some bb) : w'.ownsRow base e size v n xs :=
  ho.kept (row := some bb) ⟨h.os, h.tape, h.output, by rw [h.size]; exact Nat.le_refl _, fun k _ hk => h.block k (fun e => hk (by rw [e]))⟩ (.inr hne)

/-- An owned row of type e does not lie in a block of another type. -/
theorem own_ne {w : World} {B e size : Nat} {v : Value} {n : Nat} {xs : List Value} {b : Nat} {cs : Array Value} {T : TypeId} {fr : Nat × Nat} (hown : w.ownsRow B e size v n xs) (hb : w.heap[b]? = some (.cells cs T fr)) (hTe : T ≠ e) : v.ownBlock ≠ some b := by
  rcases hown.2 with ⟨rfl, _⟩ | ⟨g, cap, cur, rfl, _, hg, _⟩
  · simp [Value.ownBlock]
  · intro h
    simp only [Value.ownBlock, Option.some.injEq] at h
    subst h
    rw [hg] at hb
    simp only [Option.some.injEq, Obj.cells.injEq] at hb
    exact hTe hb.2.1.symm

theorem frozen_two {w : World} {bb : Nat} {cs : Array Value} {T : TypeId} (hb : w.heap[bb]? = some (.cells cs T (0, 0))) (o1 o2 : Obj) : (((w.alloc o1).alloc o2).drew).frozen? ⟨bb, 0, none⟩ = false := by
  have l0 : bb < w.heap.size := (Array.getElem?_eq_some_iff.1 hb).1
  have e1 := (Below.heap_alloc w o1 bb l0).trans hb
  have e2 := (Below.heap_alloc (w.alloc o1) o2 bb (by simp; omega)).trans e1
  exact frozen_of_row ((w.alloc o1).alloc o2) bb 0 _ _ e2

theorem cell_two {w : World} {bb : Nat} {cs : Array Value} {T : TypeId} (hb : w.heap[bb]? = some (.cells cs T (0, 0))) (o1 o2 : Obj) : (((w.alloc o1).alloc o2).drew).cell? ⟨bb, 0, none⟩ = cs[0]? := by
  have l0 : bb < w.heap.size := (Array.getElem?_eq_some_iff.1 hb).1
  have e1 := (Below.heap_alloc w o1 bb l0).trans hb
  have e2 := (Below.heap_alloc (w.alloc o1) o2 bb (by simp; omega)).trans e1
  exact cell_of_row ((w.alloc o1).alloc o2) bb 0 _ _ _ e2

theorem new_two (w : World) (o1 : Obj) (cs : Array Value) (T : TypeId) : (((w.alloc o1).alloc (.cells cs T)).drew).heap[w.heap.size + 1]? = some (.cells cs T (0, 0)) := by
  show ((w.heap.push o1).push (.cells cs T))[w.heap.size + 1]? = _
  rw [Array.getElem?_push, if_pos (by simp)]

/-- Every row of bytes of w is in w' as it was. -/
def Kept5 (w w' : World) : Prop := ∀ (k : Nat) (cur : Array Value), w.heap[k]? = some (.cells cur 5 (0, 0)) → w'.heap[k]? = some (.cells cur 5 (0, 0))

theorem Kept5.refl (w : World) : Kept5 w w := fun _ _ h => h
theorem Kept5.trans {a b c : World} (h : Kept5 a b) (k : Kept5 b c) : Kept5 a c := fun i cur hi => k i cur (h i cur hi)
theorem Kept5.owns {w w' : World} (h : Kept5 w w') {base size n : Nat} {v : Value} {xs : List Value} (ho : w.ownsRow base 5 size v n xs) : w'.ownsRow base 5 size v n xs := by
  refine ⟨ho.1, ?_⟩
  rcases ho.2 with hn | ⟨g, cap, cur, hv, hb, hg, rest⟩
  · exact .inl hn
  · exact .inr ⟨g, cap, cur, hv, hb, h g cur hg, rest⟩

/-- Every block that is none of a buffer's own kinds (bytes, parts, Buffer) is as it was. -/
def OthT (w w' : World) : Prop := ∀ (k : Nat) (cur : Array Value) (T : TypeId) (fr : Nat × Nat), T ≠ 5 → T ≠ 46 → T ≠ 44 → w.heap[k]? = some (.cells cur T fr) → w'.heap[k]? = some (.cells cur T fr)
theorem OthT.refl (w : World) : OthT w w := fun _ _ _ _ _ _ _ h => h
theorem OthT.trans {a b c : World} (h : OthT a b) (k : OthT b c) : OthT a c := fun i cur T fr h1 h2 h3 hi => k i cur T fr h1 h2 h3 (h i cur T fr h1 h2 h3 hi)
theorem OthT.drewN (w : World) (d : Nat) : OthT w (w.drewN d) := fun _ _ _ _ _ _ _ h => h
theorem SameBut.oth {bb : Nat} {w w' : World} {cs : Array Value} {T : TypeId} {fr : Nat × Nat} (h : SameBut bb w w') (hb : w.heap[bb]? = some (.cells cs T fr)) (hT : T = 5 ∨ T = 46 ∨ T = 44) : OthT w w' := fun k cur U fr' h1 h2 h3 hk => by
  have hkb : k ≠ bb := fun e => by
    rw [e, hb] at hk
    simp only [Option.some.injEq, Obj.cells.injEq] at hk
    rcases hT with hT | hT | hT
    · exact h1 (by rw [← hk.2.1, hT])
    · exact h2 (by rw [← hk.2.1, hT])
    · exact h3 (by rw [← hk.2.1, hT])
  rw [h.block k hkb]; exact hk

/-- What openBlock leaves where it has made a block. -/
def OpenedAt (base bb n N K H gg pc : Nat) (xs : List Value) (w wx : World) : Prop :=
  wx.heap[bb]? = some (.cells #[.slice (some ⟨gg, 0, none⟩) (n + 1) pc, .int .i64 N, .int .i64 K] 44 (0, 0)) ∧
  wx.ownsRow base 46 2 (.slice (some ⟨gg, 0, none⟩) (n + 1) pc) (n + 1) (xs ++ [.string ByteArray.empty, .slice (some ⟨H, 0, none⟩) 0 K]) ∧
  wx.ownsRow base 5 1 (.slice (some ⟨H, 0, none⟩) 0 K) 0 [] ∧ Kept5 w wx ∧ Below base w wx ∧ OthT w wx

theorem OpenedAt.drewN {base bb n N K H gg pc : Nat} {xs : List Value} {w wx : World} (h : OpenedAt base bb n N K H gg pc xs w wx) (d : Nat) : OpenedAt base bb n N K H gg pc xs w (wx.drewN d) :=
  ⟨h.1, h.2.1, h.2.2.1, h.2.2.2.1, ⟨h.2.2.2.2.1.os, h.2.2.2.2.1.tape, h.2.2.2.2.1.output, h.2.2.2.2.1.size, h.2.2.2.2.1.block⟩, h.2.2.2.2.2⟩

theorem opened {w wc w1 : World} {base bb n c N K H gg pc q : Nat} {ao : Option Addr} {xs : List Value} (hbb : base ≤ bb) (hK : K ≤ 65536) (hH : wc.heap.size = H)
    (hb : w.heap[bb]? = some (.cells #[.slice ao n c, .int .i64 N, .int .i64 q] 44 (0, 0)))
    (hb1 : wc.heap[bb]? = some (.cells #[.slice ao n c, .int .i64 N, .int .i64 K] 44 (0, 0))) (hs : SameBut bb w wc) (hbase : base ≤ wc.heap.size)
    (hown1 : wc.ownsRow base 46 2 (.slice ao n c) n xs) {o2 : Obj}
    (hown2 : w1.ownsRow base 46 2 (.slice (some ⟨gg, 0, none⟩) (n + 1) pc) (n + 1) (xs ++ [.string ByteArray.empty, .slice (some ⟨H, 0, none⟩) 0 K]))
    (hgrow : (((wc.alloc (.cells (made K) 5)).alloc o2).drew).grownBy w1 (Value.slice ao n c).ownBlock) :
    OpenedAt base bb n N K H gg pc xs w (w1.setCell ⟨bb, 0, none⟩ (.slice (some ⟨gg, 0, none⟩) (n + 1) pc)) := by
  subst hH
  have l0 : bb < wc.heap.size := (Array.getElem?_eq_some_iff.1 hb1).1
  have hne := own_ne hown1 hb1 (by decide)
  -- a block of wc that is not the parts' row
  have old : ∀ k, k < wc.heap.size → some k ≠ (Value.slice ao n c).ownBlock → w1.heap[k]? = wc.heap[k]? := fun k hk hkn => by
    have e1 := Below.heap_alloc wc (.cells (made K) 5) k hk
    have e2 := Below.heap_alloc (wc.alloc (.cells (made K) 5)) o2 k (by simp; omega)
    exact (hgrow.block k (by simp; omega) hkn).trans (e2.trans e1)
  have hbb1 := (old bb l0 (Ne.symm hne)).trans hb1
  have hH : w1.heap[wc.heap.size]? = some (.cells (made K) 5 (0, 0)) := by
    have hkn : some wc.heap.size ≠ (Value.slice ao n c).ownBlock := fun e => by
      have := (hown1.lt _ e.symm).2
      omega
    refine (hgrow.block wc.heap.size (by simp; omega) hkn).trans ?_
    show ((wc.heap.push (.cells (made K) 5)).push o2)[wc.heap.size]? = _
    rw [Array.getElem?_push, if_neg (by simp), Array.getElem?_push, if_pos rfl]
  have hset : ∀ k, k ≠ bb → (w1.setCell ⟨bb, 0, none⟩ (.slice (some ⟨gg, 0, none⟩) (n + 1) pc)).heap[k]? = w1.heap[k]? := fun k hk => Below.heap_setCell _ _ _ _ hk
  refine ⟨?_, ?_, ?_, ?_, ?_, ?_⟩
  · have := heap_setCell_same w1 bb 0 _ 44 (.slice (some ⟨gg, 0, none⟩) (n + 1) pc) hbb1
    exact this
  · have hne2 : (Value.slice (some ⟨gg, 0, none⟩) (n + 1) pc).ownBlock ≠ some bb := own_ne hown2 hbb1 (by decide)
    exact hown2.kept (row := some bb) ⟨rfl, rfl, rfl, by simp [World.setCell], fun k _ hk => hset k (fun e => hk (by rw [e]))⟩ (.inr hne2)
  · refine ⟨rfl, .inr ⟨wc.heap.size, K, made K, rfl, hbase, ?_, Nat.zero_le _, by unfold maxLen; omega, by simp [made_size], by simp⟩⟩
    rw [hset _ (by omega)]; exact hH
  · intro k cur hk
    have hkb : k ≠ bb := fun e => by
      rw [e, hb] at hk
      simp at hk
    have hk1 := (hs.block k hkb).trans hk
    rw [hset k hkb, old k (Array.getElem?_eq_some_iff.1 hk1).1 (Ne.symm (own_ne hown1 hk1 (by decide)))]
    exact hk1
  · refine Below.setCell ?_ (p := ⟨bb, 0, none⟩) hbb _
    have b0 : Below base w wc := ⟨hs.os, hs.tape, hs.output, by rw [hs.size]; exact Nat.le_refl _, fun k hk => hs.block k (by omega)⟩
    have b1 := ((b0.alloc hbase (.cells (made K) 5)).alloc (by simp; omega) o2).drew
    exact b1.grown hgrow (by simp; omega) (fun k hk => (hown1.lt k hk).1)
  · intro k cur U fr' t5 t46 t44 hk
    have hkb : k ≠ bb := fun e => by
      rw [e, hb] at hk
      simp only [Option.some.injEq, Obj.cells.injEq] at hk
      exact t44 hk.2.1.symm
    have hk1 := (hs.block k hkb).trans hk
    rw [hset k hkb, old k (Array.getElem?_eq_some_iff.1 hk1).1 (Ne.symm (own_ne hown1 hk1 t46))]
    exact hk1

set_option maxRecDepth 100000 in
set_option maxHeartbeats 2000000 in
theorem open_new (w : World) (base bb : Nat) (ao : Option Addr) (n c N q : Nat) (xs : List Value) (hq : q ≤ 65536) (hn : n ≤ 1048576)
    (hb : w.heap[bb]? = some (.cells #[.slice ao n c, .int .i64 N, .int .i64 q] 44 (0, 0)))
    (hown : w.ownsRow base 46 2 (.slice ao n c) n xs) (hbase : base ≤ w.heap.size) (hbb : base ≤ bb)
    (hlast : ∀ m, n = m + 1 → ∃ gr ao' l cp, ao = some ⟨gr, 0, none⟩ ∧ w.cell? ⟨gr, m * 2 + 1, none⟩ = some (.slice ao' l cp) ∧ cp ≤ l ∧ l ≤ 1048576) :
    Calls Try.prog 29 #[.pointer (some ⟨bb, 0, none⟩)] w fun e w' => ∃ gg pc, e = .returned (.pointer (some ⟨gg, n * 2 + 1, none⟩)) ∧ OpenedAt base bb n N (nextB q) w.heap.size gg pc xs w w' := by
  obtain ⟨i0, hi, hz0, hz1, hz2⟩ := info_parts Try.info46
  have hcell : ∀ j, w.cell? ⟨bb, j, none⟩ = #[Value.slice ao n c, .int .i64 N, .int .i64 q][j]? := fun j => cell_of_row w bb j _ _ _ hb
  have c0 : w.cell? ⟨bb, 0, none⟩ = some (.slice ao n c) := hcell 0
  have c2 : w.cell? ⟨bb, 2, none⟩ = some (.int .i64 q) := hcell 2
  have f0 : w.frozen? ⟨bb, 0, none⟩ = false := frozen_of_row w bb 0 _ _ hb
  have f2 : w.frozen? ⟨bb, 2, none⟩ = false := frozen_of_row w bb 2 _ _ hb
  have hne := own_ne hown hb (by decide)
  clear hcell
  have hK := nextB_le q
  go_enter Try.func29, Try.ntmps29
  go_upto_if 12 with fail
  go_cut [3] (fun s3 wx => ∃ d, wx = w.drewN d)
  case first =>
    rcases Nat.eq_zero_or_pos n with hn0 | hn0
    · subst hn0
      go_wp2
      go_meet
      exact ⟨0, rfl⟩
    · obtain ⟨m, rfl⟩ : ∃ m, n = m + 1 := ⟨n - 1, by omega⟩
      obtain ⟨gr, ao', l, cp, rfl, hc, hle, hl⟩ := hlast m rfl
      clear hlast hb hown
      have hdec : ¬ ((l : Int) < (cp : Int)) := by omega
      go_wp2
      go_quiet (fail)
      go_wp2
      go_meet
      exact ⟨_, rfl⟩
  case rest =>
  obtain ⟨d, rfl⟩ := hcut
  clear hlast
  go_upto_region 6 with fail
  go_cut [] (fun wx => wx.heap[bb]? = some (.cells #[.slice ao n c, .int .i64 N, .int .i64 (nextB q)] 44 (0, 0)) ∧ SameBut bb w wx)
  case first =>
    have HF : Hid (∀ K : Nat, K = nextB q → ((w.drewN d).setCell ⟨bb, 2, none⟩ (.int .i64 K)).heap[bb]? = some (.cells #[.slice ao n c, .int .i64 N, .int .i64 (nextB q)] 44 (0, 0)) ∧ SameBut bb w ((w.drewN d).setCell ⟨bb, 2, none⟩ (.int .i64 K))) := by
      intro K hK
      subst hK
      refine ⟨?_, (SameBut.of_drewN bb d w).setCell 2 _⟩
      have := heap_setCell_same (w.drewN d) bb 2 _ 44 (.int .i64 (nextB q)) hb
      exact this
    clear hb hown
    go_wp2
    · go_meet
      exact HF.out 512 (by unfold nextB; omega)
    · go_meet
      exact HF.out 65536 (by unfold nextB; omega)
    · go_meet
      have := HF.out (2 * q) (by unfold nextB; omega)
      simpa using this
  case rest =>
  obtain ⟨hb1, hsame⟩ := hcut
  have hown1 := hsame.owns hown hne
  have hsz : Hid (wc.heap.size = w.heap.size) := hsame.size
  obtain ⟨K, hKe⟩ : ∃ K, K = nextB q := ⟨_, rfl⟩
  rw [← hKe] at hb1 hK
  have hKb : K ≤ 65536 := hK.2
  have HKe : Hid (K = nextB q) := hKe
  clear hKe hK c0 c2 f0 f2
  have c0 : wc.cell? ⟨bb, 0, none⟩ = some (.slice ao n c) := cell_of_row wc bb 0 _ _ _ hb1
  have c2 : wc.cell? ⟨bb, 2, none⟩ = some (.int .i64 K) := cell_of_row wc bb 2 _ _ _ hb1
  have f0 : wc.frozen? ⟨bb, 0, none⟩ = false := frozen_of_row wc bb 0 _ _ hb1
  have HFF : Hid (∀ o1 o2, (((wc.alloc o1).alloc o2).drew).frozen? ⟨bb, 0, none⟩ = false) := frozen_two hb1
  have HFC : Hid (∀ o1 o2, (((wc.alloc o1).alloc o2).drew).cell? ⟨bb, 0, none⟩ = some (.slice ao n c)) := cell_two hb1
  have hmk := run_made K hKb
  have lb : bb < wc.heap.size := World.block_lt_of_cell? wc _ c0
  have hbase1 : base ≤ wc.heap.size := by rw [hsz.out]; exact hbase
  have HB : Hid (w.heap[bb]? = some (.cells #[.slice ao n c, .int .i64 N, .int .i64 q] 44 (0, 0))) := hb
  have HB1 : Hid (wc.heap[bb]? = some (.cells #[.slice ao n c, .int .i64 N, .int .i64 K] 44 (0, 0))) := hb1
  have HS : Hid (SameBut bb w wc) := hsame
  clear hb hb1 hsame hown
  go_upto_region 7 with fail
  go_cut [] (fun wx => ∃ gg pc, OpenedAt base bb n N K w.heap.size gg pc xs w wx)
  case first =>
    go_region_law
      ((refine step_append_lies _ (by rfl) _ _ _ (by rfl) base 46 i0 _ 2 40 Try.underlying42 hi hz0 hz1 hz2 rfl (by omega) (.slice ao n c) n xs (by rfl) (((hown1.alloc _).alloc _).drew)
          ⟨wc.heap.size + 1, 0, none⟩ 1 1 [.string ByteArray.empty, .slice (some ⟨wc.heap.size, 0, none⟩) 0 K] (by rfl) (by rfl) (World.news_of_block (cs := #[.string ByteArray.empty, .slice (some ⟨wc.heap.size, 0, none⟩) 0 K]) (t := 46) (fr := (0, 0)) (new_two wc _ _ _)) (by simp [Value.oneCell'])
          (by omega) (by unfold maxLen; omega) (by omega) (by simp; omega) (wc.heap.size + 2) (by simp) ?_; intro gg cap w1 hown2 hgrow hat hlt; have hf0 := (hgrow.frozen_far ⟨bb, 0, none⟩ (by simp; omega) (Ne.symm hne)).trans (HFF.out _ _); have hc0 := (hgrow.cell_far ⟨bb, 0, none⟩ (by simp; omega) (Ne.symm hne)).trans (HFC.out _ _)))
    all_goals (go_wp2_with fail; go_meet; exact ⟨gg, cap, opened hbb hKb hsz.out HB.out HB1.out HS.out hbase1 hown1 (by rw [← hsz.out]; exact hown2) hgrow⟩)
  case rest =>
  obtain ⟨gg, pc, hop⟩ := hcut
  have HO : Hid (OpenedAt base bb n N K w.heap.size gg pc xs w wc) := hop
  have d0 : wc.cell? ⟨bb, 0, none⟩ = some (.slice (some ⟨gg, 0, none⟩) (n + 1) pc) := cell_of_row wc bb 0 _ _ _ hop.1
  clear hop hmk c0 c2 f0 HFF HFC HB HB1 HS hown1
  go_wp2
  go_quiet (fail)
  go_wp2
  go_ret
  refine ⟨gg, pc, rfl, ?_⟩
  rw [← HKe.out]
  exact HO.out.drewN _
end Go.Proofs.Qxb6601673a
