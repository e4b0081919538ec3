/-
  SEAT b6601673a: bytes appended to the last block, in place.
-/
import Derived.Test.Qxb6601673aPlain
namespace Go.Proofs.Qxb6601673a
open Go.ChangeShapes Go.WideShapes Go.ChangeAt Go.RowKit
set_option linter.unusedVariables false

/-- 'append(b, s...)', b an owned row of bytes with room, s a string. -/
theorem run_put_str (w : World) (base g n cap : Nat) (xs : List Value) (hown : w.ownsRow base 5 1 (.slice (some ⟨g, 0, none⟩) n cap) n xs) (s : ByteArray) (ty : TypeId) (hroom : n + s.size ≤ cap) :
    ∃ w', (Builtin.append_ #[33, 9] ty #[.slice (some ⟨g, 0, none⟩) n cap, .string s]).run Try.prog w = .ok (.slice (some ⟨g, 0, none⟩) (n + s.size) cap) w' ∧
      w'.ownsRow base 5 1 (.slice (some ⟨g, 0, none⟩) (n + s.size) cap) (n + s.size) (xs ++ Lib.strCells s) ∧ SameBut g w w' := by
  obtain ⟨i0, hi, hz0, hz1, hz2⟩ := info_parts Try.info5
  rcases hown.2 with ⟨h', _⟩ | ⟨g', cap', cur, h', hb, hg, hnc, hcm, hcs, htake⟩
  · simp at h'
  · simp only [Value.slice.injEq, Option.some.injEq, Addr.mk.injEq, and_true, true_and] at h'
    obtain ⟨rfl, rfl⟩ := h'
    have hxl : xs.length = n := by simpa using hown.1
    have hcs' : cur.size = cap := by simpa using hcs
    have hr := Lib.run_append_room_string (P := Try.prog) w 33 9 ty 5 i0 Try.underlying33 Try.underlying9 hi hz1 g n cap cur hg s hroom (by omega)
    refine ⟨_, hr, ⟨by rw [List.length_append, hxl, Lib.strCells_length, Nat.mul_one], .inr ⟨g, cap, _, rfl, hb, setRow_heap w g cur _ 5 _ hg, hroom, hcm, ?_, ?_⟩⟩, ⟨rfl, rfl, rfl, by simp, fun k hk => setRow_other w g k _ hk⟩⟩
    · simp only [List.size_toArray, List.length_append, List.length_take, List.length_drop, Array.length_toList, Lib.strCells_length]
      omega
    · have ht' : cur.toList.take n = xs := by simpa using htake
      have hl : (xs ++ Lib.strCells s).length = (n + s.size) * 1 := by rw [List.length_append, hxl, Lib.strCells_length, Nat.mul_one]
      rw [ht', ← hl]
      exact List.take_left

/-- .. as one step of a region that draws. -/
theorem step_put_str {ops : Array Oper} {o : Oper} {a : Act} {w : World} {K : Act → World → Prop} {Q : Exit → Act → World → Prop} {E : Prop}
    (hg : o.guard = none) (sl x : Operand) (hop : o.op = Op.call { callee := Callee.builtin Builtin.append, args := #[sl, x], argTypes := #[33, 9] })
    (base g n cap : Nat) (xs : List Value) (hs : a.eval sl = .slice (some ⟨g, 0, none⟩) n cap) (hown : w.ownsRow base 5 1 (.slice (some ⟨g, 0, none⟩) n cap) n xs) (s : ByteArray) (hx : a.eval x = .string s) (hroom : n + s.size ≤ cap)
    (hK : ∀ w', w'.ownsRow base 5 1 (.slice (some ⟨g, 0, none⟩) (n + s.size) cap) (n + s.size) (xs ++ Lib.strCells s) → SameBut g w w' → K (a.put o.dst (.slice (some ⟨g, 0, none⟩) (n + s.size) cap)) w') :
    if Region.wanted o (yielded ops a.tmps) = true then Oper.wp Try.prog o a w K Q else E := by
  have hw : Region.wanted o (yielded ops a.tmps) = true := by simp [Region.wanted, hg]
  rw [if_pos hw]
  obtain ⟨w', hrun, h1, h2⟩ := run_put_str w base g n cap xs hown s o.type hroom
  unfold Oper.wp
  simp [execOp, hop, resolve, invoke, builtin, hs, hx, hrun, Result.andThen]
  exact hK w' h1 h2

/-- THE BUFFER BEHIND IT: the last block has gone on by t. -/
theorem buf_put {base bb gr pc g cap N : Nat} {init : List LPart} {bs : List UInt8} {t : List UInt8} {w w1 : World}
    (h : BufAt base bb (.slice (some ⟨gr, 0, none⟩) (init.length + 1) pc) (init ++ [.inr (g, bs, cap)]) N w)
    (hown : w1.ownsRow base 5 1 (.slice (some ⟨g, 0, none⟩) (bs.length + t.length) cap) (bs.length + t.length) (bcells bs ++ bcells t)) (hs : SameBut g w w1) :
    BufAt base bb (.slice (some ⟨gr, 0, none⟩) (init.length + 1) pc) (init ++ [.inr (g, bs ++ t, cap)]) N (w1.setCell ⟨gr, init.length * 2 + 1, none⟩ (.slice (some ⟨g, 0, none⟩) (bs.length + t.length) cap)) ∧
    Below base w (w1.setCell ⟨gr, init.length * 2 + 1, none⟩ (.slice (some ⟨g, 0, none⟩) (bs.length + t.length) cap)) ∧
    OthT w (w1.setCell ⟨gr, init.length * 2 + 1, none⟩ (.slice (some ⟨g, 0, none⟩) (bs.length + t.length) cap)) := by
  obtain ⟨h1, h2, h3, h4, h5⟩ := h
  have hl : (init ++ [Sum.inr (g, bs, cap)] : List LPart).length = init.length + 1 := by simp
  rw [hl] at h3
  have hp := h4 (.inr (g, bs, cap)) (by simp)
  have hgb : base ≤ g := (hp.2.lt g rfl).1
  have hgrb : base ≤ gr := (h3.lt gr rfl).1
  have hbg : bb ≠ g := fun e => by
    have := own_ne hp.2 h2 (by decide)
    exact this (by rw [e]; rfl)
  have hbgr : bb ≠ gr := fun e => by
    have := own_ne h3 h2 (by decide)
    exact this (by rw [e]; rfl)
  obtain ⟨cur, hgr⟩ : ∃ cur, w.heap[gr]? = some (.cells cur 46 (0, 0)) := by
    rcases h3.2 with ⟨h', _⟩ | ⟨g', cap', cur, h', hb, hg, _⟩
    · simp at h'
    · simp at h'
      exact ⟨cur, by rw [h'.1]; exact hg⟩
  have hggr : (Value.slice (some ⟨g, 0, none⟩) bs.length cap).ownBlock ≠ some gr := own_ne hp.2 hgr (by decide)
  have hggr' : g ≠ gr := fun e => hggr (by rw [← e]; rfl)
  have h3' := hs.owns h3 (fun e => hggr' (by simpa [Value.ownBlock] using e.symm))
  have hset : ∀ k, k ≠ gr → (w1.setCell ⟨gr, init.length * 2 + 1, none⟩ (.slice (some ⟨g, 0, none⟩) (bs.length + t.length) cap)).heap[k]? = w1.heap[k]? := fun k hk => Below.heap_setCell _ _ _ _ hk
  have hrow : rowOf (init ++ [.inr (g, bs ++ t, cap)]) = (rowOf (init ++ [.inr (g, bs, cap)])).set (init.length * 2 + 1) (.slice (some ⟨g, 0, none⟩) (bs.length + t.length) cap) := by
    rw [rowOf_append, rowOf_one, rowOf_append, rowOf_one, List.set_append, rowOf_length, if_neg (by omega)]
    have : init.length * 2 + 1 - init.length * 2 = 1 := by omega
    rw [this]
    simp [pcells]
  have hgs : gsOf (init ++ [.inr (g, bs ++ t, cap)]) = gsOf (init ++ [.inr (g, bs, cap)]) := by rw [gsOf_append, gsOf_append]; rfl
  have hnb : nb (init ++ [.inr (g, bs ++ t, cap)]) = nb (init ++ [.inr (g, bs, cap)]) := by unfold nb; rw [hgs]
  refine ⟨⟨h1, ?_, ?_, ?_, ?_⟩, ?_, ?_⟩
  · rw [hset bb hbgr, hs.block bb hbg, hnb]; exact h2
  · rw [List.length_append, hrow]
    exact (h3'.stored _ _).1
  · intro p hpm
    rcases List.mem_append.1 hpm with hpm | hpm
    · have hpo := h4 p (List.mem_append.2 (.inl hpm))
      cases p with
      | inl s => trivial
      | inr x =>
        obtain ⟨g2, bs2, cap2⟩ := x
        have hg2 : g2 ≠ g := fun e => by
          rw [gsOf_append] at h5
          have := (List.nodup_append.1 h5).2.2 g2 (List.mem_flatMap.2 ⟨_, hpm, by simp [gOf]⟩) g (by simp [gsOf, gOf])
          exact this e
        have hg2r : g2 ≠ gr := fun e => own_ne hpo.2 hgr (by decide) (by rw [← e]; rfl)
        refine ⟨hpo.1, (hs.owns hpo.2 (fun e => hg2 (by simpa [Value.ownBlock] using e))).kept (row := some gr) ⟨rfl, rfl, rfl, by simp [World.setCell], fun k _ hk => hset k (fun e => hk (by rw [e]))⟩ (.inr (fun e => hg2r (by simpa [Value.ownBlock] using e)))⟩
    · simp at hpm; subst hpm
      refine ⟨hp.1, ?_⟩
      rw [bcells_append, List.length_append]
      exact hown.kept (row := some gr) ⟨rfl, rfl, rfl, by simp [World.setCell], fun k _ hk => hset k (fun e => hk (by rw [e]))⟩ (.inr (fun e => hggr' (by simpa [Value.ownBlock] using e)))
  · rw [hgs]; exact h5
  · refine Below.setCell ?_ (p := ⟨gr, init.length * 2 + 1, none⟩) hgrb _
    exact ⟨hs.os, hs.tape, hs.output, by rw [hs.size]; exact Nat.le_refl _, fun k hk => hs.block k (by omega)⟩
  · intro k cur2 U fr' t5 t46 t44 hk
    have hkg : k ≠ g := fun e => own_ne hp.2 hk t5 (by rw [e]; rfl)
    have hkr : k ≠ gr := fun e => own_ne h3 hk t46 (by rw [e]; rfl)
    rw [hset k hkr, hs.block k hkg]
    exact hk
end Go.Proofs.Qxb6601673a
