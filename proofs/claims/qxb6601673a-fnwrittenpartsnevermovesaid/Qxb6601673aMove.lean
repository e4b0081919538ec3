/-
  SEAT b6601673a: FnWrittenPartsNeverMove: the four rows in which the law keeps what it saw.
-/
import Derived.Test.Qxb6601673aString
namespace Go.Proofs.Qxb6601673a
open Go.ChangeShapes Go.WideShapes Go.ChangeAt Go.RowKit
set_option linter.unusedVariables false

theorem Try.info4 : (Try.prog.info? 4).map (fun i => (i.zero, i.size, i.bytes)) = some (some (.bool false), 1, 1) := by kernel_rfl
theorem Try.info3 : (Try.prog.info? 3).map (fun i => (i.zero, i.size, i.bytes)) = some (some (.int .i64 0), 1, 8) := by kernel_rfl

/-- The zero cells that 'make' lays. -/
def mkRow (z : Value) (n : Nat) : Array Value := madeCells #[z] n
theorem mkRow_list (z : Value) (n : Nat) : (mkRow z n).toList = List.replicate n z := toList_madeCells_one z n

theorem run_mkRow (t e : TypeId) (z : Value) (bytes : Nat) (ht : Try.prog.underlying t = some (.slice e)) (hinfo : (Try.prog.info? e).map (fun i => (i.zero, i.size, i.bytes)) = some (some z, 1, bytes)) (hz : z.cells = #[z]) (n : Nat) (hn : bytes * n ≤ 281474976710656) (hn2 : n ≤ 1048576) (w : World) :
    (Instr.makeSlice t (.int .i64 (n : Int)) (.int .i64 (n : Int))).run Try.prog w = .ok (.slice (some ⟨w.heap.size, 0, none⟩) n n) (w.alloc (.cells (mkRow z n) e)) := by
  obtain ⟨i, hi, hz0, hz1, hz2⟩ := info_parts hinfo
  have h := run_make (P := Try.prog) w t e i z ht hi hz0 .i64 .i64 n n (by omega) (Int.le_refl _) (by rw [hz2]; omega) (by omega)
  rw [h, hz1, hz]
  simp [mkRow]

/-- A row filled for the first k parts. -/
def snap (f : LPart → Value) (z : Value) (ps : List LPart) (k : Nat) : List Value := (ps.take k).map f ++ List.replicate (ps.length - k) z

theorem snap_length (f : LPart → Value) (z : Value) (ps : List LPart) (k : Nat) (h : k ≤ ps.length) : (snap f z ps k).length = ps.length := by
  simp [snap]; omega
theorem snap_zero (f : LPart → Value) (z : Value) (ps : List LPart) : snap f z ps 0 = List.replicate ps.length z := by simp [snap]
theorem snap_full (f : LPart → Value) (z : Value) (ps : List LPart) : snap f z ps ps.length = ps.map f := by simp [snap]
theorem snap_set (f : LPart → Value) (z : Value) (ps : List LPart) (k : Nat) (h : k < ps.length) : (snap f z ps k).set k (f ps[k]) = snap f z ps (k + 1) := by
  unfold snap
  rw [List.take_succ_eq_append_getElem h]
  obtain ⟨m, hm⟩ : ∃ m, ps.length - k = m + 1 := ⟨ps.length - k - 1, by omega⟩
  have hl : ((ps.take k).map f).length = k := by simp; omega
  rw [List.set_append, if_neg (by omega), hl, hm, List.replicate_succ]
  have e : ps.length - (k + 1) = m := by omega
  rw [e]
  simp
  rw [List.take_succ_eq_append_getElem (by simpa using h)]
  simp

def btx : LPart → List UInt8
  | .inl _ => []
  | .inr (_, bs, _) => bs
def isB : LPart → Bool
  | .inl _ => false
  | .inr _ => true
def capP : LPart → Nat
  | .inl _ => 0
  | .inr (_, _, cap) => cap
def fK (p : LPart) : Value := .string (kstr p)
def fB (p : LPart) : Value := .string (mkS (btx p))
def fI (p : LPart) : Value := .bool (isB p)
def fC (p : LPart) : Value := .int .i64 (capP p)

/-- One row of the call's own, in block g. -/
def RowAt (g : Nat) (e : TypeId) (xs : List Value) (w : World) : Prop := w.ownsRow g e 1 (.slice (some ⟨g, 0, none⟩) xs.length xs.length) xs.length xs

theorem RowAt.cell {g : Nat} {e : TypeId} {xs : List Value} {w : World} (h : RowAt g e xs w) (j : Nat) (hj : j < xs.length) : w.cell? ⟨g, j, none⟩ = some xs[j] := by
  rw [World.ownsRow.cellAt h j (by omega)]; exact List.getElem?_eq_getElem hj
theorem RowAt.free {g : Nat} {e : TypeId} {xs : List Value} {w : World} (h : RowAt g e xs w) (j : Nat) : w.frozen? ⟨g, j, none⟩ = false := World.ownsRow.frozenAt h j
theorem RowAt.stored {g : Nat} {e : TypeId} {xs : List Value} {w : World} (h : RowAt g e xs w) (j : Nat) (u : Value) : RowAt g e (xs.set j u) (w.setCell ⟨g, j, none⟩ u) := by
  have := (World.ownsRow.stored h j u).1
  unfold RowAt
  rw [List.length_set]
  exact this
theorem RowAt.other {g g' : Nat} {e : TypeId} {xs : List Value} {w : World} (h : RowAt g e xs w) (hne : g ≠ g') (j : Nat) (u : Value) : RowAt g e xs (w.setCell ⟨g', j, none⟩ u) :=
  World.ownsRow.kept (row := some g') h ⟨rfl, rfl, rfl, by simp [World.setCell], fun k _ hk => Below.heap_setCell _ _ _ _ (fun e => hk (by rw [e]))⟩ (.inr (fun e => hne (by simpa [Value.ownBlock] using e)))
theorem RowAt.oth {g : Nat} {e : TypeId} {xs : List Value} {w w' : World} (h : RowAt g e xs w) (ho : OthT w w') (h1 : e ≠ 5) (h2 : e ≠ 46) (h3 : e ≠ 44) : RowAt g e xs w' := by
  refine ⟨h.1, ?_⟩
  rcases h.2 with hn | ⟨g2, cap, cur, hv, hbg, hg, rest⟩
  · exact .inl hn
  · exact .inr ⟨g2, cap, cur, hv, hbg, ho g2 cur e (0, 0) h1 h2 h3 hg, rest⟩
theorem RowAt.new (w : World) (z : Value) (n : Nat) (e : TypeId) (hn : n ≤ 1048576) : RowAt w.heap.size e (List.replicate n z) (w.alloc (.cells (mkRow z n) e)) := by
  unfold RowAt
  rw [List.length_replicate]
  refine ⟨by simp, .inr ⟨w.heap.size, n, mkRow z n, rfl, Nat.le_refl _, heap_alloc_new w _, Nat.le_refl _, by unfold maxLen; omega, ?_, ?_⟩⟩
  · rw [← Array.length_toList, mkRow_list]; simp
  · rw [mkRow_list]; simp
theorem RowAt.alloc {g : Nat} {e : TypeId} {xs : List Value} {w : World} (h : RowAt g e xs w) (o : Obj) : RowAt g e xs (w.alloc o) := World.ownsRow.alloc h o

/-- THE FOUR ROWS, filled as far as k1, k2, k3, k4. -/
def Snap (ps : List LPart) (H k1 k2 k3 k4 : Nat) (w : World) : Prop :=
  RowAt H 9 (snap fK (.string ByteArray.empty) ps k1) w ∧ RowAt (H + 1) 9 (snap fB (.string ByteArray.empty) ps k2) w ∧
  RowAt (H + 2) 4 (snap fI (.bool false) ps k3) w ∧ RowAt (H + 3) 3 (snap fC (.int .i64 0) ps k4) w

theorem Snap.s1 {ps : List LPart} {H k k2 k3 k4 : Nat} {w : World} (h : Snap ps H k k2 k3 k4 w) (hk : k < ps.length) : Snap ps H (k + 1) k2 k3 k4 (w.setCell ⟨H, k, none⟩ (fK ps[k])) := by
  refine ⟨?_, h.2.1.other (by omega) _ _, h.2.2.1.other (by omega) _ _, h.2.2.2.other (by omega) _ _⟩
  rw [← snap_set fK _ ps k hk]; exact h.1.stored k _
theorem Snap.s2 {ps : List LPart} {H k1 k k3 k4 : Nat} {w : World} (h : Snap ps H k1 k k3 k4 w) (hk : k < ps.length) : Snap ps H k1 (k + 1) k3 k4 (w.setCell ⟨H + 1, k, none⟩ (fB ps[k])) := by
  refine ⟨h.1.other (by omega) _ _, ?_, h.2.2.1.other (by omega) _ _, h.2.2.2.other (by omega) _ _⟩
  rw [← snap_set fB _ ps k hk]; exact h.2.1.stored k _
theorem Snap.s3 {ps : List LPart} {H k1 k2 k k4 : Nat} {w : World} (h : Snap ps H k1 k2 k k4 w) (hk : k < ps.length) : Snap ps H k1 k2 (k + 1) k4 (w.setCell ⟨H + 2, k, none⟩ (fI ps[k])) := by
  refine ⟨h.1.other (by omega) _ _, h.2.1.other (by omega) _ _, ?_, h.2.2.2.other (by omega) _ _⟩
  rw [← snap_set fI _ ps k hk]; exact h.2.2.1.stored k _
theorem Snap.s4 {ps : List LPart} {H k1 k2 k3 k : Nat} {w : World} (h : Snap ps H k1 k2 k3 k w) (hk : k < ps.length) : Snap ps H k1 k2 k3 (k + 1) (w.setCell ⟨H + 3, k, none⟩ (fC ps[k])) := by
  refine ⟨h.1.other (by omega) _ _, h.2.1.other (by omega) _ _, h.2.2.1.other (by omega) _ _, ?_⟩
  rw [← snap_set fC _ ps k hk]; exact h.2.2.2.stored k _
theorem Snap.oth {ps : List LPart} {H k1 k2 k3 k4 : Nat} {w w' : World} (h : Snap ps H k1 k2 k3 k4 w) (ho : OthT w w') : Snap ps H k1 k2 k3 k4 w' :=
  ⟨h.1.oth ho (by decide) (by decide) (by decide), h.2.1.oth ho (by decide) (by decide) (by decide), h.2.2.1.oth ho (by decide) (by decide) (by decide), h.2.2.2.oth ho (by decide) (by decide) (by decide)⟩
theorem Snap.new (w : World) (ps : List LPart) (hn : ps.length ≤ 1048576) :
    Snap ps w.heap.size 0 0 0 0 ((((w.alloc (.cells (mkRow (.string ByteArray.empty) ps.length) 9)).alloc (.cells (mkRow (.string ByteArray.empty) ps.length) 9)).alloc (.cells (mkRow (.bool false) ps.length) 4)).alloc (.cells (mkRow (.int .i64 0) ps.length) 3)) := by
  have n1 := RowAt.new w (.string ByteArray.empty) ps.length 9 hn
  have n2 := RowAt.new (w.alloc (.cells (mkRow (.string ByteArray.empty) ps.length) 9)) (.string ByteArray.empty) ps.length 9 hn
  have n3 := RowAt.new ((w.alloc (.cells (mkRow (.string ByteArray.empty) ps.length) 9)).alloc (.cells (mkRow (.string ByteArray.empty) ps.length) 9)) (.bool false) ps.length 4 hn
  have n4 := RowAt.new (((w.alloc (.cells (mkRow (.string ByteArray.empty) ps.length) 9)).alloc (.cells (mkRow (.string ByteArray.empty) ps.length) 9)).alloc (.cells (mkRow (.bool false) ps.length) 4)) (.int .i64 0) ps.length 3 hn
  simp only [World.size_alloc] at n2 n3 n4
  refine ⟨?_, ?_, ?_, ?_⟩
  · rw [snap_zero]; exact ((n1.alloc _).alloc _).alloc _
  · rw [snap_zero]; exact (n2.alloc _).alloc _
  · rw [snap_zero]; exact n3.alloc _
  · rw [snap_zero]; exact n4

/-- Cells and marks of the four rows. -/
theorem RowAt.someAt {g : Nat} {e : TypeId} {f : LPart → Value} {z : Value} {ps : List LPart} {k : Nat} {w : World} (h : RowAt g e (snap f z ps k) w) (hk : k ≤ ps.length) (j : Nat) (hj : j < ps.length) : ∃ u, w.cell? ⟨g, j, none⟩ = some u :=
  ⟨_, h.cell j (by rw [snap_length f z ps k hk]; exact hj)⟩
theorem RowAt.full {g : Nat} {e : TypeId} {f : LPart → Value} {z : Value} {ps : List LPart} {w : World} (h : RowAt g e (snap f z ps ps.length) w) (j : Nat) (hj : j < ps.length) : w.cell? ⟨g, j, none⟩ = some (f ps[j]) := by
  rw [snap_full] at h
  rw [h.cell j (by simpa using hj)]; simp
end Go.Proofs.Qxb6601673a
