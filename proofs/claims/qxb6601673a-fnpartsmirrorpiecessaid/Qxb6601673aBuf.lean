/-
  SEAT b6601673a: a Buffer in memory ('BufAt'), and openBlock's contract over it.
-/
import Derived.Test.Qxb6601673aOpenB
namespace Go.Proofs.Qxb6601673a
open Go.ChangeShapes Go.WideShapes Go.ChangeAt Go.RowKit
set_option linter.unusedVariables false

/-- A part: a string kept as it came; or a block: where it lies, its bytes, its room. -/
abbrev LPart := ByteArray ⊕ (Nat × List UInt8 × Nat)

/-- A part's two cells. -/
def pcells : LPart → List Value
  | .inl s => [.string s, .slice none 0 0]
  | .inr (g, bs, cap) => [.string ByteArray.empty, .slice (some ⟨g, 0, none⟩) bs.length cap]
theorem pcells_length (p : LPart) : (pcells p).length = 2 := by cases p <;> rfl

def rowOf (ps : List LPart) : List Value := ps.flatMap pcells
theorem rowOf_append (a b : List LPart) : rowOf (a ++ b) = rowOf a ++ rowOf b := by simp [rowOf]
theorem rowOf_cons (p : LPart) (r : List LPart) : rowOf (p :: r) = pcells p ++ rowOf r := by simp [rowOf]
theorem rowOf_one (p : LPart) : rowOf [p] = pcells p := by simp [rowOf]
theorem rowOf_length (ps : List LPart) : (rowOf ps).length = ps.length * 2 := by
  induction ps with
  | nil => rfl
  | cons p r ih =>
    have : rowOf (p :: r) = pcells p ++ rowOf r := by simp [rowOf]
    rw [this, List.length_append, ih, pcells_length, List.length_cons]; omega

/-- The cells of part i. -/
theorem rowOf_at (ps : List LPart) (i : Nat) (h : i < ps.length) (j : Nat) (hj : j < 2) : (rowOf ps)[i * 2 + j]? = (pcells ps[i])[j]? := by
  have e : ps = ps.take i ++ (ps[i] :: ps.drop (i + 1)) := by rw [List.getElem_cons_drop, List.take_append_drop]
  have e2 : rowOf ps = rowOf (ps.take i) ++ (pcells ps[i] ++ rowOf (ps.drop (i + 1))) := by
    conv => lhs; rw [e]
    rw [rowOf_append, rowOf_cons]
  have hl : (rowOf (ps.take i)).length = i * 2 := by rw [rowOf_length, List.length_take, Nat.min_eq_left (by omega)]
  rw [e2, List.getElem?_append_right (by omega), hl, List.getElem?_append_left (by rw [pcells_length]; omega)]
  congr 1; omega

/-- A block's bytes lie where the part says. -/
def pOk (w : World) (base : Nat) : LPart → Prop
  | .inl _ => True
  | .inr (g, bs, cap) => cap ≤ 65536 ∧ w.ownsRow base 5 1 (.slice (some ⟨g, 0, none⟩) bs.length cap) bs.length (bcells bs)

def gOf : LPart → List Nat
  | .inl _ => []
  | .inr (g, _, _) => [g]
/-- The blocks of the parts. -/
def gsOf (ps : List LPart) : List Nat := ps.flatMap gOf
theorem gsOf_append (a b : List LPart) : gsOf (a ++ b) = gsOf a ++ gsOf b := by simp [gsOf]

/-- How many blocks. -/
def nb (ps : List LPart) : Nat := (gsOf ps).length

/-- The size of the last block made, k blocks made. -/
def bsz : Nat → Nat
  | 0 => 0
  | k + 1 => min (512 * 2 ^ k) 65536
theorem bsz_le (k : Nat) : bsz k ≤ 65536 := by cases k <;> simp [bsz]; omega
theorem nextB_bsz (k : Nat) : nextB (bsz k) = bsz (k + 1) := by
  cases k with
  | zero => rfl
  | succ k =>
    have : 2 ^ (k + 1) = 2 * 2 ^ k := by rw [Nat.pow_succ]; omega
    have hp : 0 < 2 ^ k := Nat.pow_pos (by decide)
    simp only [bsz, nextB, this]; omega

/-- A Buffer in block bb: its parts ps (its field 'parts' holding pv), its length N. -/
def BufAt (base bb : Nat) (pv : Value) (ps : List LPart) (N : Nat) (w : World) : Prop :=
  base ≤ bb ∧ w.heap[bb]? = some (.cells #[pv, .int .i64 N, .int .i64 (bsz (nb ps))] 44 (0, 0)) ∧ w.ownsRow base 46 2 pv ps.length (rowOf ps) ∧
  (∀ p ∈ ps, pOk w base p) ∧ (gsOf ps).Nodup

theorem BufAt.lt {base bb : Nat} {pv : Value} {ps : List LPart} {N : Nat} {w : World} (h : BufAt base bb pv ps N w) : bb < w.heap.size := (Array.getElem?_eq_some_iff.1 h.2.1).1

theorem pOk.kept {w w' : World} {base : Nat} (hk : Kept5 w w') {p : LPart} (h : pOk w base p) : pOk w' base p := by
  cases p with
  | inl s => trivial
  | inr x => obtain ⟨g, bs, cap⟩ := x; exact ⟨h.1, hk.owns h.2⟩

theorem pOk.lt {w : World} {base : Nat} {p : LPart} (h : pOk w base p) : ∀ g ∈ gOf p, g < w.heap.size := by
  cases p with
  | inl s => simp [gOf]
  | inr x =>
    obtain ⟨g, bs, cap⟩ := x
    intro k hk
    simp [gOf] at hk; subst hk
    exact (h.2.lt _ rfl).2

theorem BufAt.drewN {base bb : Nat} {pv : Value} {ps : List LPart} {N : Nat} {w : World} (h : BufAt base bb pv ps N w) (d : Nat) : BufAt base bb pv ps N (w.drewN d) := by
  refine ⟨h.1, h.2.1, h.2.2.1, fun p hp => (h.2.2.2.1 p hp).kept fun _ _ e => e, h.2.2.2.2⟩

theorem below_drewN' {B : Nat} {w : World} (d : Nat) : Below B w (w.drewN d) := ⟨rfl, rfl, rfl, Nat.le_refl _, fun _ _ => rfl⟩

theorem snoc_cases {α : Type} (l : List α) : l = [] ∨ ∃ a b, l = a ++ [b] := by
  rcases List.eq_nil_or_concat l with h | ⟨a, b, h⟩
  · exact .inl h
  · exact .inr ⟨a, b, by rw [h, List.concat_eq_append]⟩

/-- Does the last part have room? -/
def roomy (ps : List LPart) : Bool := match ps.getLast? with
  | some (.inr (_, bs, cap)) => decide (bs.length < cap)
  | _ => false

/-- WHAT openBlock LEAVES: the last part is a block with room; it was there, or it is new. -/
def OpenRel (ps init : List LPart) (g : Nat) (bs : List UInt8) (cap : Nat) : Prop :=
  bs.length < cap ∧ ((roomy ps = true ∧ ps = init ++ [.inr (g, bs, cap)]) ∨ (roomy ps = false ∧ ps = init ∧ bs = [] ∧ cap = bsz (nb ps + 1)))

theorem buf_new {base bb n N gg pc : Nat} {w w' : World} {pv : Value} {ps : List LPart} (hn : ps.length = n) (h : BufAt base bb pv ps N w)
    (ho : OpenedAt base bb n N (nextB (bsz (nb ps))) w.heap.size gg pc (rowOf ps) w w') :
    BufAt base bb (.slice (some ⟨gg, 0, none⟩) (n + 1) pc) (ps ++ [.inr (w.heap.size, [], bsz (nb ps + 1))]) N w' := by
  obtain ⟨h1, h2, h3, h4, h5⟩ := h
  obtain ⟨o1, o2, o3, o4, o5⟩ := ho
  rw [nextB_bsz] at o1 o2 o3
  have hg : gsOf (ps ++ [.inr (w.heap.size, [], bsz (nb ps + 1))]) = gsOf ps ++ [w.heap.size] := by rw [gsOf_append]; rfl
  refine ⟨h1, ?_, ?_, ?_, ?_⟩
  · have : nb (ps ++ [.inr (w.heap.size, [], bsz (nb ps + 1))]) = nb ps + 1 := by
      show (gsOf (ps ++ [.inr (w.heap.size, [], bsz (nb ps + 1))])).length = (gsOf ps).length + 1
      rw [hg]; simp
    rw [this]; exact o1
  · rw [rowOf_append, rowOf_one, List.length_append, hn]
    exact o2
  · intro p hp
    rcases List.mem_append.1 hp with hp | hp
    · exact (h4 p hp).kept o4
    · simp at hp; subst hp
      exact ⟨bsz_le _, o3⟩
  · rw [hg, List.nodup_append]
    refine ⟨h5, by simp, ?_⟩
    intro a ha b hb
    simp at hb; subst hb
    unfold gsOf at ha
    obtain ⟨p, hp, hap⟩ := List.mem_flatMap.1 ha
    have := (h4 p hp).lt a hap
    omega

set_option maxHeartbeats 400000 in
theorem open_any (w : World) (base bb N : Nat) (pv : Value) (ps : List LPart) (h : BufAt base bb pv ps N w) (hlen : ps.length ≤ 1048576) :
    Calls Try.prog 29 #[.pointer (some ⟨bb, 0, none⟩)] w fun e w' => ∃ init g bs cap gr pc, e = .returned (.pointer (some ⟨gr, init.length * 2 + 1, none⟩)) ∧
      BufAt base bb (.slice (some ⟨gr, 0, none⟩) (init.length + 1) pc) (init ++ [.inr (g, bs, cap)]) N w' ∧ OpenRel ps init g bs cap ∧ Below base w w' ∧ OthT w w' := by
  have hbase : base ≤ w.heap.size := Nat.le_trans h.1 (Nat.le_of_lt h.lt)
  have hq := bsz_le (nb ps)
  -- the new block
  have new : ∀ (ao : Option Addr) (c : Nat), pv = .slice ao ps.length c → roomy ps = false →
      (∀ m, ps.length = m + 1 → ∃ gr ao' l cp, ao = some ⟨gr, 0, none⟩ ∧ w.cell? ⟨gr, m * 2 + 1, none⟩ = some (.slice ao' l cp) ∧ cp ≤ l ∧ l ≤ 1048576) →
      Calls Try.prog 29 #[.pointer (some ⟨bb, 0, none⟩)] w fun e w' => ∃ init g bs cap gr pc, e = .returned (.pointer (some ⟨gr, init.length * 2 + 1, none⟩)) ∧
        BufAt base bb (.slice (some ⟨gr, 0, none⟩) (init.length + 1) pc) (init ++ [.inr (g, bs, cap)]) N w' ∧ OpenRel ps init g bs cap ∧ Below base w w' ∧ OthT w w' := by
    intro ao c hpv hr hlast
    subst hpv
    refine (open_new w base bb ao ps.length c N (bsz (nb ps)) (rowOf ps) hq hlen h.2.1 h.2.2.1 hbase h.1 hlast).mono ?_
    rintro e w' ⟨gg, pc, he, ho⟩
    refine ⟨ps, w.heap.size, [], bsz (nb ps + 1), gg, pc, he, buf_new rfl h ho, ⟨?_, .inr ⟨hr, rfl, rfl, rfl⟩⟩, ho.2.2.2.2.1, ho.2.2.2.2.2⟩
    have := nextB_le (bsz (nb ps)); rw [nextB_bsz] at this; simp; omega
  obtain ⟨ao, c, hpv⟩ : ∃ ao c, pv = .slice ao ps.length c := by
    rcases h.2.2.1.2 with ⟨hv, h0⟩ | ⟨g, cap, cur, hv, _⟩
    · exact ⟨none, 0, by rw [hv, h0]⟩
    · exact ⟨_, _, hv⟩
  rcases snoc_cases ps with rfl | ⟨init, p, rfl⟩
  · exact new ao c hpv rfl (by simp)
  · have hl : (init ++ [p]).length = init.length + 1 := by simp
    have hpl : (init ++ [p])[init.length]'(by simp) = p := by simp
    obtain ⟨gr, cap', hv, hbg, hlt⟩ := h.2.2.1.form (by omega)
    rw [hl] at hv hlen
    have hcell : w.cell? ⟨gr, init.length * 2 + 1, none⟩ = (pcells p)[1]? := by
      have hrow := h.2.2.1
      rw [hv, hl] at hrow
      rw [hrow.cellAt _ (by omega), rowOf_at _ _ (by simp) 1 (by omega), hpl]
    cases p with
    | inl s =>
      refine new (some ⟨gr, 0, none⟩) cap' (by rw [hl]; exact hv) (by simp [roomy]) ?_
      intro m hm
      obtain rfl : m = init.length := by omega
      exact ⟨gr, none, 0, 0, rfl, hcell, Nat.le_refl _, Nat.zero_le _⟩
    | inr x =>
      obtain ⟨g, bs, cap⟩ := x
      have hp := h.2.2.2.1 (.inr (g, bs, cap)) (by simp)
      have hbc : bs.length ≤ cap := by
        rcases hp.2.2 with ⟨h', _⟩ | ⟨g', cap'', cur, h', _, _, h6, _⟩
        · simp at h'
        · simp at h'; omega
      have hc6 : cap ≤ 65536 := hp.1
      by_cases hroom : bs.length < cap
      · refine (open_room w bb gr init.length cap' g bs.length cap ?_ hcell hroom (by omega) (by omega)).mono ?_
        · rw [← hv]; exact cell_of_row w bb 0 _ _ _ h.2.1
        · rintro e w' ⟨he, d, rfl⟩
          refine ⟨init, g, bs, cap, gr, cap', he, ?_, ⟨hroom, .inl ⟨by simp [roomy, hroom], rfl⟩⟩, below_drewN' d, OthT.drewN w d⟩
          rw [← hv]; exact h.drewN d
      · refine new (some ⟨gr, 0, none⟩) cap' (by rw [hl]; exact hv) (by simp [roomy, hroom]) ?_
        intro m hm
        obtain rfl : m = init.length := by omega
        exact ⟨gr, _, bs.length, cap, rfl, hcell, by omega, by omega⟩
end Go.Proofs.Qxb6601673a
