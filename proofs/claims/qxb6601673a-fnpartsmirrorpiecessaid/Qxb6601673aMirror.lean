/-
  SEAT b6601673a: FnPartsMirrorPieces: the plain laws.
-/
import Derived.Test.Qxb6601673aGet
namespace Go.Proofs.Qxb6601673a
open Go.ChangeShapes Go.WideShapes Go.ChangeAt Go.RowKit
set_option linter.unusedVariables false

/-- No byte stands first. -/
def NoByte (X : List (UInt8 ⊕ ByteArray)) : Prop := X = [] ∨ ∃ s X', X = .inr s :: X'

theorem runs_eq : ∀ {a b : List UInt8} {X Y : List (UInt8 ⊕ ByteArray)}, a.map .inl ++ X = b.map .inl ++ Y → NoByte X → NoByte Y → a = b ∧ X = Y
  | [], [], X, Y, h, _, _ => ⟨rfl, by simpa using h⟩
  | [], b :: bs, X, Y, h, hX, _ => by
    simp only [List.map_nil, List.nil_append, List.map_cons, List.cons_append] at h
    rcases hX with rfl | ⟨s, X', rfl⟩
    · cases h
    · simp at h
  | a :: al, [], X, Y, h, _, hY => by
    simp only [List.map_nil, List.nil_append, List.map_cons, List.cons_append] at h
    rcases hY with rfl | ⟨s, X', rfl⟩
    · cases h
    · simp at h
  | a :: al, b :: bs, X, Y, h, hX, hY => by
    simp only [List.map_cons, List.cons_append, List.cons.injEq, Sum.inl.injEq] at h
    obtain ⟨e1, e2⟩ := runs_eq h.2 hX hY
    exact ⟨by rw [h.1, e1], e2⟩

theorem toks_drop_short (ss : List ByteArray) (k : Nat) (h : k < ss.length) (hs : ss[k].size < 4096) : toks (ss.drop k) = ss[k].data.toList.map .inl ++ toks (ss.drop (k + 1)) := by
  rw [List.drop_eq_getElem_cons h]
  show tokS ss[k] ++ toks (ss.drop (k + 1)) = _
  rw [tokS, if_neg (by omega)]
theorem toks_drop_long (ss : List ByteArray) (k : Nat) (h : k < ss.length) (hs : ¬ ss[k].size < 4096) : toks (ss.drop k) = .inr ss[k] :: toks (ss.drop (k + 1)) := by
  rw [List.drop_eq_getElem_cons h]
  show tokS ss[k] ++ toks (ss.drop (k + 1)) = _
  rw [tokS, if_pos (by omega)]; rfl
theorem ptoks_drop (ps : List LPart) (i : Nat) (h : i < ps.length) : ptoks (ps.drop i) = ptok ps[i] ++ ptoks (ps.drop (i + 1)) := by
  rw [List.drop_eq_getElem_cons h]; rfl

theorem tot_zero_iff (ss : List ByteArray) (ps : List LPart) (h : Holds ps ss) : (cat ss).length = 0 ↔ ps.length = 0 := by
  rw [← h.text]
  constructor
  · intro e
    have := h.2.le
    omega
  · intro e
    have : ps = [] := List.eq_nil_of_length_eq_zero e
    subst this; rfl

theorem cat_drop_le (ss : List ByteArray) (k k' : Nat) (run : List UInt8) (h : toks (ss.drop k) = run.map .inl ++ toks (ss.drop k')) : run.length ≤ tot ss := by
  have e := congrArg tokBs h
  rw [tokBs_append, tokBs_toks, tokBs_bytes] at e
  have e2 := congrArg List.length e
  rw [List.length_append, cat_length] at e2
  have := tot_append (ss.take k) (ss.drop k)
  rw [List.take_append_drop] at this
  omega
theorem text_drop_le (ps : List LPart) (i i' : Nat) (run : List UInt8) (h : ptoks (ps.drop i) = run.map .inl ++ ptoks (ps.drop i')) : run.length ≤ (text ps).length := by
  have e := congrArg tokBs h
  rw [tokBs_append, ← text_toks, tokBs_bytes] at e
  have e2 := congrArg List.length e
  rw [List.length_append] at e2
  have := text_append (ps.take i) (ps.drop i)
  rw [List.take_append_drop] at this
  have e3 := congrArg List.length this
  rw [List.length_append] at e3
  omega
end Go.Proofs.Qxb6601673a
