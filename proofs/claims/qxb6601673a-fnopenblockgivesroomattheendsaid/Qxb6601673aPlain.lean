/-
  SEAT b6601673a: the plain laws on parts: tokens, text, what later writes keep.
-/
import Derived.Test.Qxb6601673aBuf
namespace Go.Proofs.Qxb6601673a
open Go.ChangeShapes Go.WideShapes Go.ChangeAt Go.RowKit
set_option linter.unusedVariables false

/-- A part as tokens: a kept string is one token, a block a token a byte. -/
def ptok : LPart → List (UInt8 ⊕ ByteArray)
  | .inl s => [.inr s]
  | .inr (_, bs, _) => bs.map .inl
def ptoks (ps : List LPart) : List (UInt8 ⊕ ByteArray) := ps.flatMap ptok
theorem ptoks_append (a b : List LPart) : ptoks (a ++ b) = ptoks a ++ ptoks b := by simp [ptoks]
theorem ptoks_one (p : LPart) : ptoks [p] = ptok p := by simp [ptoks]

/-- A piece as tokens. -/
def tokS (s : ByteArray) : List (UInt8 ⊕ ByteArray) := if s.size ≥ 4096 then [.inr s] else s.data.toList.map .inl
def toks (ss : List ByteArray) : List (UInt8 ⊕ ByteArray) := ss.flatMap tokS
theorem toks_append (a b : List ByteArray) : toks (a ++ b) = toks a ++ toks b := by simp [toks]

/-- A token's bytes. -/
def tokB : UInt8 ⊕ ByteArray → List UInt8
  | .inl b => [b]
  | .inr s => s.data.toList
def tokBs (l : List (UInt8 ⊕ ByteArray)) : List UInt8 := l.flatMap tokB
theorem tokBs_append (a b : List (UInt8 ⊕ ByteArray)) : tokBs (a ++ b) = tokBs a ++ tokBs b := by simp [tokBs]
theorem tokBs_bytes (l : List UInt8) : tokBs (l.map .inl) = l := by
  induction l with
  | nil => rfl
  | cons b r ih => rw [List.map_cons, show tokBs (Sum.inl b :: r.map .inl) = b :: tokBs (r.map .inl) from rfl, ih]
theorem tokBs_tokS (s : ByteArray) : tokBs (tokS s) = s.data.toList := by
  unfold tokS
  split
  · simp [tokBs, tokB]
  · exact tokBs_bytes _
theorem tokBs_toks (ss : List ByteArray) : tokBs (toks ss) = cat ss := by
  induction ss with
  | nil => rfl
  | cons s r ih => rw [show toks (s :: r) = tokS s ++ toks r from by simp [toks], tokBs_append, ih, tokBs_tokS]; rfl

/-- The text of a part, of the parts. -/
def ptx : LPart → List UInt8
  | .inl s => s.data.toList
  | .inr (_, bs, _) => bs
def text (ps : List LPart) : List UInt8 := ps.flatMap ptx
theorem text_append (a b : List LPart) : text (a ++ b) = text a ++ text b := by simp [text]
theorem text_one (p : LPart) : text [p] = ptx p := by simp [text]
theorem text_cons (p : LPart) (r : List LPart) : text (p :: r) = ptx p ++ text r := by simp [text]
theorem text_toks (ps : List LPart) : text ps = tokBs (ptoks ps) := by
  induction ps with
  | nil => rfl
  | cons p r ih =>
    rw [text_cons, show ptoks (p :: r) = ptok p ++ ptoks r from by simp [ptoks], tokBs_append, ← ih]
    congr 1
    cases p with
    | inl s => simp [ptx, ptok, tokBs, tokB]
    | inr x => obtain ⟨g, bs, cap⟩ := x; exact (tokBs_bytes bs).symm

/-- Every part holds something. -/
def AllNE (ps : List LPart) : Prop := ∀ p ∈ ps, 0 < (ptx p).length
theorem AllNE.le {ps : List LPart} (h : AllNE ps) : ps.length ≤ (text ps).length := by
  induction ps with
  | nil => exact Nat.zero_le _
  | cons p r ih =>
    rw [text_cons, List.length_append, List.length_cons]
    have := ih fun q hq => h q (List.mem_cons_of_mem _ hq)
    have := h p (List.mem_cons_self ..)
    omega

/-- Part q is part p, gone on. -/
def PExt : LPart → LPart → Prop
  | .inl s, q => q = .inl s
  | .inr (g, bs, cap), q => ∃ t, q = .inr (g, bs ++ t, cap)
theorem PExt.refl (p : LPart) : PExt p p := by
  cases p with
  | inl s => rfl
  | inr x => obtain ⟨g, bs, cap⟩ := x; exact ⟨[], by simp⟩
theorem PExt.trans {p q r : LPart} (h : PExt p q) (k : PExt q r) : PExt p r := by
  cases p with
  | inl s => cases h; exact k
  | inr x =>
    obtain ⟨g, bs, cap⟩ := x
    obtain ⟨t, rfl⟩ := h
    obtain ⟨t', rfl⟩ := k
    exact ⟨t ++ t', by simp⟩

/-- The parts ps' are the parts ps, gone on: every part but the last is as it was; the last goes on. -/
def Ext (ps ps' : List LPart) : Prop :=
  ps.length ≤ ps'.length ∧ ∀ i (h : i < ps.length) (h' : i < ps'.length), PExt ps[i] ps'[i] ∧ (i + 1 < ps.length → ps'[i] = ps[i])

theorem Ext.refl (ps : List LPart) : Ext ps ps := ⟨Nat.le_refl _, fun i h h' => ⟨PExt.refl _, fun _ => rfl⟩⟩
theorem Ext.trans {a b c : List LPart} (h : Ext a b) (k : Ext b c) : Ext a c :=
  ⟨Nat.le_trans h.1 k.1, fun i hi hi' =>
    have hb : i < b.length := Nat.lt_of_lt_of_le hi h.1
    ⟨(h.2 i hi hb).1.trans (k.2 i hb hi').1, fun hl => ((k.2 i hb hi').2 (Nat.lt_of_lt_of_le hl h.1)).trans ((h.2 i hi hb).2 hl)⟩⟩
theorem Ext.snoc (ps : List LPart) (p : LPart) : Ext ps (ps ++ [p]) := by
  refine ⟨by simp, fun i h h' => ?_⟩
  have e : (ps ++ [p])[i] = ps[i] := List.getElem_append_left h
  rw [e]
  exact ⟨PExt.refl _, fun _ => rfl⟩
theorem Ext.last (init : List LPart) (g : Nat) (bs t : List UInt8) (cap : Nat) : Ext (init ++ [.inr (g, bs, cap)]) (init ++ [.inr (g, bs ++ t, cap)]) := by
  refine ⟨by simp, fun i h h' => ?_⟩
  by_cases hi : i < init.length
  · have e1 : (init ++ [Sum.inr (g, bs, cap)])[i] = init[i] := List.getElem_append_left hi
    have e2 : (init ++ [Sum.inr (g, bs ++ t, cap)])[i] = init[i] := List.getElem_append_left hi
    rw [e1, e2]
    exact ⟨PExt.refl _, fun _ => rfl⟩
  · simp only [List.length_append, List.length_singleton] at h
    have hie : i = init.length := by omega
    subst hie
    simp only [List.length_append, List.length_singleton, List.getElem_concat_length]
    exact ⟨⟨t, rfl⟩, fun hl => by omega⟩
end Go.Proofs.Qxb6601673a
