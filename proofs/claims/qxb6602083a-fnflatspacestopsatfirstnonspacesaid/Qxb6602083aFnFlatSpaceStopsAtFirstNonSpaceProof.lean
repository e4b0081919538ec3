/-
  SEAT b6602083a: FnFlatSpaceStopsAtFirstNonSpace: the row's step, after the guide's own frame (proof-skeleton.mjs).
-/
import Derived.Test.Qxb6602083aRows
import Derived.Test.Qxb6602083aFnSpace
import Derived.Test.Qxb6602083aFrame
import Derived.WalkKit
import Derived.ProofKit
import Derived.OpenShut
import Derived.ShutString
import Derived.ChangeOld
import Derived.Below
namespace Go.Proofs.Qxb6602083a.fnFlatSpaceStopsAtFirstNonSpace
open Go.ChangeShapes Go.WideShapes Go.ChangeAt Go.RowKit
open Go.ChangeMaps (open_string shut_string)
set_option linter.unusedVariables false

theorem own : ownKnob Try.prog.godebug = none := by kernel_rfl
theorem laidOut : laidOutB Try.prog = true := by kernel_rfl
theorem cells3 : Try.prog.cellsOf 3 = 1 := by kernel_rfl

theorem wrap64_of_wf {n : Int} (h : (Lit.int .i64 n).wf = true) : wrap64 n = n ∧ -9223372036854775808 ≤ n ∧ n ≤ 9223372036854775807 := by
  simp [Lit.wf, IntKind.min, IntKind.max, IntKind.signed, IntKind.bits] at h
  refine ⟨?_, by omega, by omega⟩
  unfold wrap64; omega

set_option maxRecDepth 100000 in
theorem lifted (os : Os) (started : os.Started) (H : Type) (enc : TypeId × Value → H) :
    ReturnsInHanded {} Try.checked os 5 .any (Rows.fnFlatSpaceStopsAtFirstNonSpaceSpec.pre6 enc Try.prog Try.f5 Rows.fnFlatSpaceStopsAtFirstNonSpaceRow.domain false) (Rows.fnFlatSpaceStopsAtFirstNonSpaceSpec.post enc Try.prog Try.f5 false true false false) := by
  refine returnsInHanded_of_change (C := Try.checked) own started (by kernel_rfl) Try.func5
    (ChangeSpec.witness6 (enc := enc) (C := Try.checked) false ⟨#[], #[.slice none 0 0, .int .i64 0, .pointer none], []⟩ 8 (by kernel_rfl) (by kernel_rfl) (by kernel_rfl) (by kernel_rfl)) ?_
  intro W base args ds gs before hval0 hW hcnd _
  have hval : ∀ (j : Nat) t v, Try.f5.params[j]? = some t → args[j]? = some v → Value.okWide Try.prog W .any base t v := hval0
  have hW' := hW
  obtain ⟨p, q, hA0, hV, rfl, hfz, hnd⟩ := hW
  have hA : DataW.TrodAll enc Try.prog W 0 (fun _ => true) true Try.f5.params.toList args.toList ds p := hA0
  rw [Try.params5] at hA hval
  obtain ⟨v0, vs0, d0, ds0, p0, q0, hargs, rfl, rfl, h0, r0⟩ := trodAll_cons hA
  obtain ⟨v1, vs1, d1, ds1, p1, q1, rfl, rfl, rfl, h1, r1⟩ := trodAll_cons r0
  obtain ⟨v2, vs2, d2, ds2, p2, q2, rfl, rfl, rfl, h2, r2⟩ := trodAll_cons r1
  obtain ⟨rfl, rfl, rfl⟩ := trodAll_nil r2
  obtain rfl : args = #[v0, v1, v2] := by cases args; simp_all
  obtain ⟨rfl, rfl⟩ := trodVars_none hV
  obtain ⟨a0, len0, cap0, rfl⟩ := okWide_slice Try.underlying22 (hval 0 22 v0 rfl rfl)
  have k0 := h0
  have lt0 : ∀ x ∈ p0, x.block < W.heap.size := by obtain ⟨m, hm⟩ := k0; exact DataW.trod_lt m _ _ _ hm
  obtain ⟨z0, w0⟩ : ∃ zs, IsB W a0 len0 zs := by
    obtain ⟨fuel, hf⟩ := h0
    rcases open_ints Try.underlying22 Try.underlying5 (by kernel_rfl) hf with ⟨hcs, _⟩ | ⟨x, l, c, zs, hcs, _, hl, hm, hz, _, hcell, hwz⟩
    · simp [Value.cells] at hcs
      obtain ⟨rfl, rfl, rfl⟩ := hcs
      exact ⟨[], isB_open (cap := 0) (zs := []) (.inl ⟨rfl, rfl, rfl, rfl⟩)⟩
    · simp [Value.cells] at hcs
      obtain ⟨rfl, rfl, rfl⟩ := hcs
      exact ⟨_, isB_open (.inr ⟨_, rfl, hl, hm, by simpa using hz, hcell, hwz⟩)⟩
  obtain ⟨i1, rfl, rfl, rfl, wi⟩ := open_int Try.underlying3 (hval 1 3 v1 rfl rfl) h1
  have k2 := h2
  have lt2 : ∀ x ∈ p2, x.block < W.heap.size := by obtain ⟨m, hm⟩ := k2; exact DataW.trod_lt m _ _ _ hm
  obtain ⟨q2, hv2, hp2⟩ : ∃ q2, v2 = .pointer q2 ∧ (q2 = none ∨ ∃ b off L, q2 = some ⟨b, off, none⟩ ∧ b < W.heap.size ∧ W.cell? ⟨b, off, none⟩ = some (.int .i64 L) ∧ wrap64 L = L) := by
    rcases open_ptr_int Try.underlying32 Try.underlying3 cells3 (hval 2 32 v2 rfl rfl) h2 with ⟨rfl, _, _⟩ | ⟨b, off, n, rfl, _, _, hcell, wn⟩
    · exact ⟨none, rfl, .inl rfl⟩
    · exact ⟨_, rfl, .inr ⟨b, off, n, rfl, World.block_lt_of_cell? W _ hcell, hcell, (wrap64_of_wf wn).1⟩⟩
  subst hv2
  clear hA0 hval0
  refine (space_walk a0 len0 cap0 z0 i1 q2 W w0 (wrap64_of_wf wi).2.1 (wrap64_of_wf wi).2.2 hp2).mono fun e W' ⟨he, bel⟩ => ?_
  subst he
  exact ⟨_, rfl, _, _, _, [], _, [], hW', trodAll_mk1 (shut_bool Try.underlying4 _), (trodAll_cons_mk (Below.trod laidOut (by kernel_rfl) (of_decide_eq_true (by kernel_rfl)) k0 bel lt0) (trodAll_cons_mk (shut_int Try.underlying3 wi) (trodAll_cons_mk (Below.trod laidOut (by kernel_rfl) (of_decide_eq_true (by kernel_rfl)) k2 bel lt2) trodAll_mk0))), rfl, bel.frame _, fun h => by cases h⟩

theorem over : Rows.fnFlatSpaceStopsAtFirstNonSpaceRow.holds Try.pinned (OpenSpec.ofChange Rows.fnFlatSpaceStopsAtFirstNonSpaceSpec) :=
  OpenClaim.holds_of_wide 5 Try.f5 rfl rfl rfl rfl rfl rfl rfl ⟨rfl, rfl, rfl, rfl, rfl⟩ rfl rfl rfl rfl rfl (by kernel_rfl) Try.func5 (by kernel_rfl)
    (of_decide_eq_true (by kernel_rfl)) (by unfold Func.isWrapper; first | (rw [if_pos (by decide +kernel)]; kernel_rfl) | (rw [if_neg (by decide +kernel)]; exact ⟨rfl, rfl⟩))
    (fun os started H enc _ => lifted os started H enc)

/-- ████ THE STATEMENT ████ -/
theorem proved : Rows.FnFlatSpaceStopsAtFirstNonSpaceSaid := over
#print axioms proved
end Go.Proofs.Qxb6602083a.fnFlatSpaceStopsAtFirstNonSpace
