/-
  SEAT b6601673a: FnOpenBlockGivesRoomAtTheEnd: zzBlockCap, ZZOpenBlock, one byte appended in place, the count of blocks.
-/
import Derived.Test.Qxb6601673aString
namespace Go.Proofs.Qxb6601673a
open Go.ChangeShapes Go.WideShapes Go.ChangeAt Go.RowKit
set_option linter.unusedVariables false

theorem bsz_big (k : Nat) (h : 7 ≤ k) : bsz (k + 1) = 65536 := by
  have : 2 ^ 7 ≤ 2 ^ k := Nat.pow_le_pow_right (by decide) h
  simp only [bsz]; omega

set_option maxRecDepth 100000 in
theorem blockCap_any (k : Nat) (hk : k ≤ 1048576) (w : World) :
    Calls Try.prog 21 #[.int .i64 k] w fun e w' => e = .returned (.int .i64 (bsz (k + 1))) ∧ w' = w := by
  by_cases h7 : 7 ≤ k
  · rw [bsz_big k h7]
    go_enter Try.func21, Try.ntmps21
    go_wp2
    go_ret
    exact ⟨rfl, rfl⟩
  · have h : k = 0 ∨ k = 1 ∨ k = 2 ∨ k = 3 ∨ k = 4 ∨ k = 5 ∨ k = 6 := by omega
    clear h7 hk
    rcases h with rfl | rfl | rfl | rfl | rfl | rfl | rfl
    all_goals
      go_enter Try.func21, Try.ntmps21
      go_wp2
      go_ret
      exact ⟨rfl, rfl⟩

theorem openZ_any (w : World) (base bb N : Nat) (pv : Value) (ps : List LPart) (h : BufAt base bb pv ps N w) (hlen : ps.length ≤ 1048576) :
    Calls Try.prog 23 #[.pointer (some ⟨bb, 0, none⟩)] w fun e w' => ∃ init g bs cap gr pc, e = .returned (.pointer (some ⟨gr, init.length * 2 + 1, none⟩)) ∧
      BufAt base bb (.slice (some ⟨gr, 0, none⟩) (init.length + 1) pc) (init ++ [.inr (g, bs, cap)]) N w' ∧ OpenRel ps init g bs cap ∧ Below base w w' ∧ OthT w w' := by
  have HO : Hid (Calls Try.prog 29 #[.pointer (some ⟨bb, 0, none⟩)] w fun e w' => ∃ init g bs cap gr pc, e = .returned (.pointer (some ⟨gr, init.length * 2 + 1, none⟩)) ∧
      BufAt base bb (.slice (some ⟨gr, 0, none⟩) (init.length + 1) pc) (init ++ [.inr (g, bs, cap)]) N w' ∧ OpenRel ps init g bs cap ∧ Below base w w' ∧ OthT w w') := open_any w base bb N pv ps h hlen
  clear h
  go_enter Try.func23, Try.ntmps23
  go_wp2_with fail
  refine HO.out.mono ?_
  rintro e w' ⟨init, g, bs, cap, gr, pc, rfl, h1, h2, h3, h4⟩
  go_wp2_with fail
  go_ret
  exact ⟨init, g, bs, cap, gr, pc, rfl, h1, h2, h3, h4⟩

/-- 'append(b, x)', b an owned row of bytes with room. -/
theorem run_put_cells (w : World) (base g n cap : Nat) (xs : List Value) (hown : w.ownsRow base 5 1 (.slice (some ⟨g, 0, none⟩) n cap) n xs) (a : Addr) (m c : Nat) (news : List Value) (hl : news.length = m)
    (hnews : ∀ j u, news[j]? = some u → w.cell? (a.add j) = some u) (h1 : ∀ u ∈ news, u.oneCell' = true) (ty : TypeId) (hroom : n + m ≤ cap) :
    ∃ w', (Builtin.append_ #[33, 33] ty #[.slice (some ⟨g, 0, none⟩) n cap, .slice (some a) m c]).run Try.prog w = .ok (.slice (some ⟨g, 0, none⟩) (n + m) cap) w' ∧
      w'.ownsRow base 5 1 (.slice (some ⟨g, 0, none⟩) (n + m) cap) (n + m) (xs ++ news) ∧ SameBut g w w' := by
  obtain ⟨i0, hi, hz0, hz1, hz2⟩ := info_parts Try.info5
  rcases hown.2 with ⟨h', _⟩ | ⟨g', cap', cur, h', hb, hg, hnc, hcm, hcs, htake⟩
  · simp at h'
  · simp only [Value.slice.injEq, Option.some.injEq, Addr.mk.injEq, and_true, true_and] at h'
    obtain ⟨rfl, rfl⟩ := h'
    have hxl : xs.length = n := by simpa using hown.1
    have hcs' : cur.size = cap := by simpa using hcs
    have hr := run_append_room (P := Try.prog) w 33 ty 5 i0 Try.underlying33 hi g n cap cur hg a m c news (by rw [hz1]; omega) hnews h1 hroom (by rw [hz1]; omega)
    rw [hz1, Nat.mul_one] at hr
    refine ⟨_, hr, ⟨by rw [List.length_append, hxl]; omega, .inr ⟨g, cap, _, rfl, hb, setRow_heap w g cur _ 5 _ hg, hroom, hcm, ?_, ?_⟩⟩, ⟨rfl, rfl, rfl, by simp, fun k hk => setRow_other w g k _ hk⟩⟩
    · simp only [List.size_toArray, List.length_append, List.length_take, List.length_drop, Array.length_toList]
      omega
    · have ht' : cur.toList.take n = xs := by simpa using htake
      have hl2 : (xs ++ news).length = (n + m) * 1 := by rw [List.length_append, hxl]; omega
      rw [ht', ← hl2]
      exact List.take_left

/-- .. as a law for the walk. -/
theorem wpList_put_cells {ops : Array Oper} {rest : List Oper} {o : Oper} {a : Act} {w : World} {Q : Exit → Act → World → Prop} (hgd : o.guard = none) (sl x : Operand)
    (ho : o.op = .call { callee := .builtin .append, args := #[sl, x], argTypes := #[33, 33] })
    (base g n cap : Nat) (xs : List Value) (hs : a.eval sl = .slice (some ⟨g, 0, none⟩) n cap) (hown : w.ownsRow base 5 1 (.slice (some ⟨g, 0, none⟩) n cap) n xs)
    (ad : Addr) (m c : Nat) (news : List Value) (hx : a.eval x = .slice (some ad) m c) (hl : news.length = m) (hnews : ∀ j u, news[j]? = some u → w.cell? (ad.add j) = some u) (h1 : ∀ u ∈ news, u.oneCell' = true) (hroom : n + m ≤ cap)
    (h : ∀ w', w'.ownsRow base 5 1 (.slice (some ⟨g, 0, none⟩) (n + m) cap) (n + m) (xs ++ news) → SameBut g w w' → wpList Try.prog ops Q rest (a.put o.dst (.slice (some ⟨g, 0, none⟩) (n + m) cap)) w') : wpList Try.prog ops Q (o :: rest) a w := by
  refine wpList_plain hgd fun K hK => ?_
  obtain ⟨w', hr, h2, h3⟩ := run_put_cells w base g n cap xs hown ad m c news hl hnews h1 o.type hroom
  unfold Oper.wp execOp
  simp only [ho, resolve, invoke, builtin, Sem.run_bind, Sem.run_pure, Result.andThen_ok, List.map_toArray, List.map_cons, List.map_nil, hs, hx, hr]
  exact hK _ _ (h w' h2 h3)

theorem nb_append (a b : List LPart) : nb (a ++ b) = nb a + nb b := by unfold nb; rw [gsOf_append, List.length_append]
theorem nb_take_inl (ps : List LPart) (k : Nat) (h : k < ps.length) (s : ByteArray) (hs : ps[k] = .inl s) : nb (ps.take (k + 1)) = nb (ps.take k) := by
  rw [List.take_succ_eq_append_getElem h, nb_append, hs]; rfl
theorem nb_take_inr (ps : List LPart) (k : Nat) (h : k < ps.length) (x : Nat × List UInt8 × Nat) (hs : ps[k] = .inr x) : nb (ps.take (k + 1)) = nb (ps.take k) + 1 := by
  rw [List.take_succ_eq_append_getElem h, nb_append, hs]; rfl
theorem nb_le (ps : List LPart) : nb ps ≤ ps.length := by
  induction ps with
  | nil => exact Nat.le_refl _
  | cons p r ih =>
    have : nb (p :: r) = nb [p] + nb r := nb_append [p] r
    rw [this, List.length_cons]
    cases p with
    | inl s => have : nb [(.inl s : LPart)] = 0 := rfl; omega
    | inr x => have : nb [(.inr x : LPart)] = 1 := rfl; omega
end Go.Proofs.Qxb6601673a
