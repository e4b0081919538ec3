/-
  SEAT b6601673a: strings.Builder's copyCheck and String: the shelf's contracts laid at this program (after lay-shelf.mjs and lay-plain.mjs; copyCheck's laying by hand).
-/
import Derived.Test.Qxb6601673aRows
import Derived.Shelf.Strings.Builder1
namespace Go.Proofs.Qxb6601673a
open Go.Shelf
def Try.ren240 : Go.Shelf.Ren := ⟨fun | 240 => 30 | 276 => 32 | n => n, fun | 70 => 47 | 9 => 9 | 0 => 0 | 4 => 4 | 20 => 20 | 72 => 49 | 37 => 33 | 164 => 58 | 5 => 5 | n => n, fun | n => n⟩
theorem Try.lays240 : Go.Proofs.Lays.n240 Try.prog Try.ren240 := {
  mixed := by kernel_rfl
  f240 := Try.func30.trans (congrArg some (by kernel_rfl))
  f276 := Try.func32.trans (congrArg some (by kernel_rfl))
  t0 := Try.underlying0
  a0 := Try.isAgg0
  z0 := Try.sizeOf0
  v0 := Try.zeroValue0
  t4 := Try.underlying4
  a4 := Try.isAgg4
  z4 := Try.sizeOf4
  v4 := Try.zeroValue4
  t9 := Try.underlying9
  a9 := Try.isAgg9
  z9 := Try.sizeOf9
  v9 := Try.zeroValue9
  t20 := Try.underlying20
  a20 := Try.isAgg20
  z20 := Try.sizeOf20
  v20 := Try.zeroValue20
  t70 := Try.underlying47
  a70 := Try.isAgg47
  z70 := Try.sizeOf47
  v70 := Try.zeroValue47
  t72 := Try.underlying49
  a72 := Try.isAgg49
  z72 := Try.sizeOf49
  v72 := Try.zeroValue49
  t164 := Try.underlying58
  a164 := Try.isAgg58
  z164 := Try.sizeOf58
  v164 := Try.zeroValue58 }
theorem Try.x240 : Builder.X72 Try.prog Try.ren240 := {
  sizeBuilder := by kernel_rfl
  liesBuilder := by kernel_rfl }
def Try.ren169 : Go.Shelf.Ren := ⟨fun | 169 => 28 | n => n, fun | 70 => 47 | 9 => 9 | 0 => 0 | 72 => 49 | 37 => 33 | 127 => 57 | 3 => 3 | 5 => 5 | n => n, fun | n => n⟩
theorem Try.lays169 : Go.Proofs.Lays.n169 Try.prog Try.ren169 := {
  mixed := by kernel_rfl
  f169 := Try.func28.trans (congrArg some (by kernel_rfl))
  t0 := Try.underlying0
  a0 := Try.isAgg0
  z0 := Try.sizeOf0
  v0 := Try.zeroValue0
  t3 := Try.underlying3
  a3 := Try.isAgg3
  z3 := Try.sizeOf3
  v3 := Try.zeroValue3
  t9 := Try.underlying9
  a9 := Try.isAgg9
  z9 := Try.sizeOf9
  v9 := Try.zeroValue9
  t37 := Try.underlying33
  a37 := Try.isAgg33
  z37 := Try.sizeOf33
  v37 := Try.zeroValue33
  t70 := Try.underlying47
  a70 := Try.isAgg47
  z70 := Try.sizeOf47
  v70 := Try.zeroValue47
  t72 := Try.underlying49
  a72 := Try.isAgg49
  z72 := Try.sizeOf49
  v72 := Try.zeroValue49
  t127 := Try.underlying57
  a127 := Try.isAgg57
  z127 := Try.sizeOf57
  v127 := Try.zeroValue57 }
theorem Try.x169 : Builder.Extra Try.prog Try.ren169 := {
  sizeBuilder := by kernel_rfl
  liesBuilder := by kernel_rfl
  t5 := Try.underlying5
  a5 := Try.isAgg5
  z5 := Try.sizeOf5
  v5 := Try.zeroValue5
  infoByte := by kernel_rfl
  cellsByte := by kernel_rfl
  sizeByte := by kernel_rfl
  neB5 := by decide }

theorem copyCheck_used (b : Nat) (w : World) (h0 : w.cell? ⟨b, 0, none⟩ = some (.pointer (some ⟨b, 0, none⟩))) :
    Calls Try.prog 30 #[.pointer (some ⟨b, 0, none⟩)] w fun e w' => e = .returned (.tuple #[]) ∧ w' = w :=
  Any.Builder_copyCheck_used Try.lays240 Try.x240 b w h0

theorem copyCheck_fresh (b : Nat) (w : World) (h0 : w.cell? ⟨b, 0, none⟩ = some (.pointer none)) (hsh : w.shape? b = some (49, 2)) (hfz : w.frozen? ⟨b, 0, none⟩ = false) :
    Calls Try.prog 30 #[.pointer (some ⟨b, 0, none⟩)] w fun e w' => e = .returned (.tuple #[]) ∧ w' = w.setCell ⟨b, 0, none⟩ (.pointer (some ⟨b, 0, none⟩)) :=
  Any.Builder_copyCheck_fresh Try.lays240 Try.x240 b w h0 hsh hfz

open Go.RowKit in
/-- (*strings.Builder).String, whatever the builder holds. -/
theorem bString (B b : Nat) (l : List UInt8) (w : World) (h : Lib.IsBuilder 49 5 B b (Lib.byteCells l) w) (hBw : B ≤ w.heap.size) :
    Calls Try.prog 28 #[.pointer (some ⟨b, 0, none⟩)] w fun e w' => e = .returned (.string ⟨l.toArray⟩) ∧ Below B w w' :=
  Any.Builder_String_any Try.lays169 Try.x169 B b l w h hBw
end Go.Proofs.Qxb6601673a
