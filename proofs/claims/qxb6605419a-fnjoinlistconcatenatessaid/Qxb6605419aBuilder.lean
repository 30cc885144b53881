/-
  strings.Builder at this program: the shelf's contracts of WriteByte and String, laid by hand in plain words: the table of numbers, the facts that the bodies and types are those of the contracts, the contracts applied. (The shelf's own command does not lay WriteByte here: the type of the empty interface stands in the contract's list of types, but no operation of the bodies names it.)
-/
import Derived.Shelf.Strings.Builder1
import Derived.Test.Qxb6605419aRows
namespace Go.Proofs.Qxb6605419a
open Go.Shelf Go.RowKit

def renW : Go.Shelf.Ren := ⟨fun | 167 => 20 | 240 => 22 | 276 => 23 | n => n, fun | 0 => 0 | 4 => 4 | 5 => 5 | 9 => 9 | 20 => 20 | 37 => 30 | 70 => 35 | 72 => 37 | 75 => 39 | 80 => 41 | 164 => 43 | n => n, fun | n => n⟩

theorem laysW : Go.Proofs.Lays.n167 Try.prog renW := {
  mixed := by kernel_rfl
  f167 := Try.func20.trans (congrArg some (by kernel_rfl))
  f240 := Try.func22.trans (congrArg some (by kernel_rfl))
  f276 := Try.func23.trans (congrArg some (by kernel_rfl))
  t0 := Try.underlying0
  a0 := Try.isAgg0
  z0 := Try.sizeOf0
  v0 := Try.zeroValue0
  t4 := Try.underlying4
  a4 := Try.isAgg4
  z4 := Try.sizeOf4
  v4 := Try.zeroValue4
  t5 := Try.underlying5
  a5 := Try.isAgg5
  z5 := Try.sizeOf5
  v5 := Try.zeroValue5
  t9 := Try.underlying9
  a9 := Try.isAgg9
  z9 := Try.sizeOf9
  v9 := Try.zeroValue9
  t20 := Try.underlying20
  a20 := Try.isAgg20
  z20 := Try.sizeOf20
  v20 := Try.zeroValue20
  t37 := Try.underlying30
  a37 := Try.isAgg30
  z37 := Try.sizeOf30
  v37 := Try.zeroValue30
  t70 := Try.underlying35
  a70 := Try.isAgg35
  z70 := Try.sizeOf35
  v70 := Try.zeroValue35
  t72 := Try.underlying37
  a72 := Try.isAgg37
  z72 := Try.sizeOf37
  v72 := Try.zeroValue37
  t75 := Try.underlying39
  a75 := Try.isAgg39
  z75 := Try.sizeOf39
  v75 := Try.zeroValue39
  t164 := Try.underlying43
  a164 := Try.isAgg43
  z164 := Try.sizeOf43
  v164 := Try.zeroValue43 }

theorem extraW : Builder.Extra Try.prog renW := {
  sizeBuilder := by kernel_rfl
  liesBuilder := by kernel_rfl
  t5 := Try.underlying5
  a5 := Try.isAgg5
  z5 := Try.sizeOf5
  v5 := Try.zeroValue5
  infoByte := by kernel_rfl
  cellsByte := by kernel_rfl
  sizeByte := by kernel_rfl
  neB5 := by decide }

def renS : Go.Shelf.Ren := ⟨fun | 169 => 21 | n => n, fun | 70 => 35 | 9 => 9 | 0 => 0 | 72 => 37 | 37 => 30 | 127 => 42 | 3 => 3 | 5 => 5 | n => n, fun | n => n⟩

theorem laysS : Go.Proofs.Lays.n169 Try.prog renS := {
  mixed := by kernel_rfl
  f169 := Try.func21.trans (congrArg some (by kernel_rfl))
  t0 := Try.underlying0
  a0 := Try.isAgg0
  z0 := Try.sizeOf0
  v0 := Try.zeroValue0
  t3 := Try.underlying3
  a3 := Try.isAgg3
  z3 := Try.sizeOf3
  v3 := Try.zeroValue3
  t9 := Try.underlying9
  a9 := Try.isAgg9
  z9 := Try.sizeOf9
  v9 := Try.zeroValue9
  t37 := Try.underlying30
  a37 := Try.isAgg30
  z37 := Try.sizeOf30
  v37 := Try.zeroValue30
  t70 := Try.underlying35
  a70 := Try.isAgg35
  z70 := Try.sizeOf35
  v70 := Try.zeroValue35
  t72 := Try.underlying37
  a72 := Try.isAgg37
  z72 := Try.sizeOf37
  v72 := Try.zeroValue37
  t127 := Try.underlying42
  a127 := Try.isAgg42
  z127 := Try.sizeOf42
  v127 := Try.zeroValue42 }

theorem extraS : Builder.Extra Try.prog renS := {
  sizeBuilder := by kernel_rfl
  liesBuilder := by kernel_rfl
  t5 := Try.underlying5
  a5 := Try.isAgg5
  z5 := Try.sizeOf5
  v5 := Try.zeroValue5
  infoByte := by kernel_rfl
  cellsByte := by kernel_rfl
  sizeByte := by kernel_rfl
  neB5 := by decide }

/-- WriteByte: one byte more. -/
theorem writeByte_any (B b : Nat) (bs : List Value) (c : Int) (w : World) (h : Lib.IsBuilder 37 5 B b bs w) (hlen : bs.length + 1 ≤ 140737488355328) (hBw : B ≤ w.heap.size) :
    Calls Try.prog 20 #[.pointer (some ⟨b, 0, none⟩), .int .u8 c] w fun e w' => e = .returned .nilIface ∧ Lib.IsBuilder 37 5 B b (bs ++ [.int .u8 c]) w' ∧ Below B w w' :=
  (Any.Builder_WriteByte laysW extraW B b bs c w h hlen hBw).mono fun _ _ h => ⟨h.1, Or.inr h.2.1, h.2.2⟩

/-- String: the bytes that were written. -/
theorem builderString_any (B b : Nat) (l : List UInt8) (w : World) (h : Lib.IsBuilder 37 5 B b (Lib.byteCells l) w) (hBw : B ≤ w.heap.size) :
    Calls Try.prog 21 #[.pointer (some ⟨b, 0, none⟩)] w fun e w' => e = .returned (.string ⟨l.toArray⟩) ∧ Below B w w' :=
  Any.Builder_String_any laysS extraS B b l w h hBw

end Go.Proofs.Qxb6605419a
