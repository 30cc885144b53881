/-
  A TallyIn that came in by value, opened: seven integers.
-/
import Derived.Test.Qxb6605508aRows
import Derived.WalkKit
import Derived.ProofKit
namespace Go.Proofs.Qxb6605508a
open Go.ChangeShapes Go.WideShapes Go.ChangeAt Go.RowKit

theorem cells24 : Try.prog.cellsOf 24 = 7 := by kernel_rfl

theorem array7 {α : Type} {cs : Array α} (h : cs.size = 7) : ∃ c0 c1 c2 c3 c4 c5 c6, cs = #[c0, c1, c2, c3, c4, c5, c6] := by
  obtain ⟨l⟩ := cs
  match l, h with
  | [c0, c1, c2, c3, c4, c5, c6], _ => exact ⟨c0, c1, c2, c3, c4, c5, c6, rfl⟩

theorem one_int {H : Type} {enc : TypeId × Value → H} {w : World} {base : Nat} {spare : Nat → Bool} {held : Bool} {n : Nat} {ty : TypeId} {k : IntKind} (hu : Try.prog.underlying ty = some (.int k)) {c : Value} {x : DataW H × List MemPlace}
    (h : DataW.trod enc Try.prog w base spare held n ty [c] = some x) : ∃ z, c = .int k z := by
  obtain ⟨z, hz, _, _⟩ := DataW.trod_int hu h
  exact ⟨z, by simpa using hz⟩

theorem open_tin {H : Type} {enc : TypeId × Value → H} {w : World} {base b0 : Nat} {spare : Nat → Bool} {held : Bool} {r : Reach} {v : Value} {d : DataW H} {p : List MemPlace}
    (hv : Value.okWide Try.prog w r b0 24 v) (hd : DataW.Trod enc Try.prog w base spare held 24 v d p) :
    ∃ l h s m q t e : Int, v = .agg #[.int .u64 l, .int .u64 h, .int .u64 s, .int .i64 m, .int .u64 q, .int .u64 t, .int .u64 e] := by
  obtain ⟨cs, rfl, hsz⟩ := okWide_struct Try.underlying24 hv
  obtain ⟨c0, c1, c2, c3, c4, c5, c6, rfl⟩ := array7 (hsz.trans cells24)
  obtain ⟨fuel, hf⟩ := hd
  obtain ⟨xs, n, _, _, _, hlen, hg⟩ := DataW.trod_struct Try.underlying24 hf
  have hlen7 : xs.length = 7 := hlen
  have g0 := hg 0 _ rfl
  have g1 := hg 1 _ rfl
  have g2 := hg 2 _ rfl
  have g3 := hg 3 _ rfl
  have g4 := hg 4 _ rfl
  have g5 := hg 5 _ rfl
  have g6 := hg 6 _ rfl
  simp only [Value.cells] at g0 g1 g2 g3 g4 g5 g6
  rw [List.getElem?_eq_getElem (by omega)] at g0 g1 g2 g3 g4 g5 g6
  obtain ⟨l, rfl⟩ := one_int Try.underlying22 g0
  obtain ⟨h, rfl⟩ := one_int Try.underlying22 g1
  obtain ⟨s, rfl⟩ := one_int Try.underlying22 g2
  obtain ⟨m, rfl⟩ := one_int Try.underlying3 g3
  obtain ⟨q, rfl⟩ := one_int Try.underlying22 g4
  obtain ⟨t, rfl⟩ := one_int Try.underlying22 g5
  obtain ⟨e, rfl⟩ := one_int Try.underlying22 g6
  exact ⟨l, h, s, m, q, t, e, rfl⟩

end Go.Proofs.Qxb6605508a
