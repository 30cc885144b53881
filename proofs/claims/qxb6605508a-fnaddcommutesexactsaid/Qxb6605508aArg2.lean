/-
  A TallyIn that came in by value, opened with its bounds.
-/
import Derived.Test.Qxb6605508aArg
namespace Go.Proofs.Qxb6605508a
open Go.ChangeShapes Go.WideShapes Go.ChangeAt Go.RowKit

/-- A uint64's range. -/
def U64 (x : Int) : Prop := 0 ≤ x ∧ x ≤ 18446744073709551615

theorem one_u64 {H : Type} {enc : TypeId × Value → H} {w : World} {base : Nat} {spare : Nat → Bool} {held : Bool} {n : Nat} {z : Int} {x : DataW H × List MemPlace}
    (h : DataW.trod enc Try.prog w base spare held n 22 [.int .u64 z] = some x) : U64 z := by
  obtain ⟨z', hz, _, hw⟩ := DataW.trod_int Try.underlying22 h
  have e : z = z' := by simpa using hz
  subst e
  simp [Lit.wf, IntKind.min, IntKind.max, IntKind.signed, IntKind.bits] at hw
  exact ⟨by omega, by omega⟩

theorem open_tin2 {H : Type} {enc : TypeId × Value → H} {w : World} {base b0 : Nat} {spare : Nat → Bool} {held : Bool} {r : Reach} {v : Value} {d : DataW H} {p : List MemPlace}
    (hv : Value.okWide Try.prog w r b0 24 v) (hd : DataW.Trod enc Try.prog w base spare held 24 v d p) :
    ∃ l h s m q t e : Int, v = .agg #[.int .u64 l, .int .u64 h, .int .u64 s, .int .i64 m, .int .u64 q, .int .u64 t, .int .u64 e] ∧ U64 l ∧ U64 h ∧ U64 s ∧ U64 q ∧ U64 t ∧ U64 e := by
  obtain ⟨l, h, s, m, q, t, e, rfl⟩ := open_tin hv hd
  obtain ⟨fuel, hf⟩ := hd
  obtain ⟨xs, n, _, _, _, hlen, hg⟩ := DataW.trod_struct Try.underlying24 hf
  have hlen7 : xs.length = 7 := hlen
  have g0 := hg 0 _ rfl
  have g1 := hg 1 _ rfl
  have g2 := hg 2 _ rfl
  have g4 := hg 4 _ rfl
  have g5 := hg 5 _ rfl
  have g6 := hg 6 _ rfl
  simp only [Value.cells] at g0 g1 g2 g4 g5 g6
  rw [List.getElem?_eq_getElem (by omega)] at g0 g1 g2 g4 g5 g6
  exact ⟨l, h, s, m, q, t, e, rfl, one_u64 g0, one_u64 g1, one_u64 g2, one_u64 g4, one_u64 g5, one_u64 g6⟩

end Go.Proofs.Qxb6605508a
