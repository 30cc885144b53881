/-
  A slice of strings that came in, as the reading gives it.
-/
import Derived.Test.Qxb6605419aStrs
import Derived.SliceStrings
namespace Go.Proofs.Qxb6605419a
open Go.RowKit

theorem rowS_cells {w : World} {x : Addr} {len cap : Nat} {ss : List ByteArray} (hl : len ≤ cap) (hz : ss.length = cap) (hc : ∀ i, i < ss.length → w.cell? (x.add i) = some (.string (ss.getD i ByteArray.empty))) :
    RowS w (some x) len (ss.take len) := by
  refine ⟨by simp; omega, ?_⟩
  by_cases h0 : len = 0
  · exact .inl h0
  · obtain ⟨b, off, spot⟩ := x
    have hspot : spot = none := by simpa [Addr.add] using World.cell?_spot (hc 0 (by omega))
    subst hspot
    have hc' : ∀ i, i < ss.length → w.cell? ⟨b, off + i, none⟩ = some (.string (ss.getD i ByteArray.empty)) := fun i hi => by rw [← WideShapes.add_plain]; exact hc i hi
    refine .inr ⟨b, off, rfl, World.block_lt_of_cell? _ _ (hc' 0 (by omega)), fun i hi => ?_⟩
    rw [hc' i (by omega)]
    simp [List.getD, hi]

theorem fits_of {ss : List ByteArray} (h : ∀ s ∈ ss, s.size ≤ maxLen) : Fits ss := by
  intro k
  rcases Nat.lt_or_ge k ss.length with hk | hk
  · have : ss.getD k ByteArray.empty ∈ ss := by simp [List.getD, List.getElem?_eq_getElem hk]
    exact h _ this
  · have : ss.getD k ByteArray.empty = ByteArray.empty := by simp [List.getD, List.getElem?_eq_none hk]
    rw [this]
    exact Nat.zero_le _

end Go.Proofs.Qxb6605419a
