/-
  Plain mathematics for the AlpnIDs laws: where the pieces of a framed value begin, and the pieces. No Go in sight.
-/
import Derived.Laws.BytesArg
namespace Go.Proofs.Qxb6605419a

/-- Where piece k begins: each piece is a length byte and that many bytes. -/
def bnd (zs : List Int) : Nat → Nat
  | 0 => 0
  | k + 1 => bnd zs k + 1 + (zs.getD (bnd zs k) 0).toNat

/-- The bytes of piece k. -/
def ident (zs : List Int) (k : Nat) : ByteArray := strOfNums ((zs.drop (bnd zs k + 1)).take (zs.getD (bnd zs k) 0).toNat)

/-- The first m pieces. -/
def idents (zs : List Int) (m : Nat) : List ByteArray := (List.range m).map (ident zs)

theorem bnd_succ (zs : List Int) (k : Nat) : bnd zs (k + 1) = bnd zs k + 1 + (zs.getD (bnd zs k) 0).toNat := rfl

theorem bnd_step (zs : List Int) (k : Nat) : bnd zs k < bnd zs (k + 1) := by rw [bnd_succ]; omega

theorem bnd_mono (zs : List Int) {i j : Nat} (h : i ≤ j) : bnd zs i ≤ bnd zs j := by
  induction j with
  | zero => rw [Nat.le_zero.1 h]; exact Nat.le_refl _
  | succ j ih =>
    rcases Nat.lt_or_ge j i with h1 | h1
    · have : i = j + 1 := by omega
      rw [this]; exact Nat.le_refl _
    · have := ih h1
      have := bnd_step zs j
      omega

theorem bnd_lt (zs : List Int) {i j : Nat} (h : i < j) : bnd zs i < bnd zs j :=
  Nat.lt_of_lt_of_le (bnd_step zs i) (bnd_mono zs h)

theorem bnd_ge (zs : List Int) (k : Nat) : k ≤ bnd zs k := by
  induction k with
  | zero => exact Nat.zero_le _
  | succ k ih => have := bnd_step zs k; omega

theorem bnd_append_left (zs ys : List Int) (m : Nat) (h : bnd zs m ≤ zs.length) : ∀ k, k ≤ m → bnd (zs ++ ys) k = bnd zs k := by
  intro k
  induction k with
  | zero => intro _; rfl
  | succ k ih =>
    intro hk
    have e := ih (by omega)
    have hl : bnd zs k < bnd zs m := bnd_lt zs (by omega)
    rw [bnd_succ, bnd_succ, e]
    have : (zs ++ ys).getD (bnd zs k) 0 = zs.getD (bnd zs k) 0 := by
      simp [List.getD, List.getElem?_append_left (show bnd zs k < zs.length by omega)]
    rw [this]

theorem getD_append_add (zs ys : List Int) (q : Nat) : (zs ++ ys).getD (zs.length + q) 0 = ys.getD q 0 := by
  simp [List.getD, List.getElem?_append_right]

theorem bnd_append_right (zs ys : List Int) (m : Nat) (h : bnd zs m = zs.length) (j : Nat) : bnd (zs ++ ys) (m + j) = zs.length + bnd ys j := by
  induction j with
  | zero => show bnd (zs ++ ys) m = _ + 0; rw [bnd_append_left zs ys m (by omega) m (Nat.le_refl _), h]; rfl
  | succ j ih =>
    show bnd (zs ++ ys) (m + j + 1) = _
    rw [bnd_succ, ih, bnd_succ, getD_append_add]
    omega

theorem ident_append_left (zs ys : List Int) (m : Nat) (h : bnd zs m ≤ zs.length) (k : Nat) (hk : k < m) : ident (zs ++ ys) k = ident zs k := by
  unfold ident
  have e := bnd_append_left zs ys m h k (by omega)
  have h1 : bnd zs (k + 1) ≤ bnd zs m := bnd_mono zs hk
  rw [bnd_succ] at h1
  have hg : (zs ++ ys).getD (bnd zs k) 0 = zs.getD (bnd zs k) 0 := by
    simp [List.getD, List.getElem?_append_left (show bnd zs k < zs.length by omega)]
  rw [e, hg, List.drop_append_of_le_length (by omega), List.take_append_of_le_length (by rw [List.length_drop]; omega)]

theorem ident_append_right (zs ys : List Int) (m : Nat) (h : bnd zs m = zs.length) (j : Nat) : ident (zs ++ ys) (m + j) = ident ys j := by
  unfold ident
  rw [bnd_append_right zs ys m h j, getD_append_add]
  have : (zs ++ ys).drop (zs.length + bnd ys j + 1) = ys.drop (bnd ys j + 1) := by
    rw [Nat.add_assoc, List.drop_append]
    simp
  rw [this]

theorem ident_size (zs : List Int) (k : Nat) (h : bnd zs (k + 1) ≤ zs.length) : (ident zs k).size = (zs.getD (bnd zs k) 0).toNat := by
  rw [bnd_succ] at h
  unfold ident
  rw [strOfNums_size]
  simp only [List.length_take, List.length_drop]
  omega

theorem ident_at (zs : List Int) (k j : Nat) (hz : ∀ z ∈ zs, 0 ≤ z ∧ z < 256) (h : bnd zs (k + 1) ≤ zs.length) (hj : j < (ident zs k).size) :
    ((ident zs k)[j].toNat : Int) = zs.getD (bnd zs k + 1 + j) 0 := by
  have hs := ident_size zs k h
  rw [bnd_succ] at h
  have hlt : bnd zs k + 1 + j < zs.length := by omega
  have e : (ident zs k)[j] = UInt8.ofNat (zs.getD (bnd zs k + 1 + j) 0).toNat := by
    show ((ident zs k).data)[j] = _
    have : (ident zs k).data.toList[j]? = some (UInt8.ofNat (zs.getD (bnd zs k + 1 + j) 0).toNat) := by
      unfold ident
      rw [strOfNums_data]
      rw [List.getElem?_map, List.getElem?_take, if_pos (by omega), List.getElem?_drop]
      simp [List.getD, List.getElem?_eq_getElem hlt]
    have h2 : (ident zs k).data[j]? = some (UInt8.ofNat (zs.getD (bnd zs k + 1 + j) 0).toNat) := by rw [← Array.getElem?_toList]; exact this
    exact (Array.getElem?_eq_some_iff.1 h2).2
  rw [e]
  have hm : zs.getD (bnd zs k + 1 + j) 0 ∈ zs := by
    simp [List.getD, List.getElem?_eq_getElem hlt]
  have := hz _ hm
  rw [UInt8.toNat_ofNat_of_lt' (by show _ < 256; omega)]
  omega

theorem idents_length (zs : List Int) (m : Nat) : (idents zs m).length = m := by simp [idents]

theorem idents_succ (zs : List Int) (m : Nat) : idents zs (m + 1) = idents zs m ++ [ident zs m] := by simp [idents, List.range_succ]

theorem idents_getD (zs : List Int) (m k : Nat) (h : k < m) : (idents zs m).getD k ByteArray.empty = ident zs k := by
  simp [idents, List.getD, List.getElem?_map, List.getElem?_range h]

end Go.Proofs.Qxb6605419a
