/-
  Plain mathematics for the JoinList laws: escaping, joining, cutting. No Go in sight.
-/
import Derived.Laws.BytesArg
namespace Go.Proofs.Qxb6605419a

/-- A byte inside an item: a comma (44) or a backslash (92) follows a backslash. -/
def escB (c : UInt8) : List UInt8 := if c = 44 ∨ c = 92 then [92, c] else [c]
def esc (l : List UInt8) : List UInt8 := l.flatMap escB
/-- Item k's bytes. -/
def itm (ss : List ByteArray) (k : Nat) : List UInt8 := (ss.getD k ByteArray.empty).data.toList
def sepB (k : Nat) : List UInt8 := if k = 0 then [] else [44]
/-- The first k items, joined. -/
def jn (ss : List ByteArray) : Nat → List UInt8
  | 0 => []
  | k + 1 => jn ss k ++ sepB k ++ esc (itm ss k)
/-- The bytes of the first k items. -/
def tot (ss : List ByteArray) : Nat → Nat
  | 0 => 0
  | k + 1 => tot ss k + (itm ss k).length
/-- Commas and backslashes. -/
def spc : List UInt8 → Nat
  | [] => 0
  | c :: l => (if c = 44 ∨ c = 92 then 1 else 0) + spc l

theorem itm_length (ss : List ByteArray) (k : Nat) : (itm ss k).length = (ss.getD k ByteArray.empty).size := by simp [itm]

theorem tot_succ (ss : List ByteArray) (k : Nat) : tot ss (k + 1) = tot ss k + (itm ss k).length := rfl
theorem tot_mono (ss : List ByteArray) {i j : Nat} (h : i ≤ j) : tot ss i ≤ tot ss j := by
  induction j with
  | zero => rw [Nat.le_zero.1 h]; exact Nat.le_refl _
  | succ j ih =>
    rcases Nat.lt_or_ge j i with h1 | h1
    · have : i = j + 1 := by omega
      rw [this]; exact Nat.le_refl _
    · have := ih h1
      rw [tot_succ]
      omega

theorem esc_nil : esc [] = [] := rfl
theorem esc_cons (c : UInt8) (l : List UInt8) : esc (c :: l) = escB c ++ esc l := rfl
theorem esc_append (a b : List UInt8) : esc (a ++ b) = esc a ++ esc b := by simp [esc]
theorem esc_snoc (l : List UInt8) (c : UInt8) : esc (l ++ [c]) = esc l ++ escB c := by rw [esc_append, esc_cons, esc_nil, List.append_nil]

theorem spc_append (a b : List UInt8) : spc (a ++ b) = spc a + spc b := by
  induction a with
  | nil => simp [spc]
  | cons c a ih => simp only [List.cons_append, spc, ih]; omega

theorem spc_le (l : List UInt8) : spc l ≤ l.length := by
  induction l with
  | nil => simp [spc]
  | cons c l ih => simp only [spc, List.length_cons]; split <;> omega

theorem escB_length (c : UInt8) : (escB c).length = 1 + (if c = 44 ∨ c = 92 then 1 else 0) := by
  unfold escB; split <;> rfl

theorem esc_length (l : List UInt8) : (esc l).length = l.length + spc l := by
  induction l with
  | nil => rfl
  | cons c l ih =>
    rw [esc_cons, List.length_append, escB_length, ih]
    simp only [List.length_cons, spc]
    omega

/-- How long the text is. -/
def jlen (ss : List ByteArray) : Nat → Nat
  | 0 => 0
  | k + 1 => jlen ss k + ((itm ss k).length + spc (itm ss k))

theorem jlen_succ (ss : List ByteArray) (k : Nat) : jlen ss (k + 1) = jlen ss k + ((itm ss k).length + spc (itm ss k)) := rfl

theorem sepB_length (k : Nat) : (sepB k).length = if k = 0 then 0 else 1 := by unfold sepB; split <;> rfl

theorem jn_length (ss : List ByteArray) (k : Nat) : (jn ss k).length = jlen ss k + (k - 1) := by
  induction k with
  | zero => rfl
  | succ k ih =>
    show (jn ss k ++ sepB k ++ esc (itm ss k)).length = _
    rw [List.length_append, List.length_append, ih, esc_length, sepB_length, jlen_succ]
    split <;> omega

theorem jlen_le (ss : List ByteArray) (k : Nat) : jlen ss k ≤ 2 * tot ss k := by
  induction k with
  | zero => exact Nat.le_refl _
  | succ k ih =>
    have := spc_le (itm ss k)
    rw [jlen_succ, tot_succ]
    omega

theorem jn_le (ss : List ByteArray) (k : Nat) : (jn ss k).length ≤ 2 * tot ss k + k := by
  have := jlen_le ss k
  rw [jn_length]
  omega

/-! ### Cutting -/
/-- zzDecodeList: what is left of the text, the piece that is being read, the pieces that are through. -/
def dec : List UInt8 → List UInt8 → List (List UInt8) → Option (List (List UInt8))
  | [], cur, out => some (out ++ [cur])
  | [c], cur, out => if c = 92 then none else if c = 44 then some (out ++ [cur] ++ [[]]) else some (out ++ [cur ++ [c]])
  | c :: d :: r, cur, out =>
    if c = 92 then (if d = 44 ∨ d = 92 then dec r (cur ++ [d]) out else none)
    else if c = 44 then dec (d :: r) [] (out ++ [cur])
    else dec (d :: r) (cur ++ [c]) out

theorem dec_nil (cur : List UInt8) (out : List (List UInt8)) : dec [] cur out = some (out ++ [cur]) := by simp [dec]

theorem dec_bs {r : List UInt8} {cur : List UInt8} {out R : List (List UInt8)} (h : dec (92 :: r) cur out = some R) : ∃ d r', r = d :: r' ∧ (d = 44 ∨ d = 92) ∧ dec r' (cur ++ [d]) out = some R := by
  cases r with
  | nil => simp [dec] at h
  | cons d r' =>
    simp only [dec, if_true] at h
    split at h
    · rename_i hd
      exact ⟨d, r', rfl, hd, h⟩
    · cases h

theorem dec_comma (r : List UInt8) (cur : List UInt8) (out : List (List UInt8)) : dec (44 :: r) cur out = dec r [] (out ++ [cur]) := by
  cases r with
  | nil => simp [dec]
  | cons d r' => simp [dec]

theorem dec_other (c : UInt8) (r : List UInt8) (cur : List UInt8) (out : List (List UInt8)) (h1 : ¬ c = 92) (h2 : ¬ c = 44) : dec (c :: r) cur out = dec r (cur ++ [c]) out := by
  cases r with
  | nil => simp [dec, h1, h2]
  | cons d r' => simp [dec, h1, h2]

theorem dec_esc (x : List UInt8) : ∀ (rest cur : List UInt8) (out : List (List UInt8)), dec (esc x ++ rest) cur out = dec rest (cur ++ x) out := by
  induction x with
  | nil => intro rest cur out; simp [esc_nil]
  | cons c x ih =>
    intro rest cur out
    rw [esc_cons]
    by_cases h : c = 44 ∨ c = 92
    · have e : escB c = [92, c] := by simp [escB, h]
      rw [e]
      show dec (92 :: c :: (esc x ++ rest)) cur out = _
      rw [dec]
      simp only [if_true, h]
      rw [ih]
      simp
    · have e : escB c = [c] := by simp [escB, h]
      rw [e]
      show dec (c :: (esc x ++ rest)) cur out = _
      rw [dec_other c _ _ _ (fun e => h (Or.inr e)) (fun e => h (Or.inl e)), ih]
      simp

/-- The first k items. -/
def firsts (ss : List ByteArray) (k : Nat) : List (List UInt8) := (List.range k).map (itm ss)

theorem firsts_succ (ss : List ByteArray) (k : Nat) : firsts ss (k + 1) = firsts ss k ++ [itm ss k] := by simp [firsts, List.range_succ]
theorem firsts_length (ss : List ByteArray) (k : Nat) : (firsts ss k).length = k := by simp [firsts]
theorem firsts_getD (ss : List ByteArray) (n k : Nat) (h : k < n) : (firsts ss n).getD k [] = itm ss k := by
  simp [firsts, List.getD, List.getElem?_map, List.getElem?_range h]

theorem dec_jn (ss : List ByteArray) (k : Nat) : ∀ rest, dec (jn ss (k + 1) ++ rest) [] [] = dec rest (itm ss k) (firsts ss k) := by
  induction k with
  | zero =>
    intro rest
    show dec ([] ++ sepB 0 ++ esc (itm ss 0) ++ rest) [] [] = _
    rw [show ([] ++ sepB 0 ++ esc (itm ss 0) ++ rest) = esc (itm ss 0) ++ rest by simp [sepB], dec_esc]
    rfl
  | succ k ih =>
    intro rest
    show dec (jn ss (k + 1) ++ sepB (k + 1) ++ esc (itm ss (k + 1)) ++ rest) [] [] = _
    rw [show (jn ss (k + 1) ++ sepB (k + 1) ++ esc (itm ss (k + 1)) ++ rest) = jn ss (k + 1) ++ (44 :: (esc (itm ss (k + 1)) ++ rest)) by simp [sepB]]
    rw [ih, dec_comma, dec_esc, firsts_succ]
    rfl

theorem dec_join (ss : List ByteArray) (n : Nat) (h : 0 < n) : dec (jn ss n) [] [] = some (firsts ss n) := by
  obtain ⟨k, rfl⟩ : ∃ k, n = k + 1 := ⟨n - 1, by omega⟩
  have := dec_jn ss k []
  rw [List.append_nil] at this
  rw [this, dec_nil, firsts_succ]

/-! ### Joining two lists -/
theorem itm_left (as bs : List ByteArray) (k : Nat) (h : k < as.length) : itm (as ++ bs) k = itm as k := by
  simp [itm, List.getD, List.getElem?_append_left h]
theorem itm_right (as bs : List ByteArray) (k : Nat) : itm (as ++ bs) (as.length + k) = itm bs k := by
  simp [itm, List.getD, List.getElem?_append_right]

theorem jn_left (as bs : List ByteArray) : ∀ k, k ≤ as.length → jn (as ++ bs) k = jn as k := by
  intro k
  induction k with
  | zero => intro _; rfl
  | succ k ih =>
    intro hk
    show jn (as ++ bs) k ++ sepB k ++ esc (itm (as ++ bs) k) = _
    rw [ih (by omega), itm_left as bs k (by omega)]
    rfl

theorem jn_right (as bs : List ByteArray) (h : 0 < as.length) (k : Nat) : jn (as ++ bs) (as.length + (k + 1)) = jn as as.length ++ 44 :: jn bs (k + 1) := by
  have hs : ∀ j, sepB (as.length + j) = [44] := fun j => by unfold sepB; rw [if_neg (by omega)]
  induction k with
  | zero =>
    show jn (as ++ bs) (as.length + 0) ++ sepB (as.length + 0) ++ esc (itm (as ++ bs) (as.length + 0)) = jn as as.length ++ 44 :: ([] ++ sepB 0 ++ esc (itm bs 0))
    rw [hs, itm_right, Nat.add_zero, jn_left as bs _ (Nat.le_refl _)]
    simp [sepB]
  | succ k ih =>
    show jn (as ++ bs) (as.length + (k + 1)) ++ sepB (as.length + (k + 1)) ++ esc (itm (as ++ bs) (as.length + (k + 1))) = jn as as.length ++ 44 :: (jn bs (k + 1) ++ sepB (k + 1) ++ esc (itm bs (k + 1)))
    rw [hs, itm_right, ih]
    have : sepB (k + 1) = [44] := by simp [sepB]
    rw [this]
    simp

/-- The whole text out of the two. -/
theorem jn_both (as bs : List ByteArray) : jn (as ++ bs) (as.length + bs.length) = if as.length = 0 then jn bs bs.length else if bs.length = 0 then jn as as.length else jn as as.length ++ 44 :: jn bs bs.length := by
  by_cases ha : as.length = 0
  · have : as = [] := List.eq_nil_of_length_eq_zero ha
    subst this
    simp
  · rw [if_neg ha]
    by_cases hb : bs.length = 0
    · rw [if_pos hb, hb, Nat.add_zero, jn_left as bs _ (Nat.le_refl _)]
    · rw [if_neg hb]
      obtain ⟨k, hk⟩ : ∃ k, bs.length = k + 1 := ⟨bs.length - 1, by omega⟩
      rw [hk]
      exact jn_right as bs (by omega) k

theorem tot_left (as bs : List ByteArray) : ∀ k, k ≤ as.length → tot (as ++ bs) k = tot as k := by
  intro k
  induction k with
  | zero => intro _; rfl
  | succ k ih =>
    intro hk
    rw [tot_succ, tot_succ, ih (by omega), itm_left as bs k (by omega)]

theorem tot_both (as bs : List ByteArray) (k : Nat) : tot (as ++ bs) (as.length + k) = tot as as.length + tot bs k := by
  induction k with
  | zero => rw [Nat.add_zero, tot_left as bs _ (Nat.le_refl _)]; rfl
  | succ k ih =>
    show tot (as ++ bs) (as.length + k + 1) = _
    rw [tot_succ, ih, itm_right, tot_succ]
    omega

end Go.Proofs.Qxb6605419a
