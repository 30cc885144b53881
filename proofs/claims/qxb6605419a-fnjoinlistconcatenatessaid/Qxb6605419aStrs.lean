/-
  The walks over slices of strings: zzBytes_.., zzCloneStrings, zzSpecials.
-/
import Derived.Test.Qxb6605419aSplits
import Derived.Test.Qxb6605419aJoinPlain
namespace Go.Proofs.Qxb6605419a
open Go.RowKit

/-- Each string's length fits. -/
def Fits (ss : List ByteArray) : Prop := ∀ k, (ss.getD k ByteArray.empty).size ≤ maxLen

/-- What a bound on the lengths leaves. -/
def SumEnd (ss : List ByteArray) (n : Nat) (w : World) (e : Ending) (w' : World) : Prop :=
  ∃ r : Bool, e = .returned (.bool r) ∧ w' = w ∧ (r = true → n + tot ss n ≤ 1048576)

set_option maxHeartbeats 400000 in
theorem sum1_any (a : Option Addr) (n cap : Nat) (ss : List ByteArray) (w : World) (hR : RowS w a n ss) (hn : n ≤ maxLen) (hF : Fits ss) :
    Calls Try.prog 7 #[.slice a n cap] w fun e w' => SumEnd ss n w e w' := by
  unfold maxLen at hn
  by_cases h20 : n ≤ 1048576
  · go_enter Try.func7, Try.ntmps7
    go_wp2
    go_loop [3, 4] (fun t i => ∃ k q : Nat, k ≤ n ∧ q ≤ 1048576 ∧ i = .int .i64 k ∧ t = .int .i64 q ∧ Hid (q = n + tot ss k)) (fun _ i => n - (intOf i).toNat)
    case atStart => exact ⟨0, n, Nat.zero_le _, h20, rfl, rfl, rfl⟩
    case round =>
      obtain ⟨k, q, hk, hq, rfl, rfl, HQ⟩ := hrel
      by_cases hkn : k < n
      · obtain ⟨b, o, rfl, hlt, hc⟩ := hR.at hkn
        have hfit := hF k
        have hil := itm_length ss k
        obtain ⟨s, hs⟩ : ∃ s, s = ss.getD k ByteArray.empty := ⟨_, rfl⟩
        rw [← hs] at hc hfit hil
        have HS : Hid (q + s.size = n + tot ss (k + 1)) := by
          show _ = _
          rw [tot_succ, hil, HQ.out]; omega
        clear hs hil
        unfold maxLen at hfit
        by_cases hs1 : s.size ≤ 1048576
        · by_cases hs2 : q + s.size ≤ 1048576
          · go_wp2
            go_round
            case rel => exact ⟨k + 1, q + s.size, by omega, hs2, by go_num, by go_num, HS.out⟩
            case measure => simp [intOf]; omega
          · go_wp2
            go_ret
            exact ⟨false, rfl, rfl, fun h => by cases h⟩
        · go_wp2
          go_ret
          exact ⟨false, rfl, rfl, fun h => by cases h⟩
      · obtain rfl : n = k := by omega
        go_wp2
        go_ret
        exact ⟨true, rfl, rfl, fun _ => by rw [← HQ.out]; exact hq⟩
  · go_enter Try.func7, Try.ntmps7
    go_wp2
    go_ret
    exact ⟨false, rfl, rfl, fun h => by cases h⟩

/-- What the bound on two lists leaves. -/
def SumEnd2 (ss ts : List ByteArray) (n m : Nat) (w : World) (e : Ending) (w' : World) : Prop :=
  ∃ r : Bool, e = .returned (.bool r) ∧ w' = w ∧ (r = true → n + tot ss n + m + tot ts m ≤ 1048576)

set_option maxHeartbeats 1000000 in
theorem sum2_any (a a' : Option Addr) (n cap m cap' : Nat) (ss ts : List ByteArray) (w : World) (hR : RowS w a n ss) (hR' : RowS w a' m ts) (hn : n ≤ maxLen) (hm : m ≤ maxLen) (hF : Fits ss) (hF' : Fits ts) :
    Calls Try.prog 11 #[.slice a n cap, .slice a' m cap'] w fun e w' => SumEnd2 ss ts n m w e w' := by
  unfold maxLen at hn hm
  by_cases h20 : n ≤ 1048576
  · go_enter Try.func11, Try.ntmps11
    go_wp2
    go_loop [5, 6] (fun t i => ∃ k q : Nat, k ≤ n ∧ q ≤ 1048576 ∧ i = .int .i64 k ∧ t = .int .i64 q ∧ Hid (q = n + tot ss k)) (fun _ i => n - (intOf i).toNat)
    case atStart => exact ⟨0, n, Nat.zero_le _, h20, rfl, rfl, rfl⟩
    case round =>
      obtain ⟨k, q, hk, hq, rfl, rfl, HQ⟩ := hrel
      by_cases hkn : k < n
      · obtain ⟨b, o, rfl, hlt, hc⟩ := hR.at hkn
        have hfit := hF k
        have hil := itm_length ss k
        obtain ⟨s, hs⟩ : ∃ s, s = ss.getD k ByteArray.empty := ⟨_, rfl⟩
        rw [← hs] at hc hfit hil
        have HS : Hid (q + s.size = n + tot ss (k + 1)) := by
          show _ = _
          rw [tot_succ, hil, HQ.out]; omega
        clear hs hil
        unfold maxLen at hfit
        by_cases hs1 : s.size ≤ 1048576
        · by_cases hs2 : q + s.size ≤ 1048576
          · go_wp2
            go_round
            case rel => exact ⟨k + 1, q + s.size, by omega, hs2, by go_num, by go_num, HS.out⟩
            case measure => simp [intOf]; omega
          · go_wp2
            go_ret
            exact ⟨false, rfl, rfl, fun h => by cases h⟩
        · go_wp2
          go_ret
          exact ⟨false, rfl, rfl, fun h => by cases h⟩
      · obtain rfl : n = k := by omega
        have HQ0 := HQ
        clear HQ hkn
        by_cases hm20 : m ≤ 1048576
        · by_cases hqm : q + m ≤ 1048576
          · go_wp2
            go_loop [5, 7] (fun t i => ∃ k q' : Nat, k ≤ m ∧ q' ≤ 1048576 ∧ i = .int .i64 k ∧ t = .int .i64 q' ∧ Hid (q' = q + m + tot ts k)) (fun _ i => m - (intOf i).toNat)
            case atStart => exact ⟨0, q + m, Nat.zero_le _, hqm, rfl, by go_num, rfl⟩
            case round =>
              obtain ⟨k, q', hk', hq', rfl, rfl, HQ⟩ := hrel
              by_cases hkn : k < m
              · obtain ⟨b, o, rfl, hlt, hc⟩ := hR'.at hkn
                have hfit := hF' k
                have hil := itm_length ts k
                obtain ⟨s, hs⟩ : ∃ s, s = ts.getD k ByteArray.empty := ⟨_, rfl⟩
                rw [← hs] at hc hfit hil
                have HS : Hid (q' + s.size = q + m + tot ts (k + 1)) := by
                  show _ = _
                  rw [tot_succ, hil, HQ.out]; omega
                clear hs hil
                unfold maxLen at hfit
                by_cases hs1 : s.size ≤ 1048576
                · by_cases hs2 : q' + s.size ≤ 1048576
                  · go_wp2
                    go_round
                    case rel => exact ⟨k + 1, q' + s.size, by omega, hs2, by go_num, by go_num, HS.out⟩
                    case measure => simp [intOf]; omega
                  · go_wp2
                    go_ret
                    exact ⟨false, rfl, rfl, fun h => by cases h⟩
                · go_wp2
                  go_ret
                  exact ⟨false, rfl, rfl, fun h => by cases h⟩
              · obtain rfl : m = k := by omega
                go_wp2
                go_ret
                exact ⟨true, rfl, rfl, fun _ => by rw [← HQ0.out, ← HQ.out]; exact hq'⟩
          · go_wp2
            go_ret
            exact ⟨false, rfl, rfl, fun h => by cases h⟩
        · go_wp2
          go_ret
          exact ⟨false, rfl, rfl, fun h => by cases h⟩
  · go_enter Try.func11, Try.ntmps11
    go_wp2
    go_ret
    exact ⟨false, rfl, rfl, fun h => by cases h⟩

/-- What a copy of a slice of strings leaves. -/
def CopySEnd (ss : List ByteArray) (n : Nat) (w : World) (e : Ending) (w' : World) : Prop :=
  ∃ a cap, e = .returned (.slice a n cap) ∧ n ≤ cap ∧ cap ≤ maxLen ∧ RowS w' a n ss ∧ Below w.heap.size w w'

set_option maxHeartbeats 400000 in
theorem cloneS_any (a : Option Addr) (len cap : Nat) (zs : List ByteArray) (w : World) (hR : RowS w a len zs) (hl : len ≤ 1048576) :
    Calls Try.prog 8 #[.slice a len cap] w fun e w' => CopySEnd zs len w e w' := by
  obtain ⟨i0, hi, hz0, hz1, hz2⟩ := info_parts info9
  obtain ⟨h1, h3⟩ := hR
  have hnil := fun w => Lib.run_eql_slice_nil (P := Try.prog) w 22 9 a len cap 0 0 Try.underlying22
  have HL : Hid (zs.length = len) := h1
  clear h1
  cases a with
  | none =>
    obtain rfl : len = 0 := by
      rcases h3 with h3 | ⟨b, off, ha, _⟩
      · exact h3
      · cases ha
    go_enter Try.func8, Try.ntmps8
    go_wp2
    go_ret
    exact ⟨none, 0, rfl, Nat.le_refl _, Nat.zero_le _, ⟨HL.out, .inl rfl⟩, Below.refl _ _⟩
  | some ad =>
    have hb2 : i0.bytes * len ≤ 281474976710656 := by rw [hz2]; omega
    rcases h3 with h3 | ⟨b, off, ha, hlt, hc⟩
    · subst h3
      go_enter Try.func8, Try.ntmps8
      go_wp2_with (at_make; refine wpList_make_full _ rfl _ _ 22 rfl w.heap.size 9 i0 (.string ⟨#[]⟩) 1 Try.underlying22 hi hz0 hz1 _ _ _ _ 0 rfl rfl rfl rfl hb2 (Nat.zero_le _) (Nat.le_refl _) ?_)
      intro w1 hown hgrow
      have hz : zs = [] := List.eq_nil_of_length_eq_zero HL.out
      have hown2 : w1.ownsRow w.heap.size 9 1 (.slice (some ⟨w.heap.size, 0, none⟩) 0 0) 0 (zs.map Value.string) := by
        subst hz
        simpa [toList_madeCells_one, Value.cells] using hown
      have HB : Hid (Below w.heap.size w w1) := (Below.refl _ _).grown hgrow (Nat.le_refl _) (fun k hk => by cases hk)
      have HO := rowS_of hown2
      clear hown hgrow hown2 hz
      have HO' : Hid _ := HO
      clear HO
      go_wp2
      refine wp_loop_rounds 1 ?_
      rw [rounds_succ]
      go_wp2
      go_ret
      obtain ⟨a', cap', hv, q1, q2, q3⟩ := HO'.out
      cases hv
      exact ⟨_, _, rfl, q1, q2, q3, HB.out⟩
    · obtain rfl := Option.some.inj ha
      have HC : Hid (∀ i, i < len → w.cell? ⟨b, off + i, none⟩ = some (.string (zs.getD i ByteArray.empty))) := hc
      clear hc ha
      go_enter Try.func8, Try.ntmps8
      go_wp2_with (at_make; refine wpList_make_full _ rfl _ _ 22 rfl w.heap.size 9 i0 (.string ⟨#[]⟩) 1 Try.underlying22 hi hz0 hz1 _ _ _ _ len rfl rfl rfl rfl hb2 (by unfold maxLen; omega) (Nat.le_refl _) ?_)
      intro w1 hown hgrow
      have hown2 : w1.ownsRow w.heap.size 9 1 (.slice (some ⟨w.heap.size, 0, none⟩) len len) len (filled Value.string zs (.string ⟨#[]⟩) len 0) := by
        rw [filled_zero]
        simpa [toList_madeCells_one, Value.cells] using hown
      have hB : Below w.heap.size w w1 := (Below.refl _ _).grown hgrow (Nat.le_refl _) (fun k hk => by cases hk)
      clear hown hgrow
      go_wp2
      go_loopw [4] (fun i wr => ∃ k : Nat, k ≤ len ∧ i = .int .i64 k ∧ wr.ownsRow w.heap.size 9 1 (.slice (some ⟨w.heap.size, 0, none⟩) len len) len (filled Value.string zs (.string ⟨#[]⟩) len k) ∧ Below w.heap.size w wr)
        (fun i _ => len - (intOf i).toNat)
      case atStart => exact ⟨0, Nat.zero_le _, rfl, hown2, hB⟩
      case round =>
        obtain ⟨k, hk, rfl, hown, hbel⟩ := hrel
        by_cases hlt2 : k < len
        · have hcell : wr.cell? ⟨b, off + k, none⟩ = some (.string (zs.getD k ByteArray.empty)) := (hbel.cell (p := ⟨b, off + k, none⟩) hlt).trans (HC.out k hlt2)
          have hkz : zs[k]? = some (zs.getD k ByteArray.empty) := by
            have := HL.out
            simp [List.getD, List.getElem?_eq_getElem (show k < zs.length by omega)]
          obtain ⟨c, hcd⟩ : ∃ c, c = zs.getD k ByteArray.empty := ⟨_, rfl⟩
          rw [← hcd] at hcell hkz
          have hc0 : wr.cell? ⟨w.heap.size, k, none⟩ = some (.string ⟨#[]⟩) := by rw [hown.cellAt k (by omega)]; exact filled_at _ _ _ _ _ HL.out hlt2
          have hf0 := hown.frozenAt k
          have hst := hown.stored k (.string c)
          have hs1 : (wr.setCell ⟨w.heap.size, k, none⟩ (.string c)).ownsRow w.heap.size 9 1 (.slice (some ⟨w.heap.size, 0, none⟩) len len) len (filled Value.string zs (.string ⟨#[]⟩) len (k + 1)) := by
            rw [← filled_set _ _ _ _ _ HL.out c hkz]
            exact hst.1
          have hs2 : Below w.heap.size w (wr.setCell ⟨w.heap.size, k, none⟩ (.string c)) := hbel.setCell (p := ⟨w.heap.size, k, none⟩) (Nat.le_refl _) _
          have HS : Hid (_ ∧ _) := ⟨hs1, hs2⟩
          clear hs1 hs2 hst hcd hkz hown hbel hown2 hB
          go_wp2
          go_roundw
          case rel => exact ⟨k + 1, by omega, by go_num, HS.out.1, HS.out.2⟩
          case measure => simp [intOf]; omega
        · have hkl : k = len := by omega
          subst hkl
          rw [filled_all _ _ _ _ HL.out] at hown
          have HO := rowS_of hown
          have HO' : Hid _ := HO
          clear HO hown
          go_wp2
          go_ret
          obtain ⟨a', cap', hv, q1, q2, q3⟩ := HO'.out
          cases hv
          exact ⟨_, _, rfl, q1, q2, q3, hbel⟩

theorem take_snocB (s : ByteArray) (k : Nat) (h : k < s.size) : s.data.toList.take (k + 1) = s.data.toList.take k ++ [s[k]] := by
  rw [List.take_succ_eq_append_getElem (by simpa using h)]; rfl

theorem spc_snoc (l : List UInt8) (c : UInt8) : spc (l ++ [c]) = spc l + (if (c.toNat : Int) = 44 ∨ (c.toNat : Int) = 92 then 1 else 0) := by
  have e : (c = 44 ∨ c = 92) ↔ ((c.toNat : Int) = 44 ∨ (c.toNat : Int) = 92) := by
    rw [← UInt8.toNat_inj, ← UInt8.toNat_inj]
    show c.toNat = 44 ∨ c.toNat = 92 ↔ _
    omega
  rw [spc_append]
  simp only [spc, e]
  omega

theorem ret_int {k : IntKind} {a b : Int} (h : a = b) : Ending.returned (.int k a) = .returned (.int k b) := by rw [h]

set_option maxHeartbeats 400000 in
theorem specials_any (s : ByteArray) (w : World) (hs : s.size ≤ maxLen) :
    Calls Try.prog 12 #[.string s] w fun e w' => e = .returned (.int .i64 (spc s.data.toList)) ∧ w' = w := by
  unfold maxLen at hs
  go_enter Try.func12, Try.ntmps12
  go_wp2
  go_loop [3, 4] (fun n i => ∃ k q : Nat, k ≤ s.size ∧ q ≤ k ∧ i = .int .i64 k ∧ n = .int .i64 q ∧ Hid (q = spc (s.data.toList.take k))) (fun _ i => s.size - (intOf i).toNat)
  case atStart => exact ⟨0, 0, Nat.zero_le _, Nat.le_refl _, rfl, rfl, rfl⟩
  case round =>
    obtain ⟨k, q, hk, hq, rfl, rfl, HQ⟩ := hrel
    by_cases hlt : k < s.size
    · have hsn := spc_snoc (s.data.toList.take k) s[k]
      have hts := take_snocB s k hlt
      have HS : Hid (spc (s.data.toList.take (k + 1)) = q + if (s[k].toNat : Int) = 44 ∨ (s[k].toNat : Int) = 92 then 1 else 0) := by rw [hts, HQ.out]; exact hsn
      clear hsn hts
      go_wp2
      · have h44 : ((s[k]'hlt).toNat : Int) = 44 := by assumption
        go_round
        case rel => exact ⟨k + 1, q + 1, by omega, by omega, by go_num, by go_num, by show _ = _; rw [HS.out, if_pos (Or.inl h44)]⟩
        case measure => simp [intOf]; omega
      · have h92 : (((s[k]'hlt).toNat : Int) == 44) = true ∨ (((s[k]'hlt).toNat : Int) == 92) = true := by assumption
        rw [beq_iff_eq, beq_iff_eq] at h92
        go_round
        case rel => exact ⟨k + 1, q + 1, by omega, by omega, by go_num, by go_num, by show _ = _; rw [HS.out, if_pos h92]⟩
        case measure => simp [intOf]; omega
      · have hno : (((s[k]'hlt).toNat : Int) == 44) = false ∧ (((s[k]'hlt).toNat : Int) == 92) = false := by assumption
        rw [beq_eq_false_iff_ne, beq_eq_false_iff_ne] at hno
        go_round
        case rel => exact ⟨k + 1, q, by omega, by omega, by go_num, rfl, by show _ = _; rw [HS.out, if_neg (fun h => h.elim hno.1 hno.2)]; rfl⟩
        case measure => simp [intOf]; omega
    · obtain rfl : s.size = k := by omega
      go_wp2
      go_ret
      exact ⟨ret_int (by rw [HQ.out, List.take_of_length_le (by simp)]), rfl⟩

end Go.Proofs.Qxb6605419a
