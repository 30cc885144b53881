/-
  joinList: the text, by strings.Builder.
-/
import Derived.Test.Qxb6605419aStrs
import Derived.Test.Qxb6605419aBuilder
namespace Go.Proofs.Qxb6605419a
open Go.RowKit

theorem bc_snoc (l : List UInt8) (c : UInt8) : Lib.byteCells l ++ [Value.int .u8 (c.toNat : Int)] = Lib.byteCells (l ++ [c]) := by
  rw [Lib.byteCells_append]; rfl

theorem spec_iff (c : UInt8) : (c = 44 ∨ c = 92) ↔ ((c.toNat : Int) = 44 ∨ (c.toNat : Int) = 92) := by
  rw [← UInt8.toNat_inj, ← UInt8.toNat_inj]
  show c.toNat = 44 ∨ c.toNat = 92 ↔ _
  omega

theorem bc_two (l : List UInt8) (c : UInt8) : Lib.byteCells l ++ [Value.int .u8 92] ++ [Value.int .u8 (c.toNat : Int)] = Lib.byteCells (l ++ [92, c]) := by
  rw [Lib.byteCells_append, List.append_assoc]; rfl

theorem esc_len_le (l : List UInt8) : (esc l).length ≤ 2 * l.length := by
  have := spc_le l
  rw [esc_length]
  omega

/-- What joinList leaves. -/
def JoinEnd (ss : List ByteArray) (n : Nat) (w : World) (e : Ending) (w' : World) : Prop :=
  e = .returned (.string ⟨(jn ss n).toArray⟩) ∧ Below w.heap.size w w'

set_option maxHeartbeats 1000000 in
theorem join_any (a : Option Addr) (n cap : Nat) (ss : List ByteArray) (w : World) (hR : RowS w a n ss) (hn : n ≤ 1048576) (ht : tot ss n ≤ 1048576) :
    Calls Try.prog 18 #[.slice a n cap] w fun e w' => JoinEnd ss n w e w' := by
  go_enter Try.func18, Try.ntmps18
  go_wp2
  go_loopw [9] (fun i wr => ∃ k : Nat, k ≤ n ∧ i = .int .i64 k ∧ Lib.IsBuilder 37 5 w.heap.size w.heap.size (Lib.byteCells (jn ss k)) wr ∧ Below w.heap.size w wr) (fun i _ => n - (intOf i).toNat)
  case atStart => exact ⟨0, Nat.zero_le _, rfl, Lib.fresh_isBuilder 37 5 w, (Below.refl _ w).alloc (Nat.le_refl _) _⟩
  case round =>
    obtain ⟨k, hk, rfl, hI, hbel⟩ := hrel
    by_cases hkn : k < n
    · obtain ⟨b, o, rfl, hlt, hc0⟩ := hR.at hkn
      have hc : wr.cell? ⟨b, o + k, none⟩ = some (.string (ss.getD k ByteArray.empty)) := (hbel.cell (p := ⟨b, o + k, none⟩) hlt).trans hc0
      have hil := itm_length ss k
      have hjl := jn_le ss k
      have htk := tot_mono ss (show k + 1 ≤ n by omega)
      rw [tot_succ, hil] at htk
      obtain ⟨s, hs⟩ : ∃ s, s = ss.getD k ByteArray.empty := ⟨_, rfl⟩
      rw [← hs] at hc htk
      have HS : Hid (itm ss k = s.data.toList) := by rw [hs]; rfl
      clear hs hil hc0
      by_cases hk0 : 0 < k
      · go_wp2_with (go_at_call 20; refine (writeByte_any w.heap.size w.heap.size _ 44 _ hI (by rw [Lib.byteCells_length]; omega) hbel.size).mono ?_)
        rintro e w1 ⟨rfl, hI1, hb1⟩
        have hbel1 : Below w.heap.size w w1 := hbel.trans hb1
        have hpe : Lib.byteCells (jn ss k) ++ [Value.int .u8 44] = Lib.byteCells (jn ss k ++ sepB k) := by
          rw [show sepB k = [44] by unfold sepB; rw [if_neg (by omega)]]
          exact bc_snoc (jn ss k) 44
        rw [hpe] at hI1
        obtain ⟨pre, hpre⟩ : ∃ pre, pre = jn ss k ++ sepB k := ⟨_, rfl⟩
        have hpl : pre.length ≤ 2 * tot ss k + k + 1 := by rw [hpre, List.length_append, sepB_length]; split <;> omega
        rw [← hpre] at hI1
        have HPRE : Hid (pre = jn ss k ++ sepB k) := hpre
        clear hpre hpe hb1 hI hbel hjl hc
        go_wp2
        go_loopw [6] (fun j wr => ∃ jj : Nat, jj ≤ s.size ∧ j = .int .i64 jj ∧ Lib.IsBuilder 37 5 w.heap.size w.heap.size (Lib.byteCells (pre ++ esc (s.data.toList.take jj))) wr ∧ Below w.heap.size w wr) (fun j _ => s.size - (intOf j).toNat)
        case atStart => exact ⟨0, Nat.zero_le _, rfl, by simpa [esc_nil] using hI1, hbel1⟩
        case round =>
          obtain ⟨jj, hjj, rfl, hI2, hbel2⟩ := hrel
          by_cases hjl : jj < s.size
          · have hel := esc_len_le (s.data.toList.take jj)
            have htl : (s.data.toList.take jj).length ≤ jj := List.length_take_le _ _
            have hlen : (Lib.byteCells (pre ++ esc (s.data.toList.take jj))).length + 2 ≤ 140737488355328 := by rw [Lib.byteCells_length, List.length_append]; omega
            have hlen1 : (Lib.byteCells (pre ++ esc (s.data.toList.take jj))).length + 1 ≤ 140737488355328 := by omega
            have HT : Hid (esc (s.data.toList.take (jj + 1)) = esc (s.data.toList.take jj) ++ escB s[jj]) := by
              show _ = _
              rw [take_snocB s jj hjl, esc_snoc]
            obtain ⟨xs, hxs⟩ : ∃ xs, xs = pre ++ esc (s.data.toList.take jj) := ⟨_, rfl⟩
            have HX : Hid (xs = pre ++ esc (s.data.toList.take jj)) := hxs
            rw [← hxs] at hI2 hlen hlen1
            clear hxs hel htl hI1 hbel1
            by_cases h44 : ((s[jj]'hjl).toNat : Int) = 44
            · have HB : Hid (escB s[jj] = [92, s[jj]]) := by
                show _ = _
                unfold escB; rw [if_pos ((spec_iff _).2 (Or.inl h44))]
              have hq1 : (((s[jj]'hjl).toNat : Int) == 44) = true := by rw [beq_iff_eq]; exact h44
              clear h44
              go_wp2_with (go_at_call 20; refine (writeByte_any w.heap.size w.heap.size _ 92 _ hI2 hlen1 hbel2.size).mono ?_)
              rintro e w2 ⟨rfl, hI3, hb3⟩
              have hbel3 := hbel2.trans hb3
              have hlen3 : (Lib.byteCells xs ++ [Value.int .u8 92]).length + 1 ≤ 140737488355328 := by rw [List.length_append]; exact hlen
              clear hI2 hbel2 hb3 hlen1 hlen
              go_wp2_with (go_at_call 20; refine (writeByte_any w.heap.size w.heap.size _ _ _ hI3 hlen3 hbel3.size).mono ?_)
              rintro e w3 ⟨rfl, hI4, hb4⟩
              have hbel4 := hbel3.trans hb4
              rw [bc_two] at hI4
              clear hI3 hbel3 hb4 hlen3
              go_wp2
              go_roundw
              case rel => exact ⟨jj + 1, by omega, by go_num, by rw [HT.out, HB.out, ← List.append_assoc, ← HX.out]; exact hI4, hbel4⟩
              case measure => simp [intOf]; omega
            · have hq1 : (((s[jj]'hjl).toNat : Int) == 44) = false := by rw [beq_eq_false_iff_ne]; exact h44
              by_cases h92 : ((s[jj]'hjl).toNat : Int) = 92
              · have HB : Hid (escB s[jj] = [92, s[jj]]) := by
                  show _ = _
                  unfold escB; rw [if_pos ((spec_iff _).2 (Or.inr h92))]
                have hq2 : (((s[jj]'hjl).toNat : Int) == 92) = true := by rw [beq_iff_eq]; exact h92
                clear h44 h92
                go_wp2_with (go_at_call 20; refine (writeByte_any w.heap.size w.heap.size _ 92 _ hI2 hlen1 hbel2.size).mono ?_)
                rintro e w2 ⟨rfl, hI3, hb3⟩
                have hbel3 := hbel2.trans hb3
                have hlen3 : (Lib.byteCells xs ++ [Value.int .u8 92]).length + 1 ≤ 140737488355328 := by rw [List.length_append]; exact hlen
                clear hI2 hbel2 hb3 hlen1 hlen
                go_wp2_with (go_at_call 20; refine (writeByte_any w.heap.size w.heap.size _ _ _ hI3 hlen3 hbel3.size).mono ?_)
                rintro e w3 ⟨rfl, hI4, hb4⟩
                have hbel4 := hbel3.trans hb4
                rw [bc_two] at hI4
                clear hI3 hbel3 hb4 hlen3
                go_wp2
                go_roundw
                case rel => exact ⟨jj + 1, by omega, by go_num, by rw [HT.out, HB.out, ← List.append_assoc, ← HX.out]; exact hI4, hbel4⟩
                case measure => simp [intOf]; omega
              · have HB : Hid (escB s[jj] = [s[jj]]) := by
                  show _ = _
                  unfold escB; rw [if_neg (fun h => ((spec_iff _).1 h).elim h44 h92)]
                have hq2 : (((s[jj]'hjl).toNat : Int) == 92) = false := by rw [beq_eq_false_iff_ne]; exact h92
                clear h44 h92
                go_wp2_with (go_at_call 20; refine (writeByte_any w.heap.size w.heap.size _ _ _ hI2 hlen1 hbel2.size).mono ?_)
                rintro e w3 ⟨rfl, hI4, hb4⟩
                have hbel4 := hbel2.trans hb4
                rw [bc_snoc] at hI4
                clear hI2 hbel2 hb4 hlen1 hlen
                go_wp2
                go_roundw
                case rel => exact ⟨jj + 1, by omega, by go_num, by rw [HT.out, HB.out, ← List.append_assoc, ← HX.out]; exact hI4, hbel4⟩
                case measure => simp [intOf]; omega
          · have hje : s.data.toList.take jj = s.data.toList := List.take_of_length_le (by simp; omega)
            rw [hje] at hI2
            have hI5 : Lib.IsBuilder 37 5 w.heap.size w.heap.size (Lib.byteCells (jn ss (k + 1))) wr := by
              show Lib.IsBuilder 37 5 _ _ (Lib.byteCells (jn ss k ++ sepB k ++ esc (itm ss k))) wr
              rw [HS.out, ← HPRE.out]
              exact hI2
            clear hI2 hje hI1 hbel1
            go_wp2
            go_roundw
            case rel => exact ⟨k + 1, by omega, by go_num, hI5, hbel2⟩
            case measure => simp [intOf]; omega
      · obtain ⟨w1, hw1⟩ : ∃ w1 : World, w1 = wr := ⟨_, rfl⟩
        subst hw1
        have hbel1 : Below w.heap.size w w1 := hbel
        have hpe : Lib.byteCells (jn ss k) = Lib.byteCells (jn ss k ++ sepB k) := by
          rw [show sepB k = [] by unfold sepB; rw [if_pos (by omega)], List.append_nil]
        have hI1 := hI
        rw [hpe] at hI1
        obtain ⟨pre, hpre⟩ : ∃ pre, pre = jn ss k ++ sepB k := ⟨_, rfl⟩
        have hpl : pre.length ≤ 2 * tot ss k + k + 1 := by rw [hpre, List.length_append, sepB_length]; split <;> omega
        rw [← hpre] at hI1
        have HPRE : Hid (pre = jn ss k ++ sepB k) := hpre
        clear hpre hpe hI hbel hjl
        go_wp2
        go_loopw [6] (fun j wr => ∃ jj : Nat, jj ≤ s.size ∧ j = .int .i64 jj ∧ Lib.IsBuilder 37 5 w.heap.size w.heap.size (Lib.byteCells (pre ++ esc (s.data.toList.take jj))) wr ∧ Below w.heap.size w wr) (fun j _ => s.size - (intOf j).toNat)
        case atStart => exact ⟨0, Nat.zero_le _, rfl, by simpa [esc_nil] using hI1, hbel1⟩
        case round =>
          obtain ⟨jj, hjj, rfl, hI2, hbel2⟩ := hrel
          by_cases hjl : jj < s.size
          · have hel := esc_len_le (s.data.toList.take jj)
            have htl : (s.data.toList.take jj).length ≤ jj := List.length_take_le _ _
            have hlen : (Lib.byteCells (pre ++ esc (s.data.toList.take jj))).length + 2 ≤ 140737488355328 := by rw [Lib.byteCells_length, List.length_append]; omega
            have hlen1 : (Lib.byteCells (pre ++ esc (s.data.toList.take jj))).length + 1 ≤ 140737488355328 := by omega
            have HT : Hid (esc (s.data.toList.take (jj + 1)) = esc (s.data.toList.take jj) ++ escB s[jj]) := by
              show _ = _
              rw [take_snocB s jj hjl, esc_snoc]
            obtain ⟨xs, hxs⟩ : ∃ xs, xs = pre ++ esc (s.data.toList.take jj) := ⟨_, rfl⟩
            have HX : Hid (xs = pre ++ esc (s.data.toList.take jj)) := hxs
            rw [← hxs] at hI2 hlen hlen1
            clear hxs hel htl hI1 hbel1
            by_cases h44 : ((s[jj]'hjl).toNat : Int) = 44
            · have HB : Hid (escB s[jj] = [92, s[jj]]) := by
                show _ = _
                unfold escB; rw [if_pos ((spec_iff _).2 (Or.inl h44))]
              have hq1 : (((s[jj]'hjl).toNat : Int) == 44) = true := by rw [beq_iff_eq]; exact h44
              clear h44
              go_wp2_with (go_at_call 20; refine (writeByte_any w.heap.size w.heap.size _ 92 _ hI2 hlen1 hbel2.size).mono ?_)
              rintro e w2 ⟨rfl, hI3, hb3⟩
              have hbel3 := hbel2.trans hb3
              have hlen3 : (Lib.byteCells xs ++ [Value.int .u8 92]).length + 1 ≤ 140737488355328 := by rw [List.length_append]; exact hlen
              clear hI2 hbel2 hb3 hlen1 hlen
              go_wp2_with (go_at_call 20; refine (writeByte_any w.heap.size w.heap.size _ _ _ hI3 hlen3 hbel3.size).mono ?_)
              rintro e w3 ⟨rfl, hI4, hb4⟩
              have hbel4 := hbel3.trans hb4
              rw [bc_two] at hI4
              clear hI3 hbel3 hb4 hlen3
              go_wp2
              go_roundw
              case rel => exact ⟨jj + 1, by omega, by go_num, by rw [HT.out, HB.out, ← List.append_assoc, ← HX.out]; exact hI4, hbel4⟩
              case measure => simp [intOf]; omega
            · have hq1 : (((s[jj]'hjl).toNat : Int) == 44) = false := by rw [beq_eq_false_iff_ne]; exact h44
              by_cases h92 : ((s[jj]'hjl).toNat : Int) = 92
              · have HB : Hid (escB s[jj] = [92, s[jj]]) := by
                  show _ = _
                  unfold escB; rw [if_pos ((spec_iff _).2 (Or.inr h92))]
                have hq2 : (((s[jj]'hjl).toNat : Int) == 92) = true := by rw [beq_iff_eq]; exact h92
                clear h44 h92
                go_wp2_with (go_at_call 20; refine (writeByte_any w.heap.size w.heap.size _ 92 _ hI2 hlen1 hbel2.size).mono ?_)
                rintro e w2 ⟨rfl, hI3, hb3⟩
                have hbel3 := hbel2.trans hb3
                have hlen3 : (Lib.byteCells xs ++ [Value.int .u8 92]).length + 1 ≤ 140737488355328 := by rw [List.length_append]; exact hlen
                clear hI2 hbel2 hb3 hlen1 hlen
                go_wp2_with (go_at_call 20; refine (writeByte_any w.heap.size w.heap.size _ _ _ hI3 hlen3 hbel3.size).mono ?_)
                rintro e w3 ⟨rfl, hI4, hb4⟩
                have hbel4 := hbel3.trans hb4
                rw [bc_two] at hI4
                clear hI3 hbel3 hb4 hlen3
                go_wp2
                go_roundw
                case rel => exact ⟨jj + 1, by omega, by go_num, by rw [HT.out, HB.out, ← List.append_assoc, ← HX.out]; exact hI4, hbel4⟩
                case measure => simp [intOf]; omega
              · have HB : Hid (escB s[jj] = [s[jj]]) := by
                  show _ = _
                  unfold escB; rw [if_neg (fun h => ((spec_iff _).1 h).elim h44 h92)]
                have hq2 : (((s[jj]'hjl).toNat : Int) == 92) = false := by rw [beq_eq_false_iff_ne]; exact h92
                clear h44 h92
                go_wp2_with (go_at_call 20; refine (writeByte_any w.heap.size w.heap.size _ _ _ hI2 hlen1 hbel2.size).mono ?_)
                rintro e w3 ⟨rfl, hI4, hb4⟩
                have hbel4 := hbel2.trans hb4
                rw [bc_snoc] at hI4
                clear hI2 hbel2 hb4 hlen1 hlen
                go_wp2
                go_roundw
                case rel => exact ⟨jj + 1, by omega, by go_num, by rw [HT.out, HB.out, ← List.append_assoc, ← HX.out]; exact hI4, hbel4⟩
                case measure => simp [intOf]; omega
          · have hje : s.data.toList.take jj = s.data.toList := List.take_of_length_le (by simp; omega)
            rw [hje] at hI2
            have hI5 : Lib.IsBuilder 37 5 w.heap.size w.heap.size (Lib.byteCells (jn ss (k + 1))) wr := by
              show Lib.IsBuilder 37 5 _ _ (Lib.byteCells (jn ss k ++ sepB k ++ esc (itm ss k))) wr
              rw [HS.out, ← HPRE.out]
              exact hI2
            clear hI2 hje hI1 hbel1
            go_wp2
            go_roundw
            case rel => exact ⟨k + 1, by omega, by go_num, hI5, hbel2⟩
            case measure => simp [intOf]; omega
    · obtain rfl : n = k := by omega
      go_wp2_with (go_at_call 21; refine (builderString_any w.heap.size w.heap.size (jn ss n) _ hI hbel.size).mono ?_)
      rintro e w2 ⟨rfl, hb2⟩
      have hbel2 := hbel.trans hb2
      clear hI hbel hb2
      go_wp2
      go_ret
      exact ⟨rfl, hbel2⟩

set_option maxHeartbeats 400000 in
theorem zjoin_any (a : Option Addr) (n cap : Nat) (ss : List ByteArray) (w : World) (hR : RowS w a n ss) (hn : n ≤ 1048576) (ht : tot ss n ≤ 1048576) :
    Calls Try.prog 9 #[.slice a n cap] w fun e w' => JoinEnd ss n w e w' := by
  go_enter Try.func9, Try.ntmps9
  go_wp2_with (go_at_call 18; refine (join_any a n cap ss _ hR hn ht).mono ?_)
  rintro e w1 ⟨rfl, hb⟩
  go_wp2
  go_ret
  exact ⟨rfl, hb⟩

end Go.Proofs.Qxb6605419a
