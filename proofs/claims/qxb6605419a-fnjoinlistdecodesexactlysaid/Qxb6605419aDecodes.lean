/-
  FnJoinListDecodesExactly, walked.
-/
import Derived.Test.Qxb6605419aDecode
namespace Go.Proofs.Qxb6605419a
open Go.RowKit

theorem bar_itm (ss : List ByteArray) (k : Nat) : bar (itm ss k) = ss.getD k ByteArray.empty := by
  apply ByteArray.ext
  simp [bar, itm]

theorem size_bar (l : List UInt8) : (⟨l.toArray⟩ : ByteArray).size = l.length := by simp [ByteArray.size]

/-- What zzDecodeList leaves of a joined text. -/
def DecJoinEnd (ss : List ByteArray) (n : Nat) (w : World) (e : Ending) (w' : World) : Prop :=
  ∃ a cap, e = .returned (.tuple #[.slice a n cap, .bool true]) ∧ RowS w' a n ss ∧ Below w.heap.size w w'

theorem rowS_firsts {w : World} {a : Option Addr} {ss : List ByteArray} {n : Nat} (hl : ss.length = n) (h : RowS w a (firsts ss n).length ((firsts ss n).map bar)) : RowS w a n ss := by
  rw [firsts_length] at h
  obtain ⟨_, h2⟩ := h
  refine ⟨hl, ?_⟩
  rcases h2 with h2 | ⟨b, o, ha, hb, hc⟩
  · exact .inl h2
  · refine .inr ⟨b, o, ha, hb, fun i hi => ?_⟩
    rw [hc i hi]
    have e : ((firsts ss n).map bar).getD i ByteArray.empty = bar (itm ss i) := by
      simp [firsts, List.getD, List.getElem?_map, List.getElem?_range hi]
    rw [e, bar_itm]

theorem decJoin_any (ss : List ByteArray) (n : Nat) (t : ByteArray) (w : World) (h0 : 0 < n) (hl : ss.length = n) (hn : n ≤ 1048576) (htot : tot ss n ≤ 1048576) (ht : t = ⟨(jn ss n).toArray⟩) :
    Calls Try.prog 10 #[.string t] w fun e w' => DecJoinEnd ss n w e w' := by
  have hle := jn_le ss n
  refine (decode_any t (firsts ss n) w (by rw [ht, size_bar]; omega) (by rw [ht]; exact dec_join ss n h0)).mono ?_
  rintro e w' ⟨a, cap, rfl, hr, hb⟩
  exact ⟨a, cap, by rw [firsts_length], rowS_firsts hl hr, hb⟩

set_option maxHeartbeats 1000000 in
theorem decodes_any (a : Option Addr) (n cap : Nat) (ss : List ByteArray) (w : World) (hn : n ≤ maxLen) (hR : RowS w a n ss) (hF : Fits ss) :
    Calls Try.prog 3 #[.slice a n cap] w fun e w' => e = .returned (.bool true) ∧ Below w.heap.size w w' := by
  go_enter Try.func3, Try.ntmps3
  go_wp2_with (go_at_call 7; refine (sum1_any a n cap ss _ hR hn hF).mono ?_)
  rintro e w' ⟨r, rfl, hw, hr⟩
  obtain rfl := hw.symm
  clear hw
  unfold maxLen at hn
  cases r with
  | false =>
    clear hr
    go_wp2
    go_ret
    exact ⟨rfl, Below.refl _ _⟩
  | true =>
    have hsum := hr rfl
    clear hr
    by_cases h16 : n ≤ 65536
    · go_wp2
      go_loop [3, 4] (fun t i => ∃ k q : Nat, k ≤ n ∧ q ≤ 1048576 ∧ i = .int .i64 k ∧ t = .int .i64 q) (fun _ i => n - (intOf i).toNat)
      case atStart => exact ⟨0, 16 * n, Nat.zero_le _, by omega, rfl, by go_num⟩
      case round =>
        obtain ⟨k, q, hk, hq, rfl, rfl⟩ := hrel
        by_cases hkn : k < n
        · obtain ⟨b, o, rfl, hlt, hc⟩ := hR.at hkn
          have hfit := hF k
          obtain ⟨s, hs⟩ : ∃ s, s = ss.getD k ByteArray.empty := ⟨_, rfl⟩
          rw [← hs] at hc hfit
          clear hs
          unfold maxLen at hfit
          by_cases hs1 : s.size ≤ 1048576
          · by_cases hs2 : q + s.size ≤ 1048576
            · go_wp2
              go_round
              case rel => exact ⟨k + 1, q + s.size, by omega, hs2, by go_num, by go_num⟩
              case measure => simp [intOf]; omega
            · go_wp2
              go_ret
              exact ⟨rfl, Below.refl _ _⟩
          · go_wp2
            go_ret
            exact ⟨rfl, Below.refl _ _⟩
        · obtain rfl : n = k := by omega
          have htot : tot ss n ≤ 1048576 := by omega
          have hn20 : n ≤ 1048576 := by omega
          go_wp2_with (go_at_call 8; refine (cloneS_any a n cap ss _ hR hn20).mono ?_)
          rintro e w1 ⟨a1, cap1, rfl, hc1, hm1, hR1, hB1⟩
          clear hR
          go_wp2_with (go_at_call 9; refine (zjoin_any a1 n cap1 ss _ hR1 hn20 htot).mono ?_)
          rintro e w2 ⟨rfl, hB2⟩
          have hR2 := hR1.later hB2
          have hBB2 : Below w.heap.size w w2 := hB1.trans (hB2.mono hB1.size)
          clear hR1 hB1 hB2
          by_cases hn0 : n = 0
          · subst hn0
            go_wp2
            go_ret
            exact ⟨rfl, hBB2⟩
          · have h0 : 0 < n := by omega
            have hne : ((n : Int) == 0) = false := by rw [beq_eq_false_iff_ne]; omega
            have HL : Hid (ss.length = n) := hR2.1
            obtain ⟨t, ht⟩ : ∃ t : ByteArray, t = ⟨(jn ss n).toArray⟩ := ⟨_, rfl⟩
            rw [← ht]
            have HT : Hid (t = ⟨(jn ss n).toArray⟩) := ht
            clear ht
            go_wp2_with (go_at_call 10; refine (decJoin_any ss n t _ h0 HL.out hn20 htot HT.out).mono ?_)
            rintro e w3 ⟨ap, capp, rfl, hRp, hB3⟩
            have hR3 := hR2.later hB3
            have hBB3 : Below w.heap.size w w3 := hBB2.trans (hB3.mono hBB2.size)
            clear hR2 hB3 hBB2
            go_wp2
            go_loopw [8] (fun i wr => ∃ k : Nat, k ≤ n ∧ i = .int .i64 k ∧ Below w3.heap.size w3 wr) (fun i _ => n - (intOf i).toNat)
            case atStart => exact ⟨0, Nat.zero_le _, rfl, Below.refl _ _⟩
            case round =>
              obtain ⟨k, hk3, rfl, hbel⟩ := hrel
              by_cases hkm : k < n
              · obtain ⟨b3, o3, rfl, hlt3, hcp⟩ := hRp.at hkm
                obtain ⟨b4, o4, rfl, hlt4, hci⟩ := hR3.at hkm
                obtain ⟨s, hs⟩ : ∃ s, s = ss.getD k ByteArray.empty := ⟨_, rfl⟩
                rw [← hs] at hcp hci
                have hcp' : wr.cell? ⟨b3, o3 + k, none⟩ = some (.string s) := (hbel.cell (p := ⟨b3, o3 + k, none⟩) hlt3).trans hcp
                have hci' : wr.cell? ⟨b4, o4 + k, none⟩ = some (.string s) := (hbel.cell (p := ⟨b4, o4 + k, none⟩) hlt4).trans hci
                clear hs hcp hci hRp hR3
                have hi2 : (k : Int) < n := by omega
                go_wp2
                go_quiet (fail)
                go_wp2
                go_roundw
                case rel => exact ⟨k + 1, by omega, by go_num, below_drewN hbel _⟩
                case measure => simp [intOf]; omega
              · go_wp2
                go_ret
                exact ⟨rfl, hBB3.trans (hbel.mono hBB3.size)⟩
    · go_wp2
      go_ret
      exact ⟨rfl, Below.refl _ _⟩

end Go.Proofs.Qxb6605419a
