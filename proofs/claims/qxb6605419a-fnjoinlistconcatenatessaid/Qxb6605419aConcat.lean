/-
  FnJoinListConcatenates, walked.
-/
import Derived.Test.Qxb6605419aJoin
namespace Go.Proofs.Qxb6605419a
open Go.RowKit

theorem take_snocS {ss : List ByteArray} {k : Nat} (h : k < ss.length) : (ss.take (k + 1)).map Value.string = (ss.take k).map Value.string ++ [Value.string (ss.getD k ByteArray.empty)] := by
  rw [List.take_succ_eq_append_getElem h, List.map_append]
  simp only [List.map_cons, List.map_nil, List.getD, List.getElem?_eq_getElem h, Option.getD_some]

/-- One append within the capacity, onto the row at g. -/
theorem joined_stepS {w wr w1 : World} {g N k : Nat} {xs ys : List Value} {c : ByteArray} (hbel : Below g w wr) (hg : g ≤ wr.heap.size)
    (hown' : w1.ownsRow g 9 1 (.slice (some ⟨g, 0, none⟩) (k + 1) N) (k + 1) xs) (hgrow : (wr.alloc (.cells #[.string c] 9)).grownBy w1 (some g)) (hxy : ys = xs) :
    w1.ownsRow g 9 1 (.slice (some ⟨g, 0, none⟩) (k + 1) N) (k + 1) ys ∧ Below g w w1 :=
  ⟨by rw [hxy]; exact hown', (hbel.alloc hg _).grown hgrow (by simp; omega) (fun j hj => by have := Option.some.inj hj; omega)⟩

theorem rowS_at {w : World} {base g n cap : Nat} {ss : List ByteArray} (h : w.ownsRow base 9 1 (.slice (some ⟨g, 0, none⟩) n cap) n (ss.map Value.string)) : RowS w (some ⟨g, 0, none⟩) n ss := by
  obtain ⟨a, c, hv, _, _, hr⟩ := rowS_of h
  simp only [Value.slice.injEq] at hv
  rw [hv.1]
  exact hr

theorem ret_bool {a b : Bool} (h : a = b) : Ending.returned (.bool a) = .returned (.bool b) := by rw [h]

theorem bar_size (l : List UInt8) : (⟨l.toArray⟩ : ByteArray).size = l.length := by simp [ByteArray.size]

theorem bar_append (a b : List UInt8) : (⟨a.toArray⟩ : ByteArray) ++ ⟨b.toArray⟩ = ⟨(a ++ b).toArray⟩ := by
  apply ByteArray.ext
  simp

theorem concat_text (xa xb : List ByteArray) (ta tb : ByteArray) (ha : ta = ⟨(jn xa xa.length).toArray⟩) (hb : tb = ⟨(jn xb xb.length).toArray⟩) (h1 : 0 < xa.length) (h2 : 0 < xb.length) :
    ta ++ (⟨#[44]⟩ : ByteArray) ++ tb = ⟨(jn (xa ++ xb) (xa.length + xb.length)).toArray⟩ := by
  rw [jn_both, if_neg (by omega), if_neg (by omega), ha, hb]
  rw [show (⟨#[44]⟩ : ByteArray) = ⟨([44] : List UInt8).toArray⟩ from rfl, bar_append, bar_append]
  simp

set_option maxRecDepth 100000 in
set_option maxHeartbeats 4000000 in
theorem concat_any (a a' : Option Addr) (n cap m cap' : Nat) (xa xb : List ByteArray) (w : World) (hn : n ≤ maxLen) (hm : m ≤ maxLen) (hR : RowS w a n xa) (hR' : RowS w a' m xb) (hF : Fits xa) (hF' : Fits xb) :
    Calls Try.prog 4 #[.slice a n cap, .slice a' m cap'] w fun e w' => e = .returned (.bool true) ∧ Below w.heap.size w w' := by
  obtain ⟨i0, hi, hz0, hz1, hz2⟩ := info_parts info9
  go_enter Try.func4, Try.ntmps4
  go_wp2_with (go_at_call 11; refine (sum2_any a a' n cap m cap' xa xb _ hR hR' hn hm hF hF').mono ?_)
  rintro e w' ⟨r, rfl, hw, hr⟩
  obtain rfl := hw.symm
  clear hw
  unfold maxLen at hn hm
  cases r with
  | false =>
    clear hr
    go_wp2
    go_ret
    exact ⟨rfl, Below.refl _ _⟩
  | true =>
    have hsum := hr rfl
    clear hr
    by_cases h16 : n ≤ 65536
    · by_cases h16' : m ≤ 65536
      · by_cases h16s : n + m ≤ 65536
        · go_wp2
          go_loop [5, 6] (fun t i => ∃ k q : Nat, k ≤ n ∧ q ≤ 1048576 ∧ i = .int .i64 k ∧ t = .int .i64 q) (fun _ i => n - (intOf i).toNat)
          case atStart => exact ⟨0, 16 * (n + m), Nat.zero_le _, by omega, rfl, by go_num⟩
          case round =>
            obtain ⟨k, q, hk, hq, rfl, rfl⟩ := hrel
            by_cases hkn : k < n
            · obtain ⟨b, o, rfl, hlt, hc⟩ := hR.at hkn
              have hfit := hF k
              obtain ⟨s, hs⟩ : ∃ s, s = xa.getD k ByteArray.empty := ⟨_, rfl⟩
              rw [← hs] at hc hfit
              clear hs
              unfold maxLen at hfit
              by_cases hs1 : s.size ≤ 1048576
              · by_cases hs2 : q + s.size ≤ 1048576
                · go_wp2
                  go_round
                  case rel => exact ⟨k + 1, q + s.size, by omega, hs2, by go_num, by go_num⟩
                  case measure => simp [intOf]; omega
                · go_wp2
                  go_ret
                  exact ⟨rfl, Below.refl _ _⟩
              · go_wp2
                go_ret
                exact ⟨rfl, Below.refl _ _⟩
            · obtain rfl : n = k := by omega
              go_wp2
              go_loop [5, 7] (fun t i => ∃ k q : Nat, k ≤ m ∧ q ≤ 1048576 ∧ i = .int .i64 k ∧ t = .int .i64 q) (fun _ i => m - (intOf i).toNat)
              case atStart => exact ⟨0, q, Nat.zero_le _, hq, rfl, rfl⟩
              case round =>
                obtain ⟨k, q, hk2, hq2, rfl, rfl⟩ := hrel
                by_cases hkn : k < m
                · obtain ⟨b, o, rfl, hlt, hc⟩ := hR'.at hkn
                  have hfit := hF' k
                  obtain ⟨s, hs⟩ : ∃ s, s = xb.getD k ByteArray.empty := ⟨_, rfl⟩
                  rw [← hs] at hc hfit
                  clear hs
                  unfold maxLen at hfit
                  by_cases hs1 : s.size ≤ 1048576
                  · by_cases hs2 : q + s.size ≤ 1048576
                    · go_wp2
                      go_round
                      case rel => exact ⟨k + 1, q + s.size, by omega, hs2, by go_num, by go_num⟩
                      case measure => simp [intOf]; omega
                    · go_wp2
                      go_ret
                      exact ⟨rfl, Below.refl _ _⟩
                  · go_wp2
                    go_ret
                    exact ⟨rfl, Below.refl _ _⟩
                · obtain rfl : m = k := by omega
                  have hn20 : n ≤ 1048576 := by omega
                  have hm20 : m ≤ 1048576 := by omega
                  have hta : tot xa n ≤ 1048576 := by omega
                  have htb : tot xb m ≤ 1048576 := by omega
                  go_wp2_with (go_at_call 8; refine (cloneS_any a n cap xa _ hR hn20).mono ?_)
                  rintro e w1 ⟨a1, cap1, rfl, hc1, hm1, hR1, hB1⟩
                  have hR1' := hR'.later hB1
                  clear hR hR'
                  go_wp2_with (go_at_call 8; refine (cloneS_any a' m cap' xb _ hR1' hm20).mono ?_)
                  rintro e w2 ⟨a2, cap2, rfl, hc2, hm2, hR2, hB2⟩
                  have hR3 := hR1.later hB2
                  have hB : Below w.heap.size w w2 := hB1.trans (hB2.mono hB1.size)
                  clear hR1 hR1' hB1 hB2
                  have HL : Hid (xa.length = n) := hR3.1
                  have HL' : Hid (xb.length = m) := hR2.1
                  have hb2 : i0.bytes * (n + m) ≤ 281474976710656 := by rw [hz2]; omega
                  go_wp2_with (at_make; refine wpList_make_own _ rfl _ _ 22 rfl w2.heap.size 9 i0 (.string ⟨#[]⟩) 1 Try.underlying22 hi hz0 hz1 _ _ _ (n + m) rfl rfl (by omega) hb2 (by unfold maxLen; omega) (Nat.le_refl _) ?_)
                  intro w3 hown3 hgrow3
                  have hB3 : Below w2.heap.size w2 w3 := (Below.refl _ _).grown hgrow3 (Nat.le_refl _) (fun k hk => by cases hk)
                  clear hgrow3 hb2
                  go_wp2
                  go_loopw [8, 9] (fun q i wr => ∃ k : Nat, k ≤ n ∧ i = .int .i64 k ∧ q = .slice (some ⟨w2.heap.size, 0, none⟩) k (n + m) ∧ wr.ownsRow w2.heap.size 9 1 (.slice (some ⟨w2.heap.size, 0, none⟩) k (n + m)) k ((xa.take k).map Value.string) ∧ Below w2.heap.size w2 wr)
                    (fun _ i _ => n - (intOf i).toNat)
                  case atStart => exact ⟨0, Nat.zero_le _, rfl, rfl, by simpa using hown3, hB3⟩
                  case round =>
                    obtain ⟨k, hk3, rfl, rfl, hown, hbel⟩ := hrel
                    by_cases hkl : k < n
                    · obtain ⟨b1, o1, rfl, hlt1, hcell0⟩ := hR3.at hkl
                      have hcell : wr.cell? ⟨b1, o1 + k, none⟩ = some (.string (xa.getD k ByteArray.empty)) := (hbel.cell (p := ⟨b1, o1 + k, none⟩) hlt1).trans hcell0
                      have hsn := take_snocS (show k < xa.length by rw [HL.out]; exact hkl)
                      obtain ⟨c, hcd⟩ : ∃ c, c = xa.getD k ByteArray.empty := ⟨_, rfl⟩
                      rw [← hcd] at hcell hsn
                      have HSN : Hid _ := hsn
                      clear hcell0 hcd hown3 hB3 hsn
                      go_wp2_with (at_builtin; refine wpList_append_fits _ rfl _ _ 22 rfl w2.heap.size 9 i0 1 Try.underlying22 hi hz1 w2.heap.size k (n + m) _ rfl (hown.alloc _) ⟨wr.heap.size, 0, none⟩ 1 1 [.string c] rfl rfl (cell_one_new _ _ _) ?c1 (by omega) ?_)
                      case c1 => intro u hu; simp at hu; subst hu; rfl
                      intro w4 hown' hgrow
                      have R := joined_stepS (ys := (xa.take (k + 1)).map Value.string) hbel hbel.size hown' hgrow (by rw [HSN.out, List.map_take])
                      have HR : Hid _ := R
                      clear hown' hgrow hown R hcell hbel
                      go_wp2
                      go_roundw
                      case rel => exact ⟨k + 1, by omega, by go_num, rfl, HR.out.1, HR.out.2⟩
                      case measure => simp [intOf]; omega
                    · obtain rfl : n = k := by omega
                      rw [List.take_of_length_le (Nat.le_of_eq HL.out)] at hown
                      obtain ⟨w4, hw4⟩ : ∃ w4 : World, w4 = wr := ⟨_, rfl⟩
                      subst hw4
                      clear hown3 hB3
                      go_wp2
                      go_loopw [8, 10] (fun q i wr => ∃ k : Nat, k ≤ m ∧ i = .int .i64 k ∧ q = .slice (some ⟨w2.heap.size, 0, none⟩) (n + k) (n + m) ∧ wr.ownsRow w2.heap.size 9 1 (.slice (some ⟨w2.heap.size, 0, none⟩) (n + k) (n + m)) (n + k) (xa.map Value.string ++ (xb.take k).map Value.string) ∧ Below w2.heap.size w2 wr)
                        (fun _ i _ => m - (intOf i).toNat)
                      case atStart => exact ⟨0, Nat.zero_le _, rfl, rfl, by simpa using hown, hbel⟩
                      case round =>
                        obtain ⟨k, hk4, rfl, rfl, hown2, hbel2⟩ := hrel
                        by_cases hkl' : k < m
                        · obtain ⟨b1, o1, rfl, hlt1, hcell0⟩ := hR2.at hkl'
                          have hcell : wr.cell? ⟨b1, o1 + k, none⟩ = some (.string (xb.getD k ByteArray.empty)) := (hbel2.cell (p := ⟨b1, o1 + k, none⟩) hlt1).trans hcell0
                          have hsn := take_snocS (show k < xb.length by rw [HL'.out]; exact hkl')
                          obtain ⟨c, hcd⟩ : ∃ c, c = xb.getD k ByteArray.empty := ⟨_, rfl⟩
                          rw [← hcd] at hcell hsn
                          have hsn2 : xa.map Value.string ++ (xb.take (k + 1)).map Value.string = (xa.map Value.string ++ (xb.take k).map Value.string) ++ [.string c] := by rw [hsn, List.append_assoc]
                          have HSN : Hid _ := hsn2
                          clear hcell0 hcd hown hbel hsn hsn2
                          go_wp2_with (at_builtin; refine wpList_append_fits _ rfl _ _ 22 rfl w2.heap.size 9 i0 1 Try.underlying22 hi hz1 w2.heap.size (n + k) (n + m) _ rfl (hown2.alloc _) ⟨wr.heap.size, 0, none⟩ 1 1 [.string c] rfl rfl (cell_one_new _ _ _) ?d1 (by omega) ?_)
                          case d1 => intro u hu; simp at hu; subst hu; rfl
                          intro w5 hown' hgrow
                          have R := joined_stepS (ys := xa.map Value.string ++ (xb.take (k + 1)).map Value.string) hbel2 hbel2.size hown' hgrow (by rw [HSN.out, List.append_assoc, List.map_take])
                          have HR : Hid _ := R
                          clear hown' hgrow hown2 R hcell hbel2
                          go_wp2
                          go_roundw
                          case rel => exact ⟨k + 1, by omega, by go_num, rfl, HR.out.1, HR.out.2⟩
                          case measure => simp [intOf]; omega
                        · obtain rfl : m = k := by omega
                          rw [List.take_of_length_le (Nat.le_of_eq HL'.out), ← List.map_append] at hown2
                          obtain ⟨w5, hw5⟩ : ∃ w5 : World, w5 = wr := ⟨_, rfl⟩
                          subst hw5
                          clear hown hbel
                          have hRab := rowS_at hown2
                          have hv5 := hR3.later hbel2
                          have hw5 := hR2.later hbel2
                          have hB5 : Below w.heap.size w w5 := hB.trans (hbel2.mono hB.size)
                          have htab : tot (xa ++ xb) (n + m) ≤ 1048576 := by
                            have := tot_both xa xb m
                            rw [HL.out] at this
                            omega
                          clear hown2 hR3 hR2 hB hbel2
                          go_wp2_with (go_at_call 9; refine (zjoin_any (some ⟨w2.heap.size, 0, none⟩) (n + m) (n + m) (xa ++ xb) _ hRab (by omega) htab).mono ?_)
                          rintro e w6 ⟨rfl, hB6⟩
                          have hRab6 := hRab.later hB6
                          have hv6 := hv5.later hB6
                          have hw6 := hw5.later hB6
                          have hBB6 : Below w.heap.size w w6 := hB5.trans (hB6.mono hB5.size)
                          clear hRab hv5 hw5 hB5 hB6
                          go_wp2_with (go_at_call 9; refine (zjoin_any a1 n cap1 xa _ hv6 hn20 hta).mono ?_)
                          rintro e w7 ⟨rfl, hB7⟩
                          have hRab7 := hRab6.later hB7
                          have hw7 := hw6.later hB7
                          have hBB7 : Below w.heap.size w w7 := hBB6.trans (hB7.mono hBB6.size)
                          clear hRab6 hv6 hw6 hBB6 hB7
                          go_wp2_with (go_at_call 9; refine (zjoin_any a2 m cap2 xb _ hw7 hm20 htb).mono ?_)
                          rintro e w8 ⟨rfl, hB8⟩
                          have hRab8 := hRab7.later hB8
                          have hBB8 : Below w.heap.size w w8 := hBB7.trans (hB8.mono hBB7.size)
                          clear hRab7 hw7 hBB7 hB8
                          obtain ⟨t, ht⟩ : ∃ t : ByteArray, t = ⟨(jn (xa ++ xb) (n + m)).toArray⟩ := ⟨_, rfl⟩
                          obtain ⟨ta, hta'⟩ : ∃ t : ByteArray, t = ⟨(jn xa n).toArray⟩ := ⟨_, rfl⟩
                          obtain ⟨tb, htb'⟩ : ∃ t : ByteArray, t = ⟨(jn xb m).toArray⟩ := ⟨_, rfl⟩
                          rw [← ht, ← hta', ← htb']
                          have HT : Hid (t = ⟨(jn (xa ++ xb) (n + m)).toArray⟩) := ht
                          have HTA : Hid (ta = ⟨(jn xa n).toArray⟩) := hta'
                          have HTB : Hid (tb = ⟨(jn xb m).toArray⟩) := htb'
                          have hJ := jn_both xa xb
                          rw [HL.out, HL'.out] at hJ
                          clear ht hta' htb'
                          by_cases hn0 : n = 0
                          · have e : t = tb := by
                              have h1 := HT.out; have h2 := HTB.out
                              rw [h1, h2, hJ, if_pos hn0]
                            subst e
                            have hq0 : ((n : Int) == 0) = true := by rw [beq_iff_eq]; omega
                            clear hJ HTA HTB
                            go_wp2
                            go_loopw [15, 16] (fun u i wr => ∃ k q : Nat, k ≤ n + m ∧ q ≤ 2 * tot (xa ++ xb) k ∧ i = .int .i64 k ∧ u = .int .i64 q ∧ Hid (q = jlen (xa ++ xb) k) ∧ Below w8.heap.size w8 wr) (fun _ i _ => n + m - (intOf i).toNat)
                            case atStart => exact ⟨0, 0, Nat.zero_le _, Nat.zero_le _, rfl, rfl, rfl, Below.refl _ _⟩
                            case round =>
                              obtain ⟨k, q, hk5, hq5, rfl, rfl, HQ, hbel5⟩ := hrel
                              by_cases hkm : k < n + m
                              · obtain ⟨b3, o3, hb3, hlt3, hcg⟩ := hRab8.at hkm
                                have hb3' := Option.some.inj hb3
                                have e1 : w2.heap.size = b3 := congrArg Addr.block hb3'
                                have e2 : 0 = o3 := congrArg Addr.off hb3'
                                subst e1; subst e2
                                rw [Nat.zero_add] at hcg
                                have hil := itm_length (xa ++ xb) k
                                have htk := tot_mono (xa ++ xb) (show k + 1 ≤ n + m by omega)
                                rw [tot_succ, hil] at htk
                                have hlq := jlen_le (xa ++ xb) (k + 1)
                                rw [jlen_succ, ← HQ.out, tot_succ, hil] at hlq
                                have hsl := spc_le (itm (xa ++ xb) k)
                                rw [hil] at hsl
                                obtain ⟨s, hs⟩ : ∃ s, s = (xa ++ xb).getD k ByteArray.empty := ⟨_, rfl⟩
                                have hits : itm (xa ++ xb) k = s.data.toList := by rw [hs]; rfl
                                rw [← hs] at hcg htk hlq hsl
                                rw [hits] at hlq hsl
                                have HN : Hid (q + (s.size + spc s.data.toList) = jlen (xa ++ xb) (k + 1)) := by
                                  show _ = _
                                  rw [jlen_succ, ← HQ.out, hil, hits, ← hs]
                                have hq6 : Hid (q + (s.size + spc s.data.toList) ≤ 2 * tot (xa ++ xb) (k + 1)) := by
                                  show _ ≤ _
                                  rw [tot_succ, hil, ← hs]; omega
                                have hsm : s.size ≤ maxLen := by unfold maxLen; omega
                                obtain ⟨x, hx⟩ : ∃ x, x = spc s.data.toList := ⟨_, rfl⟩
                                rw [← hx] at hlq hsl HN hq6
                                have hsp : ∀ W : World, Calls Try.prog 12 #[.string s] W fun e w' => e = .returned (.int .i64 (x : Int)) ∧ w' = W := fun W => by rw [hx]; exact specials_any s W hsm
                                have HSP : Hid (∀ W : World, Calls Try.prog 12 #[.string s] W fun e w' => e = .returned (.int .i64 (x : Int)) ∧ w' = W) := hsp
                                have hcg' : wr.cell? ⟨w2.heap.size, k, none⟩ = some (.string s) := (hbel5.cell (p := ⟨w2.heap.size, k, none⟩) hlt3).trans hcg
                                clear hs hits hcg hRab8 hil hx hsp hb3 hb3'
                                have hi1 : (k : Int) < (n : Int) + m := by omega
                                go_wp2
                                go_quiet ((go_at_call 12; exact Calls.quiet_of_same (HSP.out _)))
                                go_wp2
                                go_roundw
                                case rel => exact ⟨k + 1, q + (s.size + x), by omega, hq6.out, by go_num, by go_num, HN.out, below_drewN hbel5 _⟩
                                case measure => simp [intOf]; omega
                              · obtain rfl : k = n + m := by omega
                                have hjl := jn_length (xa ++ xb) (n + m)
                                rw [← HQ.out] at hjl
                                have hts : t.size = q + (n + m - 1) := by rw [HT.out, bar_size]; exact hjl
                                have HTS : Hid (t.size = q + (n + m - 1)) := hts
                                clear hts hjl
                                by_cases hN0 : n + m = 0
                                · have hlt0 : ¬ (0 : Int) < (n : Int) + m := by omega
                                  go_wp2
                                  go_ret
                                  exact ⟨ret_bool (by have := HTS.out; rw [beq_iff_eq]; omega), hBB8.trans (hbel5.mono hBB8.size)⟩
                                · have hlt0 : (0 : Int) < (n : Int) + m := by omega
                                  go_wp2
                                  go_ret
                                  exact ⟨ret_bool (by have := HTS.out; rw [beq_iff_eq]; omega), hBB8.trans (hbel5.mono hBB8.size)⟩
                          · have hq0 : ((n : Int) == 0) = false := by rw [beq_eq_false_iff_ne]; omega
                            by_cases hm0 : m = 0
                            · have e : t = ta := by
                                have h1 := HT.out; have h2 := HTA.out
                                rw [h1, h2, hJ, if_neg hn0, if_pos hm0]
                              subst e
                              have hq1 : ((m : Int) == 0) = true := by rw [beq_iff_eq]; omega
                              clear hJ HTA HTB
                              go_wp2
                              go_loopw [15, 16] (fun u i wr => ∃ k q : Nat, k ≤ n + m ∧ q ≤ 2 * tot (xa ++ xb) k ∧ i = .int .i64 k ∧ u = .int .i64 q ∧ Hid (q = jlen (xa ++ xb) k) ∧ Below w8.heap.size w8 wr) (fun _ i _ => n + m - (intOf i).toNat)
                              case atStart => exact ⟨0, 0, Nat.zero_le _, Nat.zero_le _, rfl, rfl, rfl, Below.refl _ _⟩
                              case round =>
                                obtain ⟨k, q, hk5, hq5, rfl, rfl, HQ, hbel5⟩ := hrel
                                by_cases hkm : k < n + m
                                · obtain ⟨b3, o3, hb3, hlt3, hcg⟩ := hRab8.at hkm
                                  have hb3' := Option.some.inj hb3
                                  have e1 : w2.heap.size = b3 := congrArg Addr.block hb3'
                                  have e2 : 0 = o3 := congrArg Addr.off hb3'
                                  subst e1; subst e2
                                  rw [Nat.zero_add] at hcg
                                  have hil := itm_length (xa ++ xb) k
                                  have htk := tot_mono (xa ++ xb) (show k + 1 ≤ n + m by omega)
                                  rw [tot_succ, hil] at htk
                                  have hlq := jlen_le (xa ++ xb) (k + 1)
                                  rw [jlen_succ, ← HQ.out, tot_succ, hil] at hlq
                                  have hsl := spc_le (itm (xa ++ xb) k)
                                  rw [hil] at hsl
                                  obtain ⟨s, hs⟩ : ∃ s, s = (xa ++ xb).getD k ByteArray.empty := ⟨_, rfl⟩
                                  have hits : itm (xa ++ xb) k = s.data.toList := by rw [hs]; rfl
                                  rw [← hs] at hcg htk hlq hsl
                                  rw [hits] at hlq hsl
                                  have HN : Hid (q + (s.size + spc s.data.toList) = jlen (xa ++ xb) (k + 1)) := by
                                    show _ = _
                                    rw [jlen_succ, ← HQ.out, hil, hits, ← hs]
                                  have hq6 : Hid (q + (s.size + spc s.data.toList) ≤ 2 * tot (xa ++ xb) (k + 1)) := by
                                    show _ ≤ _
                                    rw [tot_succ, hil, ← hs]; omega
                                  have hsm : s.size ≤ maxLen := by unfold maxLen; omega
                                  obtain ⟨x, hx⟩ : ∃ x, x = spc s.data.toList := ⟨_, rfl⟩
                                  rw [← hx] at hlq hsl HN hq6
                                  have hsp : ∀ W : World, Calls Try.prog 12 #[.string s] W fun e w' => e = .returned (.int .i64 (x : Int)) ∧ w' = W := fun W => by rw [hx]; exact specials_any s W hsm
                                  have HSP : Hid (∀ W : World, Calls Try.prog 12 #[.string s] W fun e w' => e = .returned (.int .i64 (x : Int)) ∧ w' = W) := hsp
                                  have hcg' : wr.cell? ⟨w2.heap.size, k, none⟩ = some (.string s) := (hbel5.cell (p := ⟨w2.heap.size, k, none⟩) hlt3).trans hcg
                                  clear hs hits hcg hRab8 hil hx hsp hb3 hb3'
                                  have hi1 : (k : Int) < (n : Int) + m := by omega
                                  go_wp2
                                  go_quiet ((go_at_call 12; exact Calls.quiet_of_same (HSP.out _)))
                                  go_wp2
                                  go_roundw
                                  case rel => exact ⟨k + 1, q + (s.size + x), by omega, hq6.out, by go_num, by go_num, HN.out, below_drewN hbel5 _⟩
                                  case measure => simp [intOf]; omega
                                · obtain rfl : k = n + m := by omega
                                  have hjl := jn_length (xa ++ xb) (n + m)
                                  rw [← HQ.out] at hjl
                                  have hts : t.size = q + (n + m - 1) := by rw [HT.out, bar_size]; exact hjl
                                  have HTS : Hid (t.size = q + (n + m - 1)) := hts
                                  clear hts hjl
                                  by_cases hN0 : n + m = 0
                                  · exact absurd hN0 (by omega)
                                  · have hlt0 : (0 : Int) < (n : Int) + m := by omega
                                    go_wp2
                                    go_ret
                                    exact ⟨ret_bool (by have := HTS.out; rw [beq_iff_eq]; omega), hBB8.trans (hbel5.mono hBB8.size)⟩
                            · have hq1 : ((m : Int) == 0) = false := by rw [beq_eq_false_iff_ne]; omega
                              have hct := concat_text xa xb ta tb (by rw [HL.out]; exact HTA.out) (by rw [HL'.out]; exact HTB.out) (by rw [HL.out]; omega) (by rw [HL'.out]; omega)
                              rw [HL.out, HL'.out, ← HT.out] at hct
                              have hsa := jn_le xa n
                              have hsb := jn_le xb m
                              have h1 : ta.size ≤ 3145728 := by rw [HTA.out, bar_size]; omega
                              have h2 : tb.size ≤ 3145728 := by rw [HTB.out, bar_size]; omega
                              have hs1 : (⟨#[44]⟩ : ByteArray).size = 1 := rfl
                              obtain ⟨tc, htc⟩ : ∃ tc, tc = ta ++ (⟨#[44]⟩ : ByteArray) := ⟨_, rfl⟩
                              have h3 : tc.size ≤ 3145729 := by rw [htc, ByteArray.size_append, hs1]; omega
                              have hadd1 : ∀ W, (Op.stringOp .add ta ⟨#[44]⟩).run Try.prog W = .ok (.string tc) W := fun W => by
                                rw [htc]; exact run_string_add_sum (P := Try.prog) W ta ⟨#[44]⟩ (by rw [hs1]; omega)
                              have hadd2 : ∀ W, (Op.stringOp .add tc tb).run Try.prog W = .ok (.string t) W := fun W => by
                                rw [← hct, ← htc]; exact run_string_add_sum (P := Try.prog) W tc tb (by omega)
                              clear hJ HTA HTB hct htc hs1 h1 h2 h3 hsa hsb
                              go_wp2
                              go_loopw [15, 16] (fun u i wr => ∃ k q : Nat, k ≤ n + m ∧ q ≤ 2 * tot (xa ++ xb) k ∧ i = .int .i64 k ∧ u = .int .i64 q ∧ Hid (q = jlen (xa ++ xb) k) ∧ Below w8.heap.size w8 wr) (fun _ i _ => n + m - (intOf i).toNat)
                              case atStart => exact ⟨0, 0, Nat.zero_le _, Nat.zero_le _, rfl, rfl, rfl, Below.refl _ _⟩
                              case round =>
                                obtain ⟨k, q, hk5, hq5, rfl, rfl, HQ, hbel5⟩ := hrel
                                by_cases hkm : k < n + m
                                · obtain ⟨b3, o3, hb3, hlt3, hcg⟩ := hRab8.at hkm
                                  have hb3' := Option.some.inj hb3
                                  have e1 : w2.heap.size = b3 := congrArg Addr.block hb3'
                                  have e2 : 0 = o3 := congrArg Addr.off hb3'
                                  subst e1; subst e2
                                  rw [Nat.zero_add] at hcg
                                  have hil := itm_length (xa ++ xb) k
                                  have htk := tot_mono (xa ++ xb) (show k + 1 ≤ n + m by omega)
                                  rw [tot_succ, hil] at htk
                                  have hlq := jlen_le (xa ++ xb) (k + 1)
                                  rw [jlen_succ, ← HQ.out, tot_succ, hil] at hlq
                                  have hsl := spc_le (itm (xa ++ xb) k)
                                  rw [hil] at hsl
                                  obtain ⟨s, hs⟩ : ∃ s, s = (xa ++ xb).getD k ByteArray.empty := ⟨_, rfl⟩
                                  have hits : itm (xa ++ xb) k = s.data.toList := by rw [hs]; rfl
                                  rw [← hs] at hcg htk hlq hsl
                                  rw [hits] at hlq hsl
                                  have HN : Hid (q + (s.size + spc s.data.toList) = jlen (xa ++ xb) (k + 1)) := by
                                    show _ = _
                                    rw [jlen_succ, ← HQ.out, hil, hits, ← hs]
                                  have hq6 : Hid (q + (s.size + spc s.data.toList) ≤ 2 * tot (xa ++ xb) (k + 1)) := by
                                    show _ ≤ _
                                    rw [tot_succ, hil, ← hs]; omega
                                  have hsm : s.size ≤ maxLen := by unfold maxLen; omega
                                  obtain ⟨x, hx⟩ : ∃ x, x = spc s.data.toList := ⟨_, rfl⟩
                                  rw [← hx] at hlq hsl HN hq6
                                  have hsp : ∀ W : World, Calls Try.prog 12 #[.string s] W fun e w' => e = .returned (.int .i64 (x : Int)) ∧ w' = W := fun W => by rw [hx]; exact specials_any s W hsm
                                  have HSP : Hid (∀ W : World, Calls Try.prog 12 #[.string s] W fun e w' => e = .returned (.int .i64 (x : Int)) ∧ w' = W) := hsp
                                  have hcg' : wr.cell? ⟨w2.heap.size, k, none⟩ = some (.string s) := (hbel5.cell (p := ⟨w2.heap.size, k, none⟩) hlt3).trans hcg
                                  clear hs hits hcg hRab8 hil hx hsp hb3 hb3'
                                  have hi1 : (k : Int) < (n : Int) + m := by omega
                                  go_wp2
                                  go_quiet ((go_at_call 12; exact Calls.quiet_of_same (HSP.out _)))
                                  go_wp2
                                  go_roundw
                                  case rel => exact ⟨k + 1, q + (s.size + x), by omega, hq6.out, by go_num, by go_num, HN.out, below_drewN hbel5 _⟩
                                  case measure => simp [intOf]; omega
                                · obtain rfl : k = n + m := by omega
                                  have hjl := jn_length (xa ++ xb) (n + m)
                                  rw [← HQ.out] at hjl
                                  have hts : t.size = q + (n + m - 1) := by rw [HT.out, bar_size]; exact hjl
                                  have HTS : Hid (t.size = q + (n + m - 1)) := hts
                                  clear hts hjl
                                  by_cases hN0 : n + m = 0
                                  · exact absurd hN0 (by omega)
                                  · have hlt0 : (0 : Int) < (n : Int) + m := by omega
                                    go_wp2
                                    go_ret
                                    exact ⟨ret_bool (by have := HTS.out; rw [beq_iff_eq]; omega), hBB8.trans (hbel5.mono hBB8.size)⟩
        · go_wp2
          go_ret
          exact ⟨rfl, Below.refl _ _⟩
      · go_wp2
        go_ret
        exact ⟨rfl, Below.refl _ _⟩
    · go_wp2
      go_ret
      exact ⟨rfl, Below.refl _ _⟩

end Go.Proofs.Qxb6605419a
