/-
  FnAlpnIDsSplitsAtBoundaries, walked.
-/
import Derived.Test.Qxb6605419aReencodes
namespace Go.Proofs.Qxb6605419a
open Go.RowKit

theorem Row8.at {w : World} {a : Option Addr} {len : Nat} {zs : List Int} (h : Row8 w a len zs) {k : Nat} (hk : k < len) :
    ∃ b off, a = some ⟨b, off, none⟩ ∧ b < w.heap.size ∧ w.cell? ⟨b, off + k, none⟩ = some (.int .u8 (zs.getD k 0)) := by
  rcases h.2.2 with h0 | ⟨b, off, ha, hb, hc⟩
  · omega
  · exact ⟨b, off, ha, hb, hc k hk⟩

theorem RowS.at {w : World} {a : Option Addr} {n : Nat} {ss : List ByteArray} (h : RowS w a n ss) {k : Nat} (hk : k < n) :
    ∃ b off, a = some ⟨b, off, none⟩ ∧ b < w.heap.size ∧ w.cell? ⟨b, off + k, none⟩ = some (.string (ss.getD k ByteArray.empty)) := by
  rcases h.2 with h0 | ⟨b, off, ha, hb, hc⟩
  · omega
  · exact ⟨b, off, ha, hb, hc k hk⟩

theorem take_snocV {zs : List Int} {k : Nat} (h : k < zs.length) : (zs.take (k + 1)).map (Value.int .u8) = (zs.take k).map (Value.int .u8) ++ [Value.int .u8 (zs.getD k 0)] := by
  rw [List.take_succ_eq_append_getElem h, List.map_append]
  simp only [List.map_cons, List.map_nil, List.getD, List.getElem?_eq_getElem h, Option.getD_some]

/-- One append within the capacity, onto the row at g. -/
theorem joined_step {w wr w1 : World} {g N k : Nat} {xs ys : List Value} {c : Int} (hbel : Below g w wr) (hg : g ≤ wr.heap.size)
    (hown' : w1.ownsRow g 5 1 (.slice (some ⟨g, 0, none⟩) (k + 1) N) (k + 1) xs) (hgrow : (wr.alloc (.cells #[.int .u8 c] 5)).grownBy w1 (some g)) (hxy : ys = xs) :
    w1.ownsRow g 5 1 (.slice (some ⟨g, 0, none⟩) (k + 1) N) (k + 1) ys ∧ Below g w w1 :=
  ⟨by rw [hxy]; exact hown', (hbel.alloc hg _).grown hgrow (by simp; omega) (fun j hj => by have := Option.some.inj hj; omega)⟩

theorem row8_at {w : World} {base g n cap : Nat} {zs : List Int} (h : w.ownsRow base 5 1 (.slice (some ⟨g, 0, none⟩) n cap) n (zs.map (Value.int .u8))) (hz : ∀ z ∈ zs, 0 ≤ z ∧ z < 256) : Row8 w (some ⟨g, 0, none⟩) n zs := by
  obtain ⟨a, c, hv, _, _, hr⟩ := row8_of h hz
  simp only [Value.slice.injEq] at hv
  rw [hv.1]
  exact hr

set_option maxHeartbeats 2000000 in
theorem splits_any (a a' : Option Addr) (len cap len' cap' : Nat) (zs ys : List Int) (w : World) (hlc : len ≤ cap) (hcm : cap ≤ maxLen) (hlc' : len' ≤ cap') (hcm' : cap' ≤ maxLen) (hR : Row8 w a len zs) (hR' : Row8 w a' len' ys) :
    Calls Try.prog 6 #[.slice a len cap, .slice a' len' cap'] w fun e w' => e = .returned (.bool true) ∧ Below w.heap.size w w' := by
  have hlm : len ≤ maxLen := Nat.le_trans hlc hcm
  have hlm' : len' ≤ maxLen := Nat.le_trans hlc' hcm'
  obtain ⟨i0, hi, hz0, hz1, hz2⟩ := info_parts info5
  by_cases h20 : len + len' ≤ 1048576
  · have hl1 : len ≤ 1048576 := by omega
    have hl2 : len' ≤ 1048576 := by omega
    go_enter Try.func6, Try.ntmps6
    go_wp2_with (first | (go_at_call 17; refine (bytes2_any a a' len cap len' cap' _ hlm hlm').mono ?_; rintro e w' ⟨rfl, hw⟩; obtain rfl := hw.symm) | (go_at_call 14; refine (framed_any a len cap zs _ hR hl1).mono ?_))
    rintro e w' ⟨r, rfl, hw, hr⟩
    obtain rfl := hw.symm
    clear hw
    cases r with
    | false =>
      clear hr
      go_wp2
      go_ret
      exact ⟨rfl, Below.refl _ _⟩
    | true =>
      obtain ⟨mv, hmv⟩ := hr rfl
      have HMV : Hid (bnd zs mv = len) := hmv
      clear hr hmv
      go_wp2_with (go_at_call 14; refine (framed_any a' len' cap' ys _ hR' hl2).mono ?_)
      rintro e w' ⟨r, rfl, hw, hr⟩
      obtain rfl := hw.symm
      clear hw
      cases r with
      | false =>
        clear hr
        go_wp2
        go_ret
        exact ⟨rfl, Below.refl _ _⟩
      | true =>
        obtain ⟨mw, hmw⟩ := hr rfl
        have HMW : Hid (bnd ys mw = len') := hmw
        clear hr hmw
        go_wp2_with (go_at_call 15; refine (clone_any a len cap zs _ hR hl1).mono ?_)
        rintro e w1 ⟨a1, cap1, rfl, hc1, hm1, hR1, hB1⟩
        have hR1' := hR'.later hB1
        clear hR hR' hlc hcm hlm
        go_wp2_with (go_at_call 15; refine (clone_any a' len' cap' ys _ hR1' hl2).mono ?_)
        rintro e w2 ⟨a2, cap2, rfl, hc2, hm2, hR2, hB2⟩
        have hR3 := hR1.later hB2
        have hB : Below w.heap.size w w2 := hB1.trans (hB2.mono hB1.size)
        clear hR1 hR1' hB1 hB2 hlc' hcm' hlm'
        have hb2 : i0.bytes * (len + len') ≤ 281474976710656 := by rw [hz2]; omega
        go_wp2_with (at_make; refine wpList_make_own _ rfl _ _ 30 rfl w2.heap.size 5 i0 (.int .u8 0) 1 Try.underlying30 hi hz0 hz1 _ _ _ (len + len') rfl rfl (by omega) hb2 (by unfold maxLen; omega) (Nat.le_refl _) ?_)
        intro w3 hown3 hgrow3
        have hB3 : Below w2.heap.size w2 w3 := (Below.refl _ _).grown hgrow3 (Nat.le_refl _) (fun k hk => by cases hk)
        clear hgrow3 hb2
        go_wp2
        go_loopw [5, 6] (fun q i wr => ∃ k : Nat, k ≤ len ∧ i = .int .i64 k ∧ q = .slice (some ⟨w2.heap.size, 0, none⟩) k (len + len') ∧ wr.ownsRow w2.heap.size 5 1 (.slice (some ⟨w2.heap.size, 0, none⟩) k (len + len')) k ((zs.take k).map (Value.int .u8)) ∧ Below w2.heap.size w2 wr)
          (fun _ i _ => len - (intOf i).toNat)
        case atStart => exact ⟨0, Nat.zero_le _, rfl, rfl, by simpa using hown3, hB3⟩
        case round =>
          obtain ⟨k, hk, rfl, rfl, hown, hbel⟩ := hrel
          by_cases hkl : k < len
          · obtain ⟨b1, o1, rfl, hlt1, hcell0⟩ := hR3.at hkl
            have hcell : wr.cell? ⟨b1, o1 + k, none⟩ = some (.int .u8 (zs.getD k 0)) := (hbel.cell (p := ⟨b1, o1 + k, none⟩) hlt1).trans hcell0
            have hsn := take_snocV (show k < zs.length by rw [hR3.1]; exact hkl)
            obtain ⟨c, hcd⟩ : ∃ c, c = zs.getD k 0 := ⟨_, rfl⟩
            rw [← hcd] at hcell hsn
            have HSN : Hid _ := hsn
            clear hcell0 hcd hown3 hB3 hsn
            go_wp2_with (at_builtin; refine wpList_append_fits _ rfl _ _ 30 rfl w2.heap.size 5 i0 1 Try.underlying30 hi hz1 w2.heap.size k (len + len') _ rfl (hown.alloc _) ⟨wr.heap.size, 0, none⟩ 1 1 [.int .u8 c] rfl rfl (cell_one_new _ _ _) ?c1 (by omega) ?_)
            case c1 => intro u hu; simp at hu; subst hu; rfl
            intro w4 hown' hgrow
            have R := joined_step (ys := (zs.take (k + 1)).map (Value.int .u8)) hbel hbel.size hown' hgrow (by rw [HSN.out, List.map_take])
            have HR : Hid _ := R
            clear hown' hgrow hown R hcell hbel
            go_wp2
            go_roundw
            case rel => exact ⟨k + 1, by omega, by go_num, rfl, HR.out.1, HR.out.2⟩
            case measure => simp [intOf]; omega
          · obtain rfl : len = k := by omega
            rw [List.take_of_length_le (Nat.le_of_eq hR3.1)] at hown
            obtain ⟨w4, hw4⟩ : ∃ w4 : World, w4 = wr := ⟨_, rfl⟩
            subst hw4
            clear hown3 hB3
            go_wp2
            go_loopw [5, 7] (fun q i wr => ∃ k : Nat, k ≤ len' ∧ i = .int .i64 k ∧ q = .slice (some ⟨w2.heap.size, 0, none⟩) (len + k) (len + len') ∧ wr.ownsRow w2.heap.size 5 1 (.slice (some ⟨w2.heap.size, 0, none⟩) (len + k) (len + len')) (len + k) (zs.map (Value.int .u8) ++ (ys.take k).map (Value.int .u8)) ∧ Below w2.heap.size w2 wr)
              (fun _ i _ => len' - (intOf i).toNat)
            case atStart => exact ⟨0, Nat.zero_le _, rfl, rfl, by simpa using hown, hbel⟩
            case round =>
              obtain ⟨k, hk', rfl, rfl, hown2, hbel2⟩ := hrel
              by_cases hkl' : k < len'
              · obtain ⟨b1, o1, rfl, hlt1, hcell0⟩ := hR2.at hkl'
                have hcell : wr.cell? ⟨b1, o1 + k, none⟩ = some (.int .u8 (ys.getD k 0)) := (hbel2.cell (p := ⟨b1, o1 + k, none⟩) hlt1).trans hcell0
                have hsn := take_snocV (show k < ys.length by rw [hR2.1]; exact hkl')
                obtain ⟨c, hcd⟩ : ∃ c, c = ys.getD k 0 := ⟨_, rfl⟩
                rw [← hcd] at hcell hsn
                have hsn2 : zs.map (Value.int .u8) ++ (ys.take (k + 1)).map (Value.int .u8) = (zs.map (Value.int .u8) ++ (ys.take k).map (Value.int .u8)) ++ [.int .u8 c] := by rw [hsn, List.append_assoc]
                have HSN : Hid _ := hsn2
                clear hcell0 hcd hown hbel hsn hsn2
                go_wp2_with (at_builtin; refine wpList_append_fits _ rfl _ _ 30 rfl w2.heap.size 5 i0 1 Try.underlying30 hi hz1 w2.heap.size (len + k) (len + len') _ rfl (hown2.alloc _) ⟨wr.heap.size, 0, none⟩ 1 1 [.int .u8 c] rfl rfl (cell_one_new _ _ _) ?d1 (by omega) ?_)
                case d1 => intro u hu; simp at hu; subst hu; rfl
                intro w5 hown' hgrow
                have R := joined_step (ys := zs.map (Value.int .u8) ++ (ys.take (k + 1)).map (Value.int .u8)) hbel2 hbel2.size hown' hgrow (by rw [HSN.out, List.append_assoc, List.map_take])
                have HR : Hid _ := R
                clear hown' hgrow hown2 R hcell hbel2
                go_wp2
                go_roundw
                case rel => exact ⟨k + 1, by omega, by go_num, rfl, HR.out.1, HR.out.2⟩
                case measure => simp [intOf]; omega
              · obtain rfl : len' = k := by omega
                rw [List.take_of_length_le (Nat.le_of_eq hR2.1), ← List.map_append] at hown2
                obtain ⟨w5, hw5⟩ : ∃ w5 : World, w5 = wr := ⟨_, rfl⟩
                subst hw5
                clear hown hbel
                have hRvw := row8_at hown2 (fun z hz => by
                  rcases List.mem_append.1 hz with h | h
                  · exact hR3.2.1 z h
                  · exact hR2.2.1 z h)
                have hv5 := hR3.later hbel2
                have hw5 := hR2.later hbel2
                have hB5 : Below w.heap.size w w5 := hB.trans (hbel2.mono hB.size)
                have HMM : Hid (bnd (zs ++ ys) (mv + mw) = len + len') := by
                  show _ = _
                  rw [bnd_append_right zs ys mv (by rw [HMV.out, hR3.1]) mw, HMW.out, hR3.1]
                have HL : Hid (zs.length = len) := hR3.1
                have HL' : Hid (ys.length = len') := hR2.1
                clear hown2 hR3 hR2 hB hbel2
                go_wp2_with (go_at_call 16; refine (zids_any (some ⟨w2.heap.size, 0, none⟩) (len + len') (len + len') (zs ++ ys) (mv + mw) _ hRvw h20 (Nat.le_refl _) (by unfold maxLen; omega) HMM.out).mono ?_)
                rintro e w6 ⟨ag, capg, rfl, hng, hRg, hB6⟩
                have hv6 := hv5.later hB6
                have hw6 := hw5.later hB6
                have hBB6 : Below w.heap.size w w6 := hB5.trans (hB6.mono hB5.size)
                have HNG : Hid (ag.isNone = decide (mv + mw = 0)) := hng
                clear hRvw hv5 hw5 hB5 hB6 hng
                go_wp2_with (go_at_call 16; refine (zids_any a1 len cap1 zs mv _ hv6 hl1 hc1 hm1 HMV.out).mono ?_)
                rintro e w7 ⟨agv, capgv, rfl, hngv, hRgv, hB7⟩
                have hw7 := hw6.later hB7
                have hRg7 := hRg.later hB7
                have hBB7 : Below w.heap.size w w7 := hBB6.trans (hB7.mono hBB6.size)
                clear hv6 hw6 hngv hRg hBB6 hB7
                go_wp2_with (go_at_call 16; refine (zids_any a2 len' cap2 ys mw _ hw7 hl2 hc2 hm2 HMW.out).mono ?_)
                rintro e w8 ⟨agw, capgw, rfl, hngw, hRgw, hB8⟩
                have hRg8 := hRg7.later hB8
                have hRgv8 := hRgv.later hB8
                have hBB8 : Below w.heap.size w w8 := hBB7.trans (hB8.mono hBB7.size)
                clear hw7 hngw hRg7 hRgv hBB7 hB8
                have hmv : mv ≤ len := by have := bnd_ge zs mv; have := HMV.out; omega
                have hmw : mw ≤ len' := by have := bnd_ge ys mw; have := HMW.out; omega
                have hnil := fun w => Lib.run_eql_slice_nil (P := Try.prog) w 22 9 ag (mv + mw) capg 0 0 Try.underlying22
                go_wp2
                go_loopw [11] (fun i wr => ∃ k : Nat, k ≤ mv ∧ i = .int .i64 k ∧ Below w8.heap.size w8 wr) (fun i _ => mv - (intOf i).toNat)
                case atStart => exact ⟨0, Nat.zero_le _, rfl, Below.refl _ _⟩
                case round =>
                  obtain ⟨k, hk3, rfl, hbel3⟩ := hrel
                  by_cases hkm : k < mv
                  · obtain ⟨b3, o3, rfl, hlt3, hcg⟩ := hRg8.at (show k < mv + mw by omega)
                    obtain ⟨b4, o4, rfl, hlt4, hcv⟩ := hRgv8.at hkm
                    rw [idents_getD _ _ _ (by omega), ident_append_left zs ys mv (by rw [HMV.out, HL.out]; exact Nat.le_refl _) k hkm] at hcg
                    rw [idents_getD _ _ _ hkm] at hcv
                    obtain ⟨s, hs⟩ : ∃ s, s = ident zs k := ⟨_, rfl⟩
                    rw [← hs] at hcg hcv
                    have hcg' : wr.cell? ⟨b3, o3 + k, none⟩ = some (.string s) := (hbel3.cell (p := ⟨b3, o3 + k, none⟩) hlt3).trans hcg
                    have hcv' : wr.cell? ⟨b4, o4 + k, none⟩ = some (.string s) := (hbel3.cell (p := ⟨b4, o4 + k, none⟩) hlt4).trans hcv
                    clear hs hcg hcv hRg8 hRgv8 hRgw
                    have hi1 : (k : Int) < (mv : Int) + mw := by omega
                    have hi2 : (k : Int) < mv := by omega
                    go_wp2
                    go_quiet (fail)
                    go_wp2
                    go_roundw
                    case rel => exact ⟨k + 1, by omega, by go_num, below_drewN hbel3 _⟩
                    case measure => simp [intOf]; omega
                  · obtain rfl : mv = k := by omega
                    obtain ⟨w9, hw9⟩ : ∃ w9 : World, w9 = wr := ⟨_, rfl⟩
                    subst hw9
                    go_wp2
                    go_loopw [12] (fun i wr => ∃ k : Nat, k ≤ mw ∧ i = .int .i64 k ∧ Below w8.heap.size w8 wr) (fun i _ => mw - (intOf i).toNat)
                    case atStart => exact ⟨0, Nat.zero_le _, rfl, hbel3⟩
                    case round =>
                      obtain ⟨k, hk4, rfl, hbel4⟩ := hrel
                      by_cases hkm : k < mw
                      · obtain ⟨b3, o3, rfl, hlt3, hcg⟩ := hRg8.at (show mv + k < mv + mw by omega)
                        obtain ⟨b4, o4, rfl, hlt4, hcv⟩ := hRgw.at hkm
                        rw [idents_getD _ _ _ (by omega), ident_append_right zs ys mv (by rw [HMV.out, HL.out]) k] at hcg
                        rw [idents_getD _ _ _ hkm] at hcv
                        obtain ⟨s, hs⟩ : ∃ s, s = ident ys k := ⟨_, rfl⟩
                        rw [← hs] at hcg hcv
                        have hcg' : wr.cell? ⟨b3, o3 + (mv + k), none⟩ = some (.string s) := (hbel4.cell (p := ⟨b3, o3 + (mv + k), none⟩) hlt3).trans hcg
                        have hcv' : wr.cell? ⟨b4, o4 + k, none⟩ = some (.string s) := (hbel4.cell (p := ⟨b4, o4 + k, none⟩) hlt4).trans hcv
                        clear hs hcg hcv hRg8 hRgv8 hRgw hbel3
                        have hi1 : (mv : Int) + k < (mv : Int) + mw := by omega
                        have hi2 : (k : Int) < mw := by omega
                        go_wp2
                        go_quiet (fail)
                        go_wp2
                        go_roundw
                        case rel => exact ⟨k + 1, by omega, by go_num, below_drewN hbel4 _⟩
                        case measure => simp [intOf]; omega
                      · obtain rfl : mw = k := by omega
                        obtain ⟨w10, hw10⟩ : ∃ w10 : World, w10 = wr := ⟨_, rfl⟩
                        subst hw10
                        clear hRgv8 hRgw hbel3
                        obtain ⟨r, hr⟩ : ∃ r : Bool, r = decide (mv + mw = 0) := ⟨_, rfl⟩
                        have hag : ag.isNone = r := by rw [HNG.out, hr]
                        have hll : ((len : Int) + (len' : Int) == 0) = r := by
                          have h1 := HMM.out
                          have h2 := bnd_ge (zs ++ ys) (mv + mw)
                          rw [hr]
                          by_cases h0 : mv + mw = 0
                          · rw [h0] at h1
                            have h3 : (0 : Nat) = len + len' := h1
                            rw [decide_eq_true h0, beq_iff_eq]; omega
                          · rw [decide_eq_false h0, beq_eq_false_iff_ne]; omega
                        clear hr
                        go_wp2
                        go_loopw [13, 14] (fun u i wr => ∃ k p : Nat, k ≤ mv + mw ∧ p ≤ len + len' ∧ i = .int .i64 k ∧ u = .int .i64 p ∧ Hid (p = bnd (zs ++ ys) k) ∧ Below w8.heap.size w8 wr) (fun _ i _ => mv + mw - (intOf i).toNat)
                        case atStart => exact ⟨0, 0, Nat.zero_le _, Nat.zero_le _, rfl, rfl, rfl, hbel4⟩
                        case round =>
                          obtain ⟨k, p, hk5, hp5, rfl, rfl, HP, hbel5⟩ := hrel
                          by_cases hkm : k < mv + mw
                          · obtain ⟨b3, o3, rfl, hlt3, hcg⟩ := hRg8.at hkm
                            rw [idents_getD _ _ _ hkm] at hcg
                            have hnext : bnd (zs ++ ys) (k + 1) ≤ (zs ++ ys).length := by
                              rw [List.length_append, HL.out, HL'.out, ← HMM.out]; exact bnd_mono _ hkm
                            have hsz := ident_size (zs ++ ys) k hnext
                            obtain ⟨s, hs⟩ : ∃ s, s = ident (zs ++ ys) k := ⟨_, rfl⟩
                            rw [← hs] at hcg hsz
                            have HN : Hid (p + (1 + s.size) = bnd (zs ++ ys) (k + 1)) := by
                              show _ = _
                              rw [bnd_succ, ← hsz, ← HP.out, Nat.add_assoc]
                            have hfit : p + (1 + s.size) ≤ len + len' := by
                              rw [HN.out]
                              rw [List.length_append, HL.out, HL'.out] at hnext
                              exact hnext
                            have hcg' : wr.cell? ⟨b3, o3 + k, none⟩ = some (.string s) := (hbel5.cell (p := ⟨b3, o3 + k, none⟩) hlt3).trans hcg
                            clear hs hcg hRg8 hsz hnext hbel4 hag hll hnil
                            have hi1 : (k : Int) < (mv : Int) + mw := by omega
                            go_wp2
                            go_roundw
                            case rel => exact ⟨k + 1, p + (1 + s.size), by omega, by omega, by go_num, by go_num, HN.out, hbel5⟩
                            case measure => simp [intOf]; omega
                          · have hpl : p = len + len' := by
                              rw [HP.out, ← HMM.out]
                              congr 1
                              omega
                            subst hpl
                            go_wp2
                            go_ret
                            exact ⟨rfl, hBB8.trans (hbel5.mono hBB8.size)⟩
  · go_enter Try.func6, Try.ntmps6
    go_wp2_with (go_at_call 17; refine (bytes2_any a a' len cap len' cap' _ hlm hlm').mono ?_; rintro e w' ⟨rfl, hw⟩; obtain rfl := hw.symm)
    go_ret
    exact ⟨rfl, Below.refl _ _⟩

end Go.Proofs.Qxb6605419a
