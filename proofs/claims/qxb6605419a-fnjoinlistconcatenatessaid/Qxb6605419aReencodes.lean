/-
  FnAlpnIDsReencodesToValue, walked.
-/
import Derived.Test.Qxb6605419aIds
import Derived.Deep.QuietTactic
import Derived.BigQuiet
import Derived.WideShapes
namespace Go.Proofs.Qxb6605419a
open Go.RowKit

theorem wf_u8 {n : Int} (h : (Lit.int .u8 n).wf = true) : 0 ≤ n ∧ n < 256 := by
  simp [Lit.wf, IntKind.min, IntKind.max, IntKind.signed, IntKind.bits] at h
  omega

/-- From the row's own reading of a slice of bytes. -/
theorem row8_cells {w : World} {x : Addr} {len cap : Nat} {zs : List Int} (hl : len ≤ cap) (hz : zs.length = cap) (hc : ∀ i, i < zs.length → w.cell? (x.add i) = some (.int .u8 (zs.getD i 0))) (hw : ∀ n ∈ zs, (Lit.int .u8 n).wf = true) :
    Row8 w (some x) len (zs.take len) := by
  refine ⟨by simp; omega, fun z hz' => wf_u8 (hw z (List.mem_of_mem_take hz')), ?_⟩
  by_cases h0 : len = 0
  · exact .inl h0
  · obtain ⟨b, off, spot⟩ := x
    have hspot : spot = none := by simpa [Addr.add] using World.cell?_spot (hc 0 (by omega))
    subst hspot
    have hc' : ∀ i, i < zs.length → w.cell? ⟨b, off + i, none⟩ = some (.int .u8 (zs.getD i 0)) := fun i hi => by rw [← WideShapes.add_plain]; exact hc i hi
    refine .inr ⟨b, off, rfl, World.block_lt_of_cell? _ _ (hc' 0 (by omega)), fun i hi => ?_⟩
    rw [hc' i (by omega)]
    simp [List.getD, hi]

set_option maxHeartbeats 1000000 in
theorem reencodes_any (a : Option Addr) (len cap : Nat) (zs : List Int) (w : World) (hlc : len ≤ cap) (hcm : cap ≤ maxLen) (hR : Row8 w a len zs) :
    Calls Try.prog 5 #[.slice a len cap] w fun e w' => e = .returned (.bool true) ∧ Below w.heap.size w w' := by
  have hlm : len ≤ maxLen := Nat.le_trans hlc hcm
  by_cases h20 : len ≤ 1048576
  · go_enter Try.func5, Try.ntmps5
    go_wp2_with (first | (go_at_call 13; refine (bytes1_any a len cap _ hlm).mono ?_; rintro e w' ⟨rfl, hw⟩; obtain rfl := hw.symm) | (go_at_call 14; refine (framed_any a len cap zs _ hR h20).mono ?_))
    rintro e w' ⟨r, rfl, hw, hr⟩
    obtain rfl := hw.symm
    clear hw
    cases r with
    | false =>
      clear hr
      go_wp2
      go_ret
      exact ⟨rfl, Below.refl _ _⟩
    | true =>
      obtain ⟨m, hm⟩ := hr rfl
      have HM : Hid (bnd zs m = len) := hm
      clear hr hm
      go_wp2_with (go_at_call 15; refine (clone_any a len cap zs _ hR h20).mono ?_)
      rintro e w1 ⟨a1, cap1, rfl, hc1, hm1, hR1, hB1⟩
      clear hR hlc hcm hlm
      go_wp2_with (go_at_call 16; refine (zids_any a1 len cap1 zs m _ hR1 h20 hc1 hm1 HM.out).mono ?_)
      rintro e w2 ⟨ag, capg, rfl, hnil, hRS, hB2⟩
      have hR2 := hR1.later hB2
      have hB : Below w.heap.size w w2 := hB1.trans (hB2.mono hB1.size)
      clear hR1 hB1 hB2 hc1 hm1
      have HNIL : Hid (ag.isNone = decide (m = 0)) := hnil
      clear hnil
      obtain ⟨z1, z2, z3⟩ := hR2
      have HZ : Hid (∀ z ∈ zs, 0 ≤ z ∧ z < 256) := z2
      have HL : Hid (zs.length = len) := z1
      clear z1 z2
      by_cases hz0 : len = 0
      · subst hz0
        have hm0 : m = 0 := by have := bnd_ge zs m; have := HM.out; omega
        subst hm0
        have hag : ag = none := by have := HNIL.out; simpa using this
        subst hag
        have hnil := fun w => Lib.run_eql_slice_nil (P := Try.prog) w 22 9 none 0 capg 0 0 Try.underlying22
        clear hRS z3
        go_wp2
        go_ret
        exact ⟨rfl, hB⟩
      · have hm0 : 0 < m := by
          rcases Nat.eq_zero_or_pos m with h | h
          · have := HM.out
            subst h
            exact absurd this.symm hz0
          · exact h
        have hlen0 : 0 < len := by omega
        obtain ⟨b1, o1, rfl, hlt1, hc1⟩ : ∃ b off, a1 = some ⟨b, off, none⟩ ∧ b < w2.heap.size ∧ ∀ i, i < len → w2.cell? ⟨b, off + i, none⟩ = some (.int .u8 (zs.getD i 0)) := by
          rcases z3 with h | h
          · exact absurd h hz0
          · exact h
        obtain ⟨y1, y3⟩ := hRS
        obtain ⟨b2, o2, rfl, hlt2, hc2⟩ : ∃ b off, ag = some ⟨b, off, none⟩ ∧ b < w2.heap.size ∧ ∀ i, i < m → w2.cell? ⟨b, off + i, none⟩ = some (.string ((idents zs m).getD i ByteArray.empty)) := by
          rcases y3 with h | h
          · omega
          · exact h
        have HC1 : Hid (∀ i, i < len → w2.cell? ⟨b1, o1 + i, none⟩ = some (.int .u8 (zs.getD i 0))) := hc1
        have HC2 : Hid (∀ i, i < m → w2.cell? ⟨b2, o2 + i, none⟩ = some (.string (ident zs i))) := fun i hi => by rw [hc2 i hi, idents_getD zs m i hi]
        have hml : m ≤ len := by have := bnd_ge zs m; have := HM.out; omega
        clear z3 y3 y1 hc1 hc2 HNIL
        have hne : ((len : Int) == 0) = false := by simp; omega
        go_wp2
        go_loopw [4, 5] (fun q i wr => ∃ k p : Nat, k ≤ m ∧ p ≤ len ∧ i = .int .i64 k ∧ q = .int .i64 p ∧ Hid (p = bnd zs k) ∧ Below w2.heap.size w2 wr) (fun _ i _ => m - (intOf i).toNat)
        case atStart => exact ⟨0, 0, Nat.zero_le _, Nat.zero_le _, rfl, rfl, rfl, Below.refl _ _⟩
        case round =>
          obtain ⟨k, p, hk, hp, rfl, rfl, HP, hbel⟩ := hrel
          by_cases hkm : k < m
          · have hnext : bnd zs (k + 1) ≤ zs.length := by rw [HL.out, ← HM.out]; exact bnd_mono zs hkm
            have hsz := ident_size zs k hnext
            have hat := fun j hj => ident_at zs k j HZ.out hnext hj
            have hbd := byte_bd HZ.out (bnd zs k)
            have hplt : p < len := by have := bnd_lt zs hkm; have := HM.out; have := HP.out; omega
            have hcell1 : wr.cell? ⟨b1, o1 + p, none⟩ = some (.int .u8 (zs.getD p 0)) := (hbel.cell (p := ⟨b1, o1 + p, none⟩) hlt1).trans (HC1.out p hplt)
            have hcell2 : wr.cell? ⟨b2, o2 + k, none⟩ = some (.string (ident zs k)) := (hbel.cell (p := ⟨b2, o2 + k, none⟩) hlt2).trans (HC2.out k hkm)
            obtain ⟨s, hs⟩ : ∃ s, s = ident zs k := ⟨_, rfl⟩
            rw [← hs] at hcell2 hsz
            have hc : zs.getD p 0 = (s.size : Int) := by rw [hsz, HP.out]; omega
            rw [hc] at hcell1
            have hs255 : s.size ≤ 255 := by omega
            have hfit : p + 1 + s.size ≤ len := by rw [bnd_succ, ← HP.out, HL.out] at hnext; have := HP.out; subst this; omega
            have HS : Hid (∀ j (hj : j < s.size), ((s[j]'hj).toNat : Int) = zs.getD (p + 1 + j) 0) := by
              intro j hj
              have := HP.out
              subst hs
              rw [this]
              exact hat j hj
            have HSZ : Hid (p + 1 + s.size = bnd zs (k + 1)) := by
              show _ = _
              rw [bnd_succ, ← HP.out, hsz, ← HP.out]
            clear hat hbd hs hc hsz hnext
            go_wp2
            obtain ⟨wo, hwo⟩ : ∃ wo : World, wo = wr := ⟨_, rfl⟩
            subst hwo
            go_loopw [7] (fun j wr => ∃ jj : Nat, jj ≤ s.size ∧ j = .int .i64 jj ∧ Below w2.heap.size w2 wr) (fun j _ => s.size - (intOf j).toNat)
            case atStart => exact ⟨0, Nat.zero_le _, rfl, hbel⟩
            case round =>
              obtain ⟨jj, hjj, rfl, hbel2⟩ := hrel
              by_cases hjl : jj < s.size
              · have hcell3 : wr.cell? ⟨b1, o1 + (p + 1 + jj), none⟩ = some (.int .u8 ((s[jj]'hjl).toNat : Int)) := by
                  rw [(hbel2.cell (p := ⟨b1, o1 + (p + 1 + jj), none⟩) hlt1), HC1.out (p + 1 + jj) (by omega), ← HS.out jj hjl]
                have hi1 : (p : Int) + 1 + jj < len := by omega
                have hi2 : (jj : Int) < s.size := by omega
                go_wp2
                go_quiet (fail)
                go_wp2
                go_roundw
                case rel => exact ⟨jj + 1, by omega, by go_num, below_drewN hbel2 _⟩
                case measure => simp [intOf]; omega
              · go_wp2
                go_roundw
                case rel => exact ⟨k + 1, p + 1 + s.size, by omega, by omega, by go_num, by go_num, HSZ.out, hbel2⟩
                case measure => simp [intOf]; omega
          · have hkm2 : k = m := by omega
            subst hkm2
            have hpl : p = len := by rw [HP.out]; exact HM.out
            subst hpl
            go_wp2
            go_ret
            exact ⟨rfl, hB.trans (hbel.mono hB.size)⟩
  · go_enter Try.func5, Try.ntmps5
    go_wp2_with (go_at_call 13; refine (bytes1_any a len cap _ hlm).mono ?_; rintro e w' ⟨rfl, hw⟩; obtain rfl := hw.symm)
    go_ret
    exact ⟨rfl, Below.refl _ _⟩

end Go.Proofs.Qxb6605419a
