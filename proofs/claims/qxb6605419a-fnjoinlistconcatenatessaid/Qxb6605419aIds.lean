/-
  alpnIDs: the pieces, in order.
-/
import Derived.Test.Qxb6605419aClone
namespace Go.Proofs.Qxb6605419a
open Go.RowKit

/-- A slice of strings as a walk is told of it. -/
def RowS (w : World) (a : Option Addr) (n : Nat) (ss : List ByteArray) : Prop :=
  ss.length = n ∧ (n = 0 ∨ ∃ b off, a = some ⟨b, off, none⟩ ∧ b < w.heap.size ∧ ∀ i, i < n → w.cell? ⟨b, off + i, none⟩ = some (.string (ss.getD i ByteArray.empty)))

theorem RowS.later {w w' : World} {a : Option Addr} {n : Nat} {ss : List ByteArray} (h : RowS w a n ss) (hb : Below w.heap.size w w') : RowS w' a n ss := by
  obtain ⟨h1, h3⟩ := h
  refine ⟨h1, ?_⟩
  rcases h3 with h3 | ⟨b, off, ha, hlt, hc⟩
  · exact .inl h3
  · exact .inr ⟨b, off, ha, Nat.lt_of_lt_of_le hlt hb.size, fun i hi => (hb.cell (p := ⟨b, off + i, none⟩) hlt).trans (hc i hi)⟩

theorem rowS_of {w : World} {base : Nat} {v : Value} {n : Nat} {ss : List ByteArray} (h : w.ownsRow base 9 1 v n (ss.map Value.string)) :
    ∃ a cap, v = .slice a n cap ∧ n ≤ cap ∧ cap ≤ maxLen ∧ RowS w a n ss := by
  obtain ⟨h1, h2⟩ := h
  have hn : ss.length = n := by simpa using h1
  rcases h2 with ⟨rfl, rfl⟩ | ⟨g, cap, cur, rfl, hg, hh, hnc, hcm, hcs, htake⟩
  · exact ⟨none, 0, rfl, Nat.le_refl _, Nat.zero_le _, hn, .inl rfl⟩
  · refine ⟨_, cap, rfl, hnc, hcm, hn, .inr ⟨g, 0, rfl, (Array.getElem?_eq_some_iff.1 hh).1, fun i hi => ?_⟩⟩
    have hown : w.ownsRow base 9 1 (.slice (some ⟨g, 0, none⟩) n cap) n (ss.map Value.string) := ⟨h1, .inr ⟨g, cap, cur, rfl, hg, hh, hnc, hcm, hcs, htake⟩⟩
    rw [Nat.zero_add, hown.cellAt i (by omega)]
    simp [List.getD, List.getElem?_eq_getElem (show i < ss.length by omega)]

/-- What alpnIDs leaves. -/
def IdsEnd (zs : List Int) (m : Nat) (w : World) (e : Ending) (w' : World) : Prop :=
  ∃ a cap, e = .returned (.slice a m cap) ∧ a.isNone = decide (m = 0) ∧ RowS w' a m (idents zs m) ∧ Below w.heap.size w w'

theorem ids_step {zs : List Int} {k p : Nat} {c : Int} {s : ByteArray} {w wr w1 : World} {v v' : Value} (hc : c = zs.getD p 0) (hp : p = bnd zs k) (hs : s = ident zs k)
    (hown : wr.ownsRow w.heap.size 9 1 v k ((idents zs k).map Value.string)) (hbel : Below w.heap.size w wr)
    (hown' : w1.ownsRow w.heap.size 9 1 v' (k + 1) ((idents zs k).map Value.string ++ [.string s])) (hgrow : (wr.alloc (.cells #[.string s] 9)).grownBy w1 v.ownBlock) :
    w1.ownsRow w.heap.size 9 1 v' (k + 1) ((idents zs (k + 1)).map Value.string) ∧ Below w.heap.size w w1 ∧ Hid (p + 1 + c.toNat = bnd zs (k + 1)) := by
  refine ⟨?_, ?_, ?_⟩
  · rw [idents_succ, ← hs]
    simpa using hown'
  · exact (hbel.alloc hbel.size _).grown hgrow (by have := hbel.size; simp; omega) (fun j hj => (hown.lt j hj).1)
  · show _ = _
    rw [bnd_succ, ← hp, ← hc]

theorem ids_end {w : World} {base : Nat} {v : Value} {k : Nat} {zs : List Int} (h : w.ownsRow base 9 1 v k ((idents zs k).map Value.string)) (hn : k = 0 → v = .slice none 0 0) :
    ∃ a cap, v = .slice a k cap ∧ a.isNone = decide (k = 0) ∧ RowS w a k (idents zs k) := by
  obtain ⟨a, cap, rfl, _, _, hr⟩ := rowS_of h
  refine ⟨a, cap, rfl, ?_, hr⟩
  by_cases hk : k = 0
  · have := hn hk
    simp only [Value.slice.injEq] at this
    simp [this.1, hk]
  · rcases hr.2 with h0 | ⟨b, off, rfl, _⟩
    · exact absurd h0 hk
    · simp [hk]

set_option maxHeartbeats 400000 in
theorem ids_any (a : Option Addr) (len cap : Nat) (zs : List Int) (m : Nat) (w : World) (hR : Row8 w a len zs) (hl : len ≤ 1048576) (hcap : len ≤ cap) (hcm : cap ≤ maxLen) (hm : bnd zs m = len) :
    Calls Try.prog 19 #[.slice a len cap] w fun e w' => IdsEnd zs m w e w' := by
  obtain ⟨i0, hi, hz0, hz1, hz2⟩ := info_parts info9
  obtain ⟨h1, h2, h3⟩ := hR
  unfold maxLen at hcm
  have HM : Hid (bnd zs m = len) := hm
  have HZ : Hid (∀ z ∈ zs, 0 ≤ z ∧ z < 256) := h2
  have HL : Hid (zs.length = len) := h1
  clear hm h2 h1
  rcases h3 with h3 | ⟨b, off, rfl, hlt, hc⟩
  · subst h3
    go_enter Try.func19, Try.ntmps19
    go_wp2
    refine wp_loop_rounds 1 ?_
    rw [rounds_succ]
    go_wp2
    go_ret
    have hm0 : m = 0 := by have := bnd_ge zs m; have := HM.out; omega
    subst hm0
    exact ⟨none, 0, rfl, rfl, ⟨rfl, .inl rfl⟩, Below.refl _ _⟩
  · have HC : Hid (∀ i, i < len → w.cell? ⟨b, off + i, none⟩ = some (.int .u8 (zs.getD i 0))) := hc
    clear hc
    go_enter Try.func19, Try.ntmps19
    go_wp2
    go_loopw [3, 4] (fun v i wr => ∃ k p : Nat, k ≤ m ∧ p ≤ len ∧ i = .int .i64 p ∧ Hid (p = bnd zs k) ∧ wr.ownsRow w.heap.size 9 1 v k ((idents zs k).map Value.string) ∧ Below w.heap.size w wr ∧ Hid (k = 0 → v = .slice none 0 0))
      (fun _ i _ => len - (intOf i).toNat)
    case atStart => exact ⟨0, 0, Nat.zero_le _, Nat.zero_le _, rfl, rfl, World.ownsRow_nil _ _ _ _, Below.refl _ _, fun _ => rfl⟩
    case round =>
      obtain ⟨k, p, hk, hp, rfl, HP, hown, hbel, HN⟩ := hrel
      by_cases hlt2 : p < len
      · have hcell : wr.cell? ⟨b, off + p, none⟩ = some (.int .u8 (zs.getD p 0)) := (hbel.cell (p := ⟨b, off + p, none⟩) hlt).trans (HC.out p hlt2)
        have hb := byte_bd HZ.out p
        have hkm : k < m := by
          rcases Nat.lt_or_ge k m with h | h
          · exact h
          · have := bnd_mono zs h
            have := HM.out; have := HP.out; omega
        have hfit : (p : Int) + 1 + zs.getD p 0 ≤ len := by
          have h1 := bnd_mono zs (show k + 1 ≤ m from hkm)
          rw [bnd_succ, ← HP.out, HM.out] at h1
          omega
        obtain ⟨c, hcd⟩ : ∃ c, c = zs.getD p 0 := ⟨_, rfl⟩
        rw [← hcd] at hcell hb hfit
        have HCD : Hid (c = zs.getD p 0) := hcd
        clear hcd
        have hps : (bnd zs k + 1 + (zs.getD (bnd zs k) 0).toNat) ≤ zs.length := by
          have := HP.out; have := HCD.out; have := HL.out
          subst p; omega
        obtain ⟨s, hsd⟩ : ∃ s, s = ident zs k := ⟨_, rfl⟩
        have hn : (((p : Int) + 1 + c).toNat - (p + 1)) = c.toNat := by omega
        have hcv1 : ∀ cp, (convert 30 9 (.slice (some ⟨b, off + (p + 1), none⟩) (((p : Int) + 1 + c).toNat - (p + 1)) cp)).run Try.prog wr = .ok (.string s) wr := by
          intro cp
          rw [hn, hsd]
          have hp' := HP.out; have hc' := HCD.out; have hl' := HL.out
          unfold ident
          rw [← hp', ← hc']
          refine run_convert_bytes_arg (P := Try.prog) wr 30 5 Try.underlying30 Try.underlying5 b (off + (p + 1)) c.toNat cp _ ?_ ?_ 9 Try.underlying9
          · rw [List.length_take, List.length_drop]; omega
          · intro i hi'
            rw [Nat.add_assoc, (hbel.cell (p := ⟨b, off + (p + 1 + i), none⟩) hlt), HC.out (p + 1 + i) (by omega)]
            simp [List.getD, List.getElem?_drop, hi']
        have hcv2 : c ≤ 0 → ∀ cp, (convert 30 9 (.slice (some ⟨b, off, none⟩) (((p : Int) + 1 + c).toNat - (p + 1)) cp)).run Try.prog wr = .ok (.string s) wr := by
          intro hc0 cp
          have e0 : c.toNat = 0 := by omega
          rw [hn, hsd, e0]
          have hp' := HP.out; have hc' := HCD.out
          unfold ident
          rw [← hp', ← hc', e0, List.take_zero]
          exact run_convert_bytes_arg (P := Try.prog) wr 30 5 Try.underlying30 Try.underlying5 b off 0 cp [] rfl (fun i hi' => absurd hi' (Nat.not_lt_zero _)) 9 Try.underlying9
        have HSD : Hid (s = ident zs k) := hsd
        clear hsd hps hn
        have hkl : k < 1048576 := by
          have := bnd_ge zs k; have := HP.out; omega
        by_cases hcp : cap ≤ p + 1
        · have hc00 : c ≤ 0 := by omega
          have hcv3 := hcv2 hc00
          clear hcv2
          go_wp2_with (at_builtin; refine wpList_append_own _ rfl _ _ 22 rfl w.heap.size 9 i0 (.string ⟨#[]⟩) 1 16 Try.underlying22 hi hz0 hz1 hz2 rfl (by decide) _ _ _ rfl (hown.alloc _) ⟨wr.heap.size, 0, none⟩ 1 1 [.string s] rfl rfl (cell_one_new _ _ _) ?c2 ?c3 ?c4 ?c5 ?_)
          case c2 => intro u hu; simp at hu; subst hu; rfl
          case c3 => unfold maxLen; omega
          case c4 => omega
          case c5 => have := hbel.size; simp; omega
          intro v' w1 hown' hgrow _
          have R := ids_step HCD.out HP.out HSD.out hown hbel hown' hgrow
          have hcell1 : w1.cell? ⟨b, off + p, none⟩ = some (.int .u8 c) := (R.2.1.cell (p := ⟨b, off + p, none⟩) hlt).trans ((hbel.cell (p := ⟨b, off + p, none⟩) hlt).symm.trans hcell)
          have HR : Hid _ := R
          clear R hown hown' hgrow hcell hbel
          go_wp2
          go_roundw
          case rel => exact ⟨k + 1, p + 1 + c.toNat, by omega, by omega, by go_num, HR.out.2.2, HR.out.1, HR.out.2.1, fun h => by cases h⟩
          case measure => simp [intOf]; omega
        · go_wp2_with (at_builtin; refine wpList_append_own _ rfl _ _ 22 rfl w.heap.size 9 i0 (.string ⟨#[]⟩) 1 16 Try.underlying22 hi hz0 hz1 hz2 rfl (by decide) _ _ _ rfl (hown.alloc _) ⟨wr.heap.size, 0, none⟩ 1 1 [.string s] rfl rfl (cell_one_new _ _ _) ?d2 ?d3 ?d4 ?d5 ?_)
          case d2 => intro u hu; simp at hu; subst hu; rfl
          case d3 => unfold maxLen; omega
          case d4 => omega
          case d5 => have := hbel.size; simp; omega
          intro v' w1 hown' hgrow _
          have R := ids_step HCD.out HP.out HSD.out hown hbel hown' hgrow
          have hcell1 : w1.cell? ⟨b, off + p, none⟩ = some (.int .u8 c) := (R.2.1.cell (p := ⟨b, off + p, none⟩) hlt).trans ((hbel.cell (p := ⟨b, off + p, none⟩) hlt).symm.trans hcell)
          have HR : Hid _ := R
          clear R hown hown' hgrow hcell hbel
          go_wp2
          go_roundw
          case rel => exact ⟨k + 1, p + 1 + c.toNat, by omega, by omega, by go_num, HR.out.2.2, HR.out.1, HR.out.2.1, fun h => by cases h⟩
          case measure => simp [intOf]; omega
      · have hkm : k = m := by
          rcases Nat.lt_or_ge k m with h | h
          · have := bnd_lt zs h
            have := HM.out; have := HP.out; omega
          · omega
        subst hkm
        have HO : Hid _ := ids_end hown HN.out
        have HB : Hid _ := hbel
        clear hown hbel HN
        go_wp2
        go_ret
        obtain ⟨a', cap', hv, q1, q2⟩ := HO.out
        have hv' : u3 = _ := hv
        show IdsEnd zs k w (.returned u3) wr
        rw [hv']
        exact ⟨a', cap', rfl, q1, q2, HB.out⟩

set_option maxHeartbeats 400000 in
theorem zids_any (a : Option Addr) (len cap : Nat) (zs : List Int) (m : Nat) (w : World) (hR : Row8 w a len zs) (hl : len ≤ 1048576) (hcap : len ≤ cap) (hcm : cap ≤ maxLen) (hm : bnd zs m = len) :
    Calls Try.prog 16 #[.slice a len cap] w fun e w' => IdsEnd zs m w e w' := by
  have HM : Hid (bnd zs m = len) := hm
  clear hm
  go_enter Try.func16, Try.ntmps16
  go_wp2_with (go_at_call 19; refine (ids_any a len cap zs m _ hR hl hcap hcm HM.out).mono ?_)
  rintro e w' ⟨a', cap', rfl, q1, q2, q3⟩
  have HQ : Hid _ := And.intro q1 (And.intro q2 q3)
  clear q1 q2 q3
  go_wp2
  go_ret
  exact ⟨a', cap', rfl, HQ.out⟩

end Go.Proofs.Qxb6605419a
