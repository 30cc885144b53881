/-
  zzCloneBytes: a fresh copy.
-/
import Derived.Test.Qxb6605419aBytes
namespace Go.Proofs.Qxb6605419a
open Go.RowKit

/-- A row of n cells of which the first k have been filled. -/
def filled {α : Type} (f : α → Value) (xs : List α) (z : Value) (n k : Nat) : List Value := (xs.take k).map f ++ List.replicate (n - k) z

theorem filled_zero {α : Type} (f : α → Value) (xs : List α) (z : Value) (n : Nat) : filled f xs z n 0 = List.replicate n z := by simp [filled]

theorem filled_all {α : Type} (f : α → Value) (xs : List α) (z : Value) (n : Nat) (h : xs.length = n) : filled f xs z n n = xs.map f := by
  simp [filled, List.take_of_length_le (Nat.le_of_eq h)]

theorem filled_at {α : Type} (f : α → Value) (xs : List α) (z : Value) (n k : Nat) (h : xs.length = n) (hk : k < n) : (filled f xs z n k)[k]? = some z := by
  have hl : ((xs.take k).map f).length = k := by simp; omega
  unfold filled
  rw [List.getElem?_append_right (Nat.le_of_eq hl), hl, Nat.sub_self, List.getElem?_replicate, if_pos (by omega)]

theorem filled_set {α : Type} (f : α → Value) (xs : List α) (z : Value) (n k : Nat) (h : xs.length = n) (x : α) (hx : xs[k]? = some x) : (filled f xs z n k).set k (f x) = filled f xs z n (k + 1) := by
  have hk : k < xs.length := (List.getElem?_eq_some_iff.1 hx).1
  have hxx : xs[k] = x := (List.getElem?_eq_some_iff.1 hx).2
  have hl : ((xs.take k).map f).length = k := by simp; omega
  obtain ⟨r, hr⟩ : ∃ r, n - k = r + 1 := ⟨n - k - 1, by omega⟩
  have hr2 : n - (k + 1) = r := by omega
  unfold filled
  rw [List.set_append_right _ _ (by omega), hl, hr, hr2, List.replicate_succ, Nat.sub_self, List.set_cons_zero, List.take_succ_eq_append_getElem hk, hxx]
  simp

theorem row8_of {w : World} {base : Nat} {v : Value} {n : Nat} {zs : List Int} (h : w.ownsRow base 5 1 v n (zs.map (Value.int .u8))) (hz : ∀ z ∈ zs, 0 ≤ z ∧ z < 256) :
    ∃ a cap, v = .slice a n cap ∧ n ≤ cap ∧ cap ≤ maxLen ∧ Row8 w a n zs := by
  obtain ⟨h1, h2⟩ := h
  have hn : zs.length = n := by simpa using h1
  rcases h2 with ⟨rfl, rfl⟩ | ⟨g, cap, cur, rfl, hg, hh, hnc, hcm, hcs, htake⟩
  · exact ⟨none, 0, rfl, Nat.le_refl _, Nat.zero_le _, hn, hz, .inl rfl⟩
  · refine ⟨_, cap, rfl, hnc, hcm, hn, hz, .inr ⟨g, 0, rfl, (Array.getElem?_eq_some_iff.1 hh).1, fun i hi => ?_⟩⟩
    have hown : w.ownsRow base 5 1 (.slice (some ⟨g, 0, none⟩) n cap) n (zs.map (Value.int .u8)) := ⟨h1, .inr ⟨g, cap, cur, rfl, hg, hh, hnc, hcm, hcs, htake⟩⟩
    rw [Nat.zero_add, hown.cellAt i (by omega)]
    simp [List.getD, List.getElem?_eq_getElem (show i < zs.length by omega)]

theorem info5 : (Try.prog.info? 5).map (fun i => (i.zero, i.size, i.bytes)) = some (some (.int .u8 0), 1, 1) := by kernel_rfl
theorem info9 : (Try.prog.info? 9).map (fun i => (i.zero, i.size, i.bytes)) = some (some (.string ⟨#[]⟩), 1, 16) := by kernel_rfl

/-- What a copy leaves. -/
def CopyEnd (zs : List Int) (len : Nat) (w : World) (e : Ending) (w' : World) : Prop :=
  ∃ a cap, e = .returned (.slice a len cap) ∧ len ≤ cap ∧ cap ≤ maxLen ∧ Row8 w' a len zs ∧ Below w.heap.size w w'

set_option maxHeartbeats 400000 in
theorem clone_any (a : Option Addr) (len cap : Nat) (zs : List Int) (w : World) (hR : Row8 w a len zs) (hl : len ≤ 1048576) :
    Calls Try.prog 15 #[.slice a len cap] w fun e w' => CopyEnd zs len w e w' := by
  obtain ⟨i0, hi, hz0, hz1, hz2⟩ := info_parts info5
  have hR' := hR
  obtain ⟨h1, h2, h3⟩ := hR
  have hnil := fun w => Lib.run_eql_slice_nil (P := Try.prog) w 30 5 a len cap 0 0 Try.underlying30
  have HR : Hid (Row8 w a len zs) := hR'
  have HZ : Hid (∀ z ∈ zs, 0 ≤ z ∧ z < 256) := h2
  have HL : Hid (zs.length = len) := h1
  clear hR' h2 h1
  cases a with
  | none =>
    obtain rfl : len = 0 := by
      rcases h3 with h3 | ⟨b, off, ha, _⟩
      · exact h3
      · cases ha
    go_enter Try.func15, Try.ntmps15
    go_wp2
    go_ret
    exact ⟨none, 0, rfl, Nat.le_refl _, Nat.zero_le _, ⟨HL.out, HZ.out, .inl rfl⟩, Below.refl _ _⟩
  | some ad =>
    have hb2 : i0.bytes * len ≤ 281474976710656 := by rw [hz2]; omega
    rcases h3 with h3 | ⟨b, off, ha, hlt, hc⟩
    · subst h3
      go_enter Try.func15, Try.ntmps15
      go_wp2_with (at_make; refine wpList_make_full _ rfl _ _ 30 rfl w.heap.size 5 i0 (.int .u8 0) 1 Try.underlying30 hi hz0 hz1 _ _ _ _ 0 rfl rfl rfl rfl hb2 (Nat.zero_le _) (Nat.le_refl _) ?_)
      intro w1 hown hgrow
      have hz : zs = [] := List.eq_nil_of_length_eq_zero HL.out
      have hown2 : w1.ownsRow w.heap.size 5 1 (.slice (some ⟨w.heap.size, 0, none⟩) 0 0) 0 (zs.map (Value.int .u8)) := by
        subst hz
        simpa [toList_madeCells_one, Value.cells] using hown
      have HB : Hid (Below w.heap.size w w1) := (Below.refl _ _).grown hgrow (Nat.le_refl _) (fun k hk => by cases hk)
      have HO := row8_of hown2 HZ.out
      clear hown hgrow hown2 hz
      have HO' : Hid _ := HO
      clear HO
      go_wp2
      refine wp_loop_rounds 1 ?_
      rw [rounds_succ]
      go_wp2
      go_ret
      obtain ⟨a', cap', hv, q1, q2, q3⟩ := HO'.out
      cases hv
      exact ⟨_, _, rfl, q1, q2, q3, HB.out⟩
    · obtain rfl := Option.some.inj ha
      have HC : Hid (∀ i, i < len → w.cell? ⟨b, off + i, none⟩ = some (.int .u8 (zs.getD i 0))) := hc
      clear hc ha
      go_enter Try.func15, Try.ntmps15
      go_wp2_with (at_make; refine wpList_make_full _ rfl _ _ 30 rfl w.heap.size 5 i0 (.int .u8 0) 1 Try.underlying30 hi hz0 hz1 _ _ _ _ len rfl rfl rfl rfl hb2 (by unfold maxLen; omega) (Nat.le_refl _) ?_)
      intro w1 hown hgrow
      have hown2 : w1.ownsRow w.heap.size 5 1 (.slice (some ⟨w.heap.size, 0, none⟩) len len) len (filled (Value.int .u8) zs (.int .u8 0) len 0) := by
        rw [filled_zero]
        simpa [toList_madeCells_one, Value.cells] using hown
      have hB : Below w.heap.size w w1 := (Below.refl _ _).grown hgrow (Nat.le_refl _) (fun k hk => by cases hk)
      clear hown hgrow
      go_wp2
      go_loopw [4] (fun i wr => ∃ k : Nat, k ≤ len ∧ i = .int .i64 k ∧ wr.ownsRow w.heap.size 5 1 (.slice (some ⟨w.heap.size, 0, none⟩) len len) len (filled (Value.int .u8) zs (.int .u8 0) len k) ∧ Below w.heap.size w wr)
        (fun i _ => len - (intOf i).toNat)
      case atStart => exact ⟨0, Nat.zero_le _, rfl, hown2, hB⟩
      case round =>
        obtain ⟨k, hk, rfl, hown, hbel⟩ := hrel
        by_cases hlt2 : k < len
        · have hcell : wr.cell? ⟨b, off + k, none⟩ = some (.int .u8 (zs.getD k 0)) := (hbel.cell (p := ⟨b, off + k, none⟩) hlt).trans (HC.out k hlt2)
          have hkz : zs[k]? = some (zs.getD k 0) := by
            have := HL.out
            simp [List.getD, List.getElem?_eq_getElem (show k < zs.length by omega)]
          obtain ⟨c, hcd⟩ : ∃ c, c = zs.getD k 0 := ⟨_, rfl⟩
          rw [← hcd] at hcell hkz
          have hc0 : wr.cell? ⟨w.heap.size, k, none⟩ = some (.int .u8 0) := by rw [hown.cellAt k (by omega)]; exact filled_at _ _ _ _ _ HL.out hlt2
          have hf0 := hown.frozenAt k
          have hst := hown.stored k (.int .u8 c)
          have hs1 : (wr.setCell ⟨w.heap.size, k, none⟩ (.int .u8 c)).ownsRow w.heap.size 5 1 (.slice (some ⟨w.heap.size, 0, none⟩) len len) len (filled (Value.int .u8) zs (.int .u8 0) len (k + 1)) := by
            rw [← filled_set _ _ _ _ _ HL.out c hkz]
            exact hst.1
          have hs2 : Below w.heap.size w (wr.setCell ⟨w.heap.size, k, none⟩ (.int .u8 c)) := hbel.setCell (p := ⟨w.heap.size, k, none⟩) (Nat.le_refl _) _
          have HS : Hid (_ ∧ _) := ⟨hs1, hs2⟩
          clear hs1 hs2 hst hcd hkz hown hbel hown2 hB
          go_wp2
          go_roundw
          case rel => exact ⟨k + 1, by omega, by go_num, HS.out.1, HS.out.2⟩
          case measure => simp [intOf]; omega
        · have hkl : k = len := by omega
          subst hkl
          rw [filled_all _ _ _ _ HL.out] at hown
          have HO := row8_of hown HZ.out
          have HO' : Hid _ := HO
          clear HO hown
          go_wp2
          go_ret
          obtain ⟨a', cap', hv, q1, q2, q3⟩ := HO'.out
          cases hv
          exact ⟨_, _, rfl, q1, q2, q3, hbel⟩

end Go.Proofs.Qxb6605419a
