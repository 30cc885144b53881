/-
  The walks of zzBytes_.., zzFramed over a slice of bytes.
-/
import Derived.Test.Qxb6605419aRows
import Derived.Test.Qxb6605419aPlain
import Derived.WalkKit
import Derived.WalkSpells
import Derived.WalkLawsBesides
namespace Go.Proofs.Qxb6605419a
open Go.RowKit

/-- A slice of bytes as a walk is told of it: the numbers zs, one a cell; an empty one may lie anywhere. -/
def Row8 (w : World) (a : Option Addr) (len : Nat) (zs : List Int) : Prop :=
  zs.length = len ∧ (∀ z ∈ zs, 0 ≤ z ∧ z < 256) ∧
    (len = 0 ∨ ∃ b off, a = some ⟨b, off, none⟩ ∧ b < w.heap.size ∧ ∀ i, i < len → w.cell? ⟨b, off + i, none⟩ = some (.int .u8 (zs.getD i 0)))

theorem Row8.later {w w' : World} {a : Option Addr} {len : Nat} {zs : List Int} (h : Row8 w a len zs) (hb : Below w.heap.size w w') : Row8 w' a len zs := by
  obtain ⟨h1, h2, h3⟩ := h
  refine ⟨h1, h2, ?_⟩
  rcases h3 with h3 | ⟨b, off, ha, hlt, hc⟩
  · exact .inl h3
  · exact .inr ⟨b, off, ha, Nat.lt_of_lt_of_le hlt hb.size, fun i hi => (hb.cell (p := ⟨b, off + i, none⟩) hlt).trans (hc i hi)⟩

theorem byte_bd {zs : List Int} (hz : ∀ z ∈ zs, 0 ≤ z ∧ z < 256) (k : Nat) : 0 ≤ zs.getD k 0 ∧ zs.getD k 0 < 256 := by
  rcases Nat.lt_or_ge k zs.length with h | h
  · have hm : zs.getD k 0 ∈ zs := by simp [List.getD, List.getElem?_eq_getElem h]
    exact hz _ hm
  · have : zs.getD k 0 = 0 := by simp [List.getD, List.getElem?_eq_none h]
    omega

set_option maxHeartbeats 400000 in
theorem bytes1_any (a : Option Addr) (len cap : Nat) (w : World) (hl : len ≤ maxLen) :
    Calls Try.prog 13 #[.slice a len cap] w fun e w' => e = .returned (.bool (decide (len ≤ 1048576))) ∧ w' = w := by
  unfold maxLen at hl
  by_cases h : len ≤ 1048576
  · go_enter Try.func13, Try.ntmps13
    go_wp2
    go_ret
    exact ⟨by simp [h], rfl⟩
  · go_enter Try.func13, Try.ntmps13
    go_wp2
    go_ret
    exact ⟨by simp [h], rfl⟩

set_option maxHeartbeats 400000 in
theorem bytes2_any (a a' : Option Addr) (len cap len' cap' : Nat) (w : World) (hl : len ≤ maxLen) (hl' : len' ≤ maxLen) :
    Calls Try.prog 17 #[.slice a len cap, .slice a' len' cap'] w fun e w' => e = .returned (.bool (decide (len + len' ≤ 1048576))) ∧ w' = w := by
  unfold maxLen at hl hl'
  by_cases h : len + len' ≤ 1048576
  · go_enter Try.func17, Try.ntmps17
    go_wp2
    go_ret
    exact ⟨by simp [h], rfl⟩
  · by_cases h1 : len ≤ 1048576
    · by_cases h2 : len' ≤ 1048576
      · go_enter Try.func17, Try.ntmps17
        go_wp2
        go_ret
        exact ⟨by simp [h], rfl⟩
      · go_enter Try.func17, Try.ntmps17
        go_wp2
        go_ret
        exact ⟨by simp [h], rfl⟩
    · go_enter Try.func17, Try.ntmps17
      go_wp2
      go_ret
      exact ⟨by simp [h], rfl⟩

/-- What zzFramed leaves: a bool; where it is true the value ends at a boundary. -/
def FramedEnd (zs : List Int) (len : Nat) (w : World) (e : Ending) (w' : World) : Prop :=
  ∃ r : Bool, e = .returned (.bool r) ∧ w' = w ∧ (r = true → ∃ m, bnd zs m = len)

set_option maxHeartbeats 400000 in
theorem framed_any (a : Option Addr) (len cap : Nat) (zs : List Int) (w : World) (hR : Row8 w a len zs) (hl : len ≤ 1048576) :
    Calls Try.prog 14 #[.slice a len cap] w fun e w' => FramedEnd zs len w e w' := by
  obtain ⟨h1, h2, h3⟩ := hR
  rcases h3 with h3 | ⟨b, off, rfl, hlt, hc⟩
  · subst h3
    go_enter Try.func14, Try.ntmps14
    go_wp2
    refine wp_loop_rounds 1 ?_
    rw [rounds_succ]
    go_wp2
    go_ret
    exact ⟨true, rfl, rfl, fun _ => ⟨0, rfl⟩⟩
  · have HC : Hid (∀ i, i < len → w.cell? ⟨b, off + i, none⟩ = some (.int .u8 (zs.getD i 0))) := hc
    have HZ : Hid (∀ z ∈ zs, 0 ≤ z ∧ z < 256) := h2
    clear hc h2
    go_enter Try.func14, Try.ntmps14
    go_wp2
    go_loop [3] (fun i => ∃ k p : Nat, p ≤ len ∧ i = .int .i64 p ∧ Hid (p = bnd zs k)) (fun i => len - (intOf i).toNat)
    case atStart => exact ⟨0, 0, Nat.zero_le _, rfl, rfl⟩
    case round =>
      obtain ⟨k, p, hp, rfl, HP⟩ := hrel
      by_cases hlt2 : p < len
      · have hcell := HC.out p hlt2
        have hb := byte_bd HZ.out p
        obtain ⟨c, hcd⟩ : ∃ c, c = zs.getD p 0 := ⟨_, rfl⟩
        rw [← hcd] at hcell hb
        have HCD : Hid (c = zs.getD p 0) := hcd
        clear hcd
        by_cases hfit : c ≤ (len : Int) - p - 1
        · go_wp2
          go_round
          case rel => exact ⟨k + 1, p + 1 + c.toNat, by omega, by go_num, by have := HP.out; have h2 := HCD.out; subst this; show _ = bnd zs k + 1 + _; rw [h2]⟩
          case measure => simp [intOf]; omega
        · go_wp2
          go_ret
          exact ⟨false, rfl, rfl, fun h => by cases h⟩
      · go_wp2
        go_ret
        exact ⟨true, rfl, rfl, fun _ => ⟨k, by have := HP.out; omega⟩⟩

end Go.Proofs.Qxb6605419a
