/-
  isMaxOf2, isMaxOf3; the plain arithmetic of tallies.
-/
import Derived.Test.Qxb6605508aAdd
namespace Go.Proofs.Qxb6605508a
open Go.RowKit

set_option maxHeartbeats 400000 in
theorem isMax2_yes (m a b : Int) (w : World) (h1 : a ≤ m) (h2 : b ≤ m) (h3 : m = a ∨ m = b) :
    Calls Try.prog 11 #[.int .i64 m, .int .i64 a, .int .i64 b] w fun e w' => e = .returned (.bool true) ∧ w' = w := by
  by_cases ea : m = a
  · have q1 : (m == a) = true := by rw [beq_iff_eq]; exact ea
    clear h3 ea
    go_enter Try.func11, Try.ntmps11
    go_wp2
    go_ret
    exact ⟨rfl, rfl⟩
  · have q1 : (m == a) = false := by rw [beq_eq_false_iff_ne]; exact ea
    have q2 : (m == b) = true := by rw [beq_iff_eq]; exact h3.elim (fun h => absurd h ea) id
    clear h3 ea
    go_enter Try.func11, Try.ntmps11
    go_wp2
    go_ret
    exact ⟨rfl, rfl⟩

set_option maxHeartbeats 400000 in
theorem isMax3_yes (m a b c : Int) (w : World) (h1 : a ≤ m) (h2 : b ≤ m) (h3 : c ≤ m) (h4 : m = a ∨ m = b ∨ m = c) :
    Calls Try.prog 9 #[.int .i64 m, .int .i64 a, .int .i64 b, .int .i64 c] w fun e w' => e = .returned (.bool true) ∧ w' = w := by
  by_cases ea : m = a
  · have q1 : (m == a) = true := by rw [beq_iff_eq]; exact ea
    clear h4 ea
    go_enter Try.func9, Try.ntmps9
    go_wp2
    go_ret
    exact ⟨rfl, rfl⟩
  · have q1 : (m == a) = false := by rw [beq_eq_false_iff_ne]; exact ea
    by_cases eb : m = b
    · have q2 : (m == b) = true := by rw [beq_iff_eq]; exact eb
      clear h4 ea eb
      go_enter Try.func9, Try.ntmps9
      go_wp2
      go_ret
      exact ⟨rfl, rfl⟩
    · have q2 : (m == b) = false := by rw [beq_eq_false_iff_ne]; exact eb
      have q3 : (m == c) = true := by rw [beq_iff_eq]; exact h4.elim (fun h => absurd h ea) (fun h => h.elim (fun h => absurd h eb) id)
      clear h4 ea eb
      go_enter Try.func9, Try.ntmps9
      go_wp2
      go_ret
      exact ⟨rfl, rfl⟩

theorem w_swap (a b c : Int) : IntKind.u64.wrap (IntKind.u64.wrap (a + b) + c) = IntKind.u64.wrap (IntKind.u64.wrap (a + c) + b) := by
  simp only [IntKind.wrap_u64]; omega
theorem w_comm (a b : Int) : IntKind.u64.wrap (a + b) = IntKind.u64.wrap (b + a) := by rw [Int.add_comm]
theorem w_assoc (a b c : Int) : IntKind.u64.wrap (IntKind.u64.wrap (a + b) + c) = IntKind.u64.wrap (a + IntKind.u64.wrap (b + c)) := by
  simp only [IntKind.wrap_u64]; omega
theorem w_back (a b : Int) (h0 : 0 ≤ b) (h1 : b ≤ 18446744073709551615) : IntKind.u64.wrap (IntKind.u64.wrap (a + b) - a) = b := by
  simp only [IntKind.wrap_u64]; omega
theorem w_back2 (a b c : Int) : IntKind.u64.wrap (IntKind.u64.wrap (IntKind.u64.wrap (a + b) + c) - a) = IntKind.u64.wrap (b + c) := by
  simp only [IntKind.wrap_u64]; omega
theorem w_range (x : Int) : 0 ≤ IntKind.u64.wrap x ∧ IntKind.u64.wrap x ≤ 18446744073709551615 := by
  simp only [IntKind.wrap_u64]; omega

theorem mx_is2 (a b : Int) : a ≤ mx a b ∧ b ≤ mx a b ∧ (mx a b = a ∨ mx a b = b) := by unfold mx; split <;> omega
theorem mx_swap (m a b : Int) : mx (mx m a) b = mx (mx m b) a := by
  have := mx_is2 m a; have := mx_is2 (mx m a) b; have := mx_is2 m b; have := mx_is2 (mx m b) a; omega
theorem mx_comm (a b : Int) : mx a b = mx b a := by have := mx_is2 a b; have := mx_is2 b a; omega
theorem mx_assoc (a b c : Int) : mx (mx a b) c = mx a (mx b c) := by
  have := mx_is2 a b; have := mx_is2 (mx a b) c; have := mx_is2 b c; have := mx_is2 a (mx b c); omega
theorem mx_is3 (a b c : Int) : a ≤ mx (mx a b) c ∧ b ≤ mx (mx a b) c ∧ c ≤ mx (mx a b) c ∧ (mx (mx a b) c = a ∨ mx (mx a b) c = b ∨ mx (mx a b) c = c) := by
  have := mx_is2 a b; have := mx_is2 (mx a b) c; omega

/-- Block b is a TallyIn that holds these seven numbers. -/
def IAt (w : World) (b : Nat) (l h s m q t e : Int) : Prop := w.heap[b]? = some (.cells (tcells l h s m q t e) 24 (0, 0))

theorem IAt.lt {w : World} {b : Nat} {l h s m q t e : Int} (H : IAt w b l h s m q t e) : b < w.heap.size := (Array.getElem?_eq_some_iff.1 H).1
theorem IAt.cell {w : World} {b : Nat} {l h s m q t e : Int} (H : IAt w b l h s m q t e) (j : Nat) : w.cell? ⟨b, j, none⟩ = (tcells l h s m q t e)[j]? := by
  unfold IAt at H
  simp [World.cell?, H]
theorem IAt.cells {w : World} {b : Nat} {l h s m q t e : Int} (H : IAt w b l h s m q t e) :
    w.cell? ⟨b, 0, none⟩ = some (.int .u64 l) ∧ w.cell? ⟨b, 1, none⟩ = some (.int .u64 h) ∧ w.cell? ⟨b, 2, none⟩ = some (.int .u64 s) ∧ w.cell? ⟨b, 3, none⟩ = some (.int .i64 m) ∧
      w.cell? ⟨b, 4, none⟩ = some (.int .u64 q) ∧ w.cell? ⟨b, 5, none⟩ = some (.int .u64 t) ∧ w.cell? ⟨b, 6, none⟩ = some (.int .u64 e) :=
  ⟨H.cell 0, H.cell 1, H.cell 2, H.cell 3, H.cell 4, H.cell 5, H.cell 6⟩
theorem IAt.kept {w w' : World} {b : Nat} {l h s m q t e : Int} (H : IAt w b l h s m q t e) {row : Option Nat} (hg : w.grownBy w' row) (hne : some b ≠ row) : IAt w' b l h s m q t e := by
  unfold IAt
  rw [hg.block b H.lt hne]
  exact H

theorem gb_below {w w' : World} (h : Below w.heap.size w w') : w.grownBy w' none := ⟨h.os, h.tape, h.output, h.size, fun k hk _ => h.block k hk⟩

theorem TAt.new (w : World) (l h s m q t e : Int) : TAt (w.alloc (.cells #[.int .u64 l, .int .u64 h, .int .u64 s, .int .i64 m, .int .u64 q, .int .u64 t, .int .u64 e] 25)) w.heap.size l h s m q t e := heap_alloc_new w _
theorem IAt.new (w : World) (l h s m q t e : Int) : IAt (w.alloc (.cells #[.int .u64 l, .int .u64 h, .int .u64 s, .int .i64 m, .int .u64 q, .int .u64 t, .int .u64 e] 24)) w.heap.size l h s m q t e := heap_alloc_new w _

end Go.Proofs.Qxb6605508a
