/-
  The walks of toTally, AddLookup, add, ZZTallyAdd, isMaxOf2, isMaxOf3.
-/
import Derived.Test.Qxb6605508aRows
import Derived.WalkKit
import Derived.WalkSpells
import Derived.WalkLawsBesides
import Derived.RegionTactic
import Derived.BigRegion
import Derived.Laws.Rows
namespace Go.Proofs.Qxb6605508a
open Go.RowKit

/-- The greater of two. -/
def mx (a b : Int) : Int := if a < b then b else a

/-- A tally's seven numbers as cells. -/
def tcells (l h s m q t e : Int) : Array Value := #[.int .u64 l, .int .u64 h, .int .u64 s, .int .i64 m, .int .u64 q, .int .u64 t, .int .u64 e]

/-- Block b is a tally that holds these seven numbers. -/
def TAt (w : World) (b : Nat) (l h s m q t e : Int) : Prop := w.heap[b]? = some (.cells (tcells l h s m q t e) 25 (0, 0))

theorem TAt.lt {w : World} {b : Nat} {l h s m q t e : Int} (H : TAt w b l h s m q t e) : b < w.heap.size := (Array.getElem?_eq_some_iff.1 H).1

theorem TAt.cell {w : World} {b : Nat} {l h s m q t e : Int} (H : TAt w b l h s m q t e) (j : Nat) : w.cell? ⟨b, j, none⟩ = (tcells l h s m q t e)[j]? := by
  unfold TAt at H
  simp [World.cell?, H]

theorem TAt.free {w : World} {b : Nat} {l h s m q t e : Int} (H : TAt w b l h s m q t e) (j : Nat) : w.frozen? ⟨b, j, none⟩ = false := by
  unfold TAt at H
  simp [World.frozen?, H]

theorem TAt.cells {w : World} {b : Nat} {l h s m q t e : Int} (H : TAt w b l h s m q t e) :
    w.cell? ⟨b, 0, none⟩ = some (.int .u64 l) ∧ w.cell? ⟨b, 1, none⟩ = some (.int .u64 h) ∧ w.cell? ⟨b, 2, none⟩ = some (.int .u64 s) ∧ w.cell? ⟨b, 3, none⟩ = some (.int .i64 m) ∧
      w.cell? ⟨b, 4, none⟩ = some (.int .u64 q) ∧ w.cell? ⟨b, 5, none⟩ = some (.int .u64 t) ∧ w.cell? ⟨b, 6, none⟩ = some (.int .u64 e) :=
  ⟨H.cell 0, H.cell 1, H.cell 2, H.cell 3, H.cell 4, H.cell 5, H.cell 6⟩

theorem TAt.kept {w w' : World} {b : Nat} {l h s m q t e : Int} (H : TAt w b l h s m q t e) {row : Option Nat} (hg : w.grownBy w' row) (hne : some b ≠ row) : TAt w' b l h s m q t e := by
  unfold TAt
  rw [hg.block b H.lt hne]
  exact H

theorem put1 {w : World} {b : Nat} {cs : Array Value} (H : w.heap[b]? = some (.cells cs 25 (0, 0))) (j : Nat) (v : Value) : (w.setCell ⟨b, j, none⟩ v).heap[b]? = some (.cells (cs.setIfInBounds j v) 25 (0, 0)) :=
  heap_setCell_same w b j cs 25 v H

theorem gb_refl (w : World) (row : Option Nat) : w.grownBy w row := ⟨rfl, rfl, rfl, Nat.le_refl _, fun _ _ _ => rfl⟩
theorem gb_setCell {w0 w : World} {b : Nat} (h : w0.grownBy w (some b)) (j : Nat) (v : Value) : w0.grownBy (w.setCell ⟨b, j, none⟩ v) (some b) :=
  ⟨h.os, h.tape, h.output, by simpa [World.setCell] using h.size, fun k hk hne => (Below.heap_setCell _ _ _ _ (fun e => hne (by rw [e]))).trans (h.block k hk hne)⟩
theorem gb_alloc {w0 w : World} {row : Option Nat} (h : w0.grownBy w row) (o : Obj) : w0.grownBy (w.alloc o) row :=
  ⟨h.os, h.tape, h.output, by have := h.size; simp; omega, fun k hk hne => (Below.heap_alloc _ _ _ (by have := h.size; omega)).trans (h.block k hk hne)⟩
theorem gb_drew {w0 w : World} {row : Option Nat} (h : w0.grownBy w row) : w0.grownBy w.drew row := ⟨h.os, h.tape, h.output, h.size, h.block⟩
theorem gb_trans {w0 w1 w2 : World} {row : Option Nat} (h : w0.grownBy w1 row) (k : w1.grownBy w2 row) : w0.grownBy w2 row :=
  ⟨k.os.trans h.os, k.tape.trans h.tape, k.output.trans h.output, Nat.le_trans h.size k.size, fun i hi hne => (k.block i (Nat.lt_of_lt_of_le hi h.size) hne).trans (h.block i hi hne)⟩

set_option maxHeartbeats 400000 in
theorem toTally_any (l h s m q t e : Int) (w : World) :
    Calls Try.prog 7 #[.agg #[.int .u64 l, .int .u64 h, .int .u64 s, .int .i64 m, .int .u64 q, .int .u64 t, .int .u64 e]] w fun r w' => r = .returned (.agg #[.int .u64 l, .int .u64 h, .int .u64 s, .int .i64 m, .int .u64 q, .int .u64 t, .int .u64 e]) ∧ Below w.heap.size w w' := by
  go_enter Try.func7, Try.ntmps7
  go_wp2
  simp [bodyPost, results, Try.results7, go_sem]
  exact ((Below.refl _ _).alloc (Nat.le_refl _) _).alloc (by simp) _

/-- What AddLookup leaves. -/
def LookEnd (b : Nat) (l h s m q t e hops : Int) (o : Bool) (w : World) (r : Ending) (w' : World) : Prop :=
  r = .returned (.tuple #[]) ∧ TAt w' b (IntKind.u64.wrap (l + 1)) (IntKind.u64.wrap (h + IntKind.u64.wrap hops)) (IntKind.u64.wrap (s + IntKind.u64.wrap (IntKind.u64.wrap hops * IntKind.u64.wrap hops))) (mx m hops) (bif o then q else IntKind.u64.wrap (q + 1)) t e ∧ w.grownBy w' (some b)

set_option maxHeartbeats 400000 in
theorem addLookup_any (b : Nat) (l h s m q t e : Int) (hops : Int) (o : Bool) (w : World) (H : TAt w b l h s m q t e) :
    Calls Try.prog 8 #[.pointer (some ⟨b, 0, none⟩), .int .i64 hops, .bool o] w fun r w' => LookEnd b l h s m q t e hops o w r w' := by
  obtain ⟨c0, c1, c2, c3, c4, c5, c6⟩ := H.cells
  have hf := H.free
  have HH : Hid (w.heap[b]? = some (.cells #[.int .u64 l, .int .u64 h, .int .u64 s, .int .i64 m, .int .u64 q, .int .u64 t, .int .u64 e] 25 (0, 0))) := H
  clear H
  cases o with
  | true =>
    by_cases hm : m < hops
    · go_enter Try.func8, Try.ntmps8
      go_wp2
      go_end0
      refine ⟨rfl, ?_, ?_⟩
      · unfold mx; rw [if_pos hm]; exact put1 (put1 (put1 (put1 HH.out 0 _) 1 _) 2 _) 3 _
      · exact gb_setCell (gb_setCell (gb_setCell (gb_setCell (gb_refl _ _) 0 _) 1 _) 2 _) 3 _
    · go_enter Try.func8, Try.ntmps8
      go_wp2
      go_end0
      refine ⟨rfl, ?_, ?_⟩
      · unfold mx; rw [if_neg (by omega)]; exact put1 (put1 (put1 (put1 HH.out 0 _) 1 _) 2 _) 3 _
      · exact gb_setCell (gb_setCell (gb_setCell (gb_setCell (gb_refl _ _) 0 _) 1 _) 2 _) 3 _
  | false =>
    by_cases hm : m < hops
    · go_enter Try.func8, Try.ntmps8
      go_wp2
      go_end0
      refine ⟨rfl, ?_, ?_⟩
      · unfold mx; rw [if_pos hm]; exact put1 (put1 (put1 (put1 (put1 HH.out 0 _) 1 _) 2 _) 3 _) 4 _
      · exact gb_setCell (gb_setCell (gb_setCell (gb_setCell (gb_setCell (gb_refl _ _) 0 _) 1 _) 2 _) 3 _) 4 _
    · go_enter Try.func8, Try.ntmps8
      go_wp2
      go_end0
      refine ⟨rfl, ?_, ?_⟩
      · unfold mx; rw [if_neg (by omega)]; exact put1 (put1 (put1 (put1 (put1 HH.out 0 _) 1 _) 2 _) 3 _) 4 _
      · exact gb_setCell (gb_setCell (gb_setCell (gb_setCell (gb_setCell (gb_refl _ _) 0 _) 1 _) 2 _) 3 _) 4 _

end Go.Proofs.Qxb6605508a
