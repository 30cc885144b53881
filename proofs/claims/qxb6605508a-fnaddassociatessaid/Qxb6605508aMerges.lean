/-
  FnAddMergesOneLookup, walked.
-/
import Derived.Test.Qxb6605508aLookups
import Derived.Test.Qxb6605508aArg2
namespace Go.Proofs.Qxb6605508a
open Go.RowKit

theorem wrap_same {x : Int} (h : U64 x) : IntKind.u64.wrap x = x := by
  obtain ⟨h0, h1⟩ := h
  simp only [IntKind.wrap_u64]; omega
theorem wrap_zero_add (x : Int) : IntKind.u64.wrap (0 + IntKind.u64.wrap x) = IntKind.u64.wrap x := by
  simp only [IntKind.wrap_u64]; omega
theorem wrap_add_zero {x : Int} (h : U64 x) : IntKind.u64.wrap (x + 0) = x := by rw [Int.add_zero]; exact wrap_same h
theorem wrap_one : IntKind.u64.wrap (0 + 1) = 1 := by decide
theorem mx_zero {x : Int} (h : 0 ≤ x) : mx 0 x = x := by unfold mx; split <;> omega
theorem one_more (l : Int) : IntKind.u64.wrap (IntKind.u64.wrap (l + 1) - l) = 1 := by
  simp only [IntKind.wrap_u64]; omega
theorem wrong_one (q : Int) (o : Bool) (h : U64 q) : IntKind.u64.wrap (q + (bif o then 0 else 1)) = bif o then q else IntKind.u64.wrap (q + 1) := by
  cases o
  · rfl
  · exact wrap_add_zero h

/-- What toTally leaves. -/
def ToEnd (l h s m q t e : Int) (w : World) (r : Ending) (w' : World) : Prop :=
  r = .returned (.agg #[.int .u64 l, .int .u64 h, .int .u64 s, .int .i64 m, .int .u64 q, .int .u64 t, .int .u64 e]) ∧ Below w.heap.size w w'

theorem toTally_end (l h s m q t e : Int) (w : World) :
    Calls Try.prog 7 #[.agg #[.int .u64 l, .int .u64 h, .int .u64 s, .int .i64 m, .int .u64 q, .int .u64 t, .int .u64 e]] w fun r w' => ToEnd l h s m q t e w r w' :=
  toTally_any l h s m q t e w

set_option maxRecDepth 100000 in
set_option maxHeartbeats 2000000 in
theorem merges_any (l h s m q t e hops : Int) (o : Bool) (w : World) (uq : U64 q) (ut : U64 t) (ue : U64 e) :
    Calls Try.prog 4 #[.agg #[.int .u64 l, .int .u64 h, .int .u64 s, .int .i64 m, .int .u64 q, .int .u64 t, .int .u64 e], .int .i64 hops, .bool o] w fun r w' => r = .returned (.bool true) ∧ Below w.heap.size w w' := by
  have I0 := IAt.new w l h s m q t e
  have HB0 : Below w.heap.size w (w.alloc (.cells #[.int .u64 l, .int .u64 h, .int .u64 s, .int .i64 m, .int .u64 q, .int .u64 t, .int .u64 e] 24)) := (Below.refl _ w).alloc (Nat.le_refl _) _
  by_cases hh : hops < 0
  · go_enter Try.func4, Try.ntmps4
    go_wp2
    go_ret
    exact ⟨rfl, HB0⟩
  have hh0 : 0 ≤ hops := by omega
  go_enter Try.func4, Try.ntmps4
  go_wp2_with (go_at_call 7; refine (toTally_end l h s m q t e _).mono ?_)
  rintro r w1 ⟨rfl, hb1⟩
  have I1 := (I0.kept (gb_below hb1) (by simp)).kept (gb_alloc (gb_refl w1 none) (.cells #[.int .u64 l, .int .u64 h, .int .u64 s, .int .i64 m, .int .u64 q, .int .u64 t, .int .u64 e] 25)) (by simp)
  have n1 : w.heap.size < w1.heap.size := (I0.kept (gb_below hb1) (by simp)).lt
  have HB1 := (HB0.trans (hb1.mono HB0.size)).alloc (HB0.trans (hb1.mono HB0.size)).size (.cells #[.int .u64 l, .int .u64 h, .int .u64 s, .int .i64 m, .int .u64 q, .int .u64 t, .int .u64 e] 25)
  have T1 := TAt.new w1 l h s m q t e
  clear I0 HB0 hb1
  go_wp2_with (go_at_call 8; refine (addLookup_any w1.heap.size l h s m q t e hops o _ T1).mono ?_)
  rintro r w2 ⟨rfl, T2, g2⟩
  have I2 := (I1.kept g2 (by simp; omega)).kept (gb_alloc (gb_refl w2 none) (.cells #[.int .u64 0, .int .u64 0, .int .u64 0, .int .i64 0, .int .u64 0, .int .u64 0, .int .u64 0] 25)) (by simp)
  have T2' := T2.kept (gb_alloc (gb_refl w2 none) (.cells #[.int .u64 0, .int .u64 0, .int .u64 0, .int .i64 0, .int .u64 0, .int .u64 0, .int .u64 0] 25)) (by simp)
  have n2 : w1.heap.size < w2.heap.size := T2.lt
  have HB2 := (below_row HB1 g2 (by omega)).alloc (below_row HB1 g2 (by omega)).size (.cells #[.int .u64 0, .int .u64 0, .int .u64 0, .int .i64 0, .int .u64 0, .int .u64 0, .int .u64 0] 25)
  have O2 := TAt.new w2 0 0 0 0 0 0 0
  clear I1 HB1 T1 g2 T2
  go_wp2_with (go_at_call 8; refine (addLookup_any w2.heap.size 0 0 0 0 0 0 0 hops o _ O2).mono ?_)
  rintro r w3 ⟨rfl, O3, g3⟩
  rw [wrap_one, wrap_zero_add, wrap_zero_add, mx_zero hh0] at O3
  have I3 := I2.kept g3 (by simp; omega)
  have T3 := T2'.kept g3 (by simp; omega)
  have HB3 := below_row HB2 g3 (by omega)
  clear I2 HB2 T2' g3 O2
  obtain ⟨c0, c1, c2, c3, c4, c5, c6⟩ := I3.cells
  go_wp2_with (go_at_call 7; refine (toTally_end l h s m q t e _).mono ?_)
  rintro r w4 ⟨rfl, hb4⟩
  clear c0 c1 c2 c3 c4 c5 c6
  have I4 := (I3.kept (gb_below hb4) (by simp)).kept (gb_alloc (gb_refl w4 none) (.cells #[.int .u64 l, .int .u64 h, .int .u64 s, .int .i64 m, .int .u64 q, .int .u64 t, .int .u64 e] 25)) (by simp)
  have T4 := (T3.kept (gb_below hb4) (by simp)).kept (gb_alloc (gb_refl w4 none) (.cells #[.int .u64 l, .int .u64 h, .int .u64 s, .int .i64 m, .int .u64 q, .int .u64 t, .int .u64 e] 25)) (by simp)
  have O4 := O3.kept (gb_below hb4) (by simp)
  have n4 : w2.heap.size < w4.heap.size := O4.lt
  have O4' := O4.kept (gb_alloc (gb_refl w4 none) (.cells #[.int .u64 l, .int .u64 h, .int .u64 s, .int .i64 m, .int .u64 q, .int .u64 t, .int .u64 e] 25)) (by simp)
  have HB4 := (HB3.trans (hb4.mono HB3.size)).alloc (HB3.trans (hb4.mono HB3.size)).size (.cells #[.int .u64 l, .int .u64 h, .int .u64 s, .int .i64 m, .int .u64 q, .int .u64 t, .int .u64 e] 25)
  have M4 := TAt.new w4 l h s m q t e
  obtain ⟨c0, c1, c2, c3, c4, c5, c6⟩ := O4.cells
  clear I3 T3 HB3 hb4 O3 O4
  go_wp2_with (go_at_call 10; refine (zadd_any w4.heap.size l h s m q t e _ _ _ _ _ _ _ _ M4).mono ?_)
  rintro r w5 ⟨rfl, M5, g5⟩
  clear c0 c1 c2 c3 c4 c5 c6
  have I5 := I4.kept g5 (by simp; omega)
  have T5 := T4.kept g5 (by simp; omega)
  have O5 := O4'.kept g5 (by simp; omega)
  have n5 : w4.heap.size < w5.heap.size := M5.lt
  have HB5 : Hid (Below w.heap.size w w5) := below_row HB4 g5 (by omega)
  clear I4 T4 O4' M4 HB4 g5
  rw [wrong_one q o uq, wrap_add_zero ut, wrap_add_zero ue] at M5
  have d0 := one_more l
  have d1 := w_back h (IntKind.u64.wrap hops) (w_range hops).1 (w_range hops).2
  generalize IntKind.u64.wrap (l + 1) = X0 at M5 T5 d0
  generalize IntKind.u64.wrap (h + IntKind.u64.wrap hops) = X1 at M5 T5 d1
  generalize IntKind.u64.wrap (s + IntKind.u64.wrap (IntKind.u64.wrap hops * IntKind.u64.wrap hops)) = X2 at M5 T5
  generalize mx m hops = X3 at M5 T5
  generalize (bif o then q else IntKind.u64.wrap (q + 1)) = X4 at M5 T5
  obtain ⟨i0, i1, i2, i3, i4, i5, i6⟩ := I5.cells
  obtain ⟨a0, a1, a2, a3, a4, a5, a6⟩ := T5.cells
  obtain ⟨b0, b1, b2, b3, b4, b5, b6⟩ := M5.cells
  have e0 : (IntKind.u64.wrap (X0 - l) == 1) = true := by rw [beq_iff_eq]; exact d0
  have e1 : (IntKind.u64.wrap (X1 - h) == IntKind.u64.wrap hops) = true := by rw [beq_iff_eq]; exact d1
  have m0 : w.heap.size < w5.heap.size := by omega
  have m1 : w1.heap.size < w5.heap.size := by omega
  have m2 : w2.heap.size < w5.heap.size := by omega
  clear d0 d1 I5 T5 M5 uq ut ue n1 n2 n4
  cases o with
  | true =>
    have O6 : TAt w5 w2.heap.size 1 (IntKind.u64.wrap hops) (IntKind.u64.wrap (IntKind.u64.wrap hops * IntKind.u64.wrap hops)) hops 0 0 0 := O5
    obtain ⟨o0, o1, o2, o3, o4, o5, o6⟩ := O6.cells
    clear O5 O6
    go_wp2
    go_ret
    exact ⟨rfl, HB5.out.alloc HB5.out.size _⟩
  | false =>
    have O6 : TAt w5 w2.heap.size 1 (IntKind.u64.wrap hops) (IntKind.u64.wrap (IntKind.u64.wrap hops * IntKind.u64.wrap hops)) hops 1 0 0 := O5
    obtain ⟨o0, o1, o2, o3, o4, o5, o6⟩ := O6.cells
    clear O5 O6
    go_wp2
    go_ret
    exact ⟨rfl, HB5.out.alloc HB5.out.size _⟩

end Go.Proofs.Qxb6605508a
