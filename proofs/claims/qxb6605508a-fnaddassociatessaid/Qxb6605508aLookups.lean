/-
  FnAddLookupOrderFree, walked.
-/
import Derived.Test.Qxb6605508aMax
import Derived.Deep.QuietTactic
import Derived.BigQuiet
namespace Go.Proofs.Qxb6605508a
open Go.RowKit

/-- A store into a block of the call's own. -/
theorem below_row {w w1 w2 : World} {b : Nat} (h : Below w.heap.size w w1) (hg : w1.grownBy w2 (some b)) (hb : w.heap.size ≤ b) : Below w.heap.size w w2 :=
  h.grown hg h.size (fun k hk => by have := Option.some.inj hk; omega)

theorem wrong_two (q : Int) (o1 o2 : Bool) : IntKind.u64.wrap ((bif o2 then (bif o1 then q else IntKind.u64.wrap (q + 1)) else IntKind.u64.wrap ((bif o1 then q else IntKind.u64.wrap (q + 1)) + 1)) - q) = (bif o1 then 0 else 1) + (bif o2 then 0 else 1) := by
  cases o1 <;> cases o2 <;> simp only [cond_true, cond_false, IntKind.wrap_u64] <;> omega
theorem wrong_swap (q : Int) (o1 o2 : Bool) : (bif o1 then (bif o2 then q else IntKind.u64.wrap (q + 1)) else IntKind.u64.wrap ((bif o2 then q else IntKind.u64.wrap (q + 1)) + 1)) = (bif o2 then (bif o1 then q else IntKind.u64.wrap (q + 1)) else IntKind.u64.wrap ((bif o1 then q else IntKind.u64.wrap (q + 1)) + 1)) := by
  cases o1 <;> cases o2 <;> rfl
theorem two_more (l : Int) : IntKind.u64.wrap (IntKind.u64.wrap (IntKind.u64.wrap (l + 1) + 1) - l) = 2 := by
  simp only [IntKind.wrap_u64]; omega

set_option maxRecDepth 100000 in
set_option maxHeartbeats 2000000 in
theorem lookups_any (l h s m q t e h1 h2 : Int) (o1 o2 : Bool) (w : World) :
    Calls Try.prog 3 #[.agg #[.int .u64 l, .int .u64 h, .int .u64 s, .int .i64 m, .int .u64 q, .int .u64 t, .int .u64 e], .int .i64 h1, .bool o1, .int .i64 h2, .bool o2] w fun r w' => r = .returned (.bool true) ∧ Below w.heap.size w w' := by
  have I0 := IAt.new w l h s m q t e
  have HB0 : Below w.heap.size w (w.alloc (.cells #[.int .u64 l, .int .u64 h, .int .u64 s, .int .i64 m, .int .u64 q, .int .u64 t, .int .u64 e] 24)) := (Below.refl _ w).alloc (Nat.le_refl _) _
  go_enter Try.func3, Try.ntmps3
  go_wp2_with (go_at_call 7; refine (toTally_any l h s m q t e _).mono ?_)
  rintro r w1 ⟨rfl, hb1⟩
  have I1 := (I0.kept (gb_below hb1) (by simp)).kept (gb_alloc (gb_refl w1 none) (.cells #[.int .u64 l, .int .u64 h, .int .u64 s, .int .i64 m, .int .u64 q, .int .u64 t, .int .u64 e] 25)) (by simp)
  have n1 : w.heap.size < w1.heap.size := (I0.kept (gb_below hb1) (by simp)).lt
  have HB1 := (HB0.trans (hb1.mono HB0.size)).alloc (HB0.trans (hb1.mono HB0.size)).size (.cells #[.int .u64 l, .int .u64 h, .int .u64 s, .int .i64 m, .int .u64 q, .int .u64 t, .int .u64 e] 25)
  have T1 := TAt.new w1 l h s m q t e
  clear I0 HB0 hb1
  go_wp2_with (go_at_call 8; refine (addLookup_any w1.heap.size l h s m q t e h1 o1 _ T1).mono ?_)
  rintro r w2 ⟨rfl, T2, g2⟩
  have I2 := I1.kept g2 (by simp; omega)
  have HB2 := below_row HB1 g2 (by omega)
  clear I1 HB1 T1 g2
  go_wp2_with (go_at_call 8; refine (addLookup_any w1.heap.size _ _ _ _ _ _ _ h2 o2 _ T2).mono ?_)
  rintro r w3 ⟨rfl, T3, g3⟩
  have I3 := I2.kept g3 (by simp; omega)
  have HB3 := below_row HB2 g3 (by omega)
  clear I2 HB2 T2 g3
  obtain ⟨c0, c1, c2, c3, c4, c5, c6⟩ := I3.cells
  go_wp2_with (go_at_call 7; refine (toTally_any l h s m q t e _).mono ?_)
  rintro r w4 ⟨rfl, hb4⟩
  clear c0 c1 c2 c3 c4 c5 c6
  have I4 := (I3.kept (gb_below hb4) (by simp)).kept (gb_alloc (gb_refl w4 none) (.cells #[.int .u64 l, .int .u64 h, .int .u64 s, .int .i64 m, .int .u64 q, .int .u64 t, .int .u64 e] 25)) (by simp)
  have T4 := (T3.kept (gb_below hb4) (by simp)).kept (gb_alloc (gb_refl w4 none) (.cells #[.int .u64 l, .int .u64 h, .int .u64 s, .int .i64 m, .int .u64 q, .int .u64 t, .int .u64 e] 25)) (by simp)
  have n4 : w1.heap.size < w4.heap.size := (T3.kept (gb_below hb4) (by simp)).lt
  have HB4 := (HB3.trans (hb4.mono HB3.size)).alloc (HB3.trans (hb4.mono HB3.size)).size (.cells #[.int .u64 l, .int .u64 h, .int .u64 s, .int .i64 m, .int .u64 q, .int .u64 t, .int .u64 e] 25)
  have U4 := TAt.new w4 l h s m q t e
  clear I3 T3 HB3 hb4
  go_wp2_with (go_at_call 8; refine (addLookup_any w4.heap.size l h s m q t e h2 o2 _ U4).mono ?_)
  rintro r w5 ⟨rfl, U5, g5⟩
  have I5 := I4.kept g5 (by simp; omega)
  have T5 := T4.kept g5 (by simp; omega)
  have HB5 := below_row HB4 g5 (by omega)
  clear I4 T4 HB4 U4 g5
  go_wp2_with (go_at_call 8; refine (addLookup_any w4.heap.size _ _ _ _ _ _ _ h1 o1 _ U5).mono ?_)
  rintro r w6 ⟨rfl, U6, g6⟩
  have I6 := I5.kept g6 (by simp; omega)
  have T6 := T5.kept g6 (by simp; omega)
  have HB6 : Hid (Below w.heap.size w w6) := below_row HB5 g6 (by omega)
  clear I5 T5 HB5 U5 g6
  rw [w_swap h, w_swap s, mx_swap m h2 h1, wrong_swap q o1 o2] at U6
  have d0 := two_more l
  have d1 := w_back2 h (IntKind.u64.wrap h1) (IntKind.u64.wrap h2)
  have d2 := w_back2 s (IntKind.u64.wrap (IntKind.u64.wrap h1 * IntKind.u64.wrap h1)) (IntKind.u64.wrap (IntKind.u64.wrap h2 * IntKind.u64.wrap h2))
  have d3 := mx_is3 m h1 h2
  have d4 := wrong_two q o1 o2
  generalize IntKind.u64.wrap (IntKind.u64.wrap (l + 1) + 1) = X0 at U6 T6 d0
  generalize IntKind.u64.wrap (IntKind.u64.wrap (h + IntKind.u64.wrap h1) + IntKind.u64.wrap h2) = X1 at U6 T6 d1
  generalize IntKind.u64.wrap (IntKind.u64.wrap (s + IntKind.u64.wrap (IntKind.u64.wrap h1 * IntKind.u64.wrap h1)) + IntKind.u64.wrap (IntKind.u64.wrap h2 * IntKind.u64.wrap h2)) = X2 at U6 T6 d2
  generalize mx (mx m h1) h2 = X3 at U6 T6 d3
  generalize (bif o2 then (bif o1 then q else IntKind.u64.wrap (q + 1)) else IntKind.u64.wrap ((bif o1 then q else IntKind.u64.wrap (q + 1)) + 1)) = X4 at U6 T6 d4
  obtain ⟨i0, i1, i2, i3, i4, i5, i6⟩ := I6.cells
  obtain ⟨a0, a1, a2, a3, a4, a5, a6⟩ := T6.cells
  obtain ⟨b0, b1, b2, b3, b4, b5, b6⟩ := U6.cells
  have e0 : (IntKind.u64.wrap (X0 - l) == 2) = true := by rw [beq_iff_eq]; exact d0
  have e1 : (IntKind.u64.wrap (X1 - h) == IntKind.u64.wrap (IntKind.u64.wrap h1 + IntKind.u64.wrap h2)) = true := by rw [beq_iff_eq]; exact d1
  have e2 : (IntKind.u64.wrap (X2 - s) == IntKind.u64.wrap (IntKind.u64.wrap (IntKind.u64.wrap h1 * IntKind.u64.wrap h1) + IntKind.u64.wrap (IntKind.u64.wrap h2 * IntKind.u64.wrap h2))) = true := by rw [beq_iff_eq]; exact d2
  have HMAX : Hid (∀ W : World, Calls Try.prog 9 #[.int .i64 X3, .int .i64 m, .int .i64 h1, .int .i64 h2] W fun e w' => e = .returned (.bool true) ∧ w' = W) := fun W => isMax3_yes X3 m h1 h2 W d3.1 d3.2.1 d3.2.2.1 d3.2.2.2
  clear d0 d1 d2 d3 I6 T6 U6
  cases o1 with
  | true =>
    cases o2 with
    | true =>
      have e4 : (IntKind.u64.wrap (X4 - q) == 0) = true := by rw [beq_iff_eq]; exact d4
      clear d4
      go_wp2_with (go_at_call 9; refine (HMAX.out _).mono ?_; rintro e w' ⟨rfl, hw⟩; obtain rfl := hw.symm)
      go_ret
      exact ⟨rfl, HB6.out⟩
    | false =>
      have e4 : (IntKind.u64.wrap (X4 - q) == 1) = true := by rw [beq_iff_eq]; exact d4
      clear d4
      go_wp2_with (go_at_call 9; refine (HMAX.out _).mono ?_; rintro e w' ⟨rfl, hw⟩; obtain rfl := hw.symm)
      go_ret
      exact ⟨rfl, HB6.out⟩
  | false =>
    cases o2 with
    | true =>
      have e4 : (IntKind.u64.wrap (X4 - q) == 1) = true := by rw [beq_iff_eq]; exact d4
      clear d4
      go_wp2_with (go_at_call 9; refine (HMAX.out _).mono ?_; rintro e w' ⟨rfl, hw⟩; obtain rfl := hw.symm)
      go_ret
      exact ⟨rfl, HB6.out⟩
    | false =>
      have e4 : (IntKind.u64.wrap (X4 - q) == 2) = true := by rw [beq_iff_eq]; exact d4
      clear d4
      go_wp2_with (go_at_call 9; refine (HMAX.out _).mono ?_; rintro e w' ⟨rfl, hw⟩; obtain rfl := hw.symm)
      go_ret
      exact ⟨rfl, HB6.out⟩

end Go.Proofs.Qxb6605508a
