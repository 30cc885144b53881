/-
  FnAddCommutesExact, walked.
-/
import Derived.Test.Qxb6605508aMerges
namespace Go.Proofs.Qxb6605508a
open Go.RowKit

theorem IAt.new2 (w : World) (o : Obj) (l h s m q t e : Int) : IAt ((w.alloc o).alloc (.cells #[.int .u64 l, .int .u64 h, .int .u64 s, .int .i64 m, .int .u64 q, .int .u64 t, .int .u64 e] 24)) (w.heap.size + 1) l h s m q t e := by
  have h := IAt.new (w.alloc o) l h s m q t e
  rw [World.size_alloc] at h
  exact h

set_option maxRecDepth 100000 in
set_option maxHeartbeats 4000000 in
theorem commutes_any (l h s m q t e l' h' s' m' q' t' e' : Int) (w : World) (ul : U64 l') (uh : U64 h') (us : U64 s') (uq : U64 q') (ut : U64 t') (ue : U64 e') :
    Calls Try.prog 5 #[.agg #[.int .u64 l, .int .u64 h, .int .u64 s, .int .i64 m, .int .u64 q, .int .u64 t, .int .u64 e], .agg #[.int .u64 l', .int .u64 h', .int .u64 s', .int .i64 m', .int .u64 q', .int .u64 t', .int .u64 e']] w fun r w' => r = .returned (.bool true) ∧ Below w.heap.size w w' := by
  have It0 := (IAt.new w l h s m q t e).kept (gb_alloc (gb_refl (w.alloc (.cells #[.int .u64 l, .int .u64 h, .int .u64 s, .int .i64 m, .int .u64 q, .int .u64 t, .int .u64 e] 24)) none) (.cells #[.int .u64 l', .int .u64 h', .int .u64 s', .int .i64 m', .int .u64 q', .int .u64 t', .int .u64 e'] 24)) (by simp)
  have Iu0 := IAt.new2 w (.cells #[.int .u64 l, .int .u64 h, .int .u64 s, .int .i64 m, .int .u64 q, .int .u64 t, .int .u64 e] 24) l' h' s' m' q' t' e'
  have HB0 : Below w.heap.size w ((w.alloc (.cells #[.int .u64 l, .int .u64 h, .int .u64 s, .int .i64 m, .int .u64 q, .int .u64 t, .int .u64 e] 24)).alloc (.cells #[.int .u64 l', .int .u64 h', .int .u64 s', .int .i64 m', .int .u64 q', .int .u64 t', .int .u64 e'] 24)) := (((Below.refl w.heap.size w).alloc (Nat.le_refl _) (.cells #[.int .u64 l, .int .u64 h, .int .u64 s, .int .i64 m, .int .u64 q, .int .u64 t, .int .u64 e] 24)).alloc (by simp) (.cells #[.int .u64 l', .int .u64 h', .int .u64 s', .int .i64 m', .int .u64 q', .int .u64 t', .int .u64 e'] 24))
  go_enter Try.func5, Try.ntmps5
  go_wp2_with (go_at_call 7; refine (toTally_end l h s m q t e _).mono ?_)
  rintro r w1 ⟨rfl, hb1⟩
  have It1 := It0.kept (gb_below hb1) (by simp)
  have nIt1 : w.heap.size < w1.heap.size := It1.lt
  have Iu1 := Iu0.kept (gb_below hb1) (by simp)
  have nIu1 : w.heap.size + 1 < w1.heap.size := Iu1.lt
  have HB1 := HB0.trans (hb1.mono HB0.size)
  clear It0 Iu0 HB0 hb1
  have It1a := It1.kept (gb_alloc (gb_refl w1 none) (.cells #[.int .u64 l, .int .u64 h, .int .u64 s, .int .i64 m, .int .u64 q, .int .u64 t, .int .u64 e] 25)) (by simp)
  have Iu1a := Iu1.kept (gb_alloc (gb_refl w1 none) (.cells #[.int .u64 l, .int .u64 h, .int .u64 s, .int .i64 m, .int .u64 q, .int .u64 t, .int .u64 e] 25)) (by simp)
  have HB1a := HB1.alloc HB1.size (.cells #[.int .u64 l, .int .u64 h, .int .u64 s, .int .i64 m, .int .u64 q, .int .u64 t, .int .u64 e] 25)
  clear HB1
  have A1a := TAt.new w1 l h s m q t e
  obtain ⟨c0, c1, c2, c3, c4, c5, c6⟩ := Iu1.cells
  go_wp2_with (go_at_call 7; refine (toTally_end l' h' s' m' q' t' e' _).mono ?_)
  rintro r w2 ⟨rfl, hb2⟩
  clear c0 c1 c2 c3 c4 c5 c6
  have It2 := It1a.kept (gb_below hb2) (by simp)
  have nIt2 : w.heap.size < w2.heap.size := It2.lt
  have Iu2 := Iu1a.kept (gb_below hb2) (by simp)
  have nIu2 : w.heap.size + 1 < w2.heap.size := Iu2.lt
  have A2 := A1a.kept (gb_below hb2) (by simp)
  have nA2 : w1.heap.size < w2.heap.size := A2.lt
  have HB2 := HB1a.trans (hb2.mono HB1a.size)
  clear It1a Iu1a A1a HB1a hb2
  clear It1 Iu1
  have It2a := It2.kept (gb_alloc (gb_refl w2 none) (.cells #[.int .u64 l', .int .u64 h', .int .u64 s', .int .i64 m', .int .u64 q', .int .u64 t', .int .u64 e'] 25)) (by simp)
  have Iu2a := Iu2.kept (gb_alloc (gb_refl w2 none) (.cells #[.int .u64 l', .int .u64 h', .int .u64 s', .int .i64 m', .int .u64 q', .int .u64 t', .int .u64 e'] 25)) (by simp)
  have A2a := A2.kept (gb_alloc (gb_refl w2 none) (.cells #[.int .u64 l', .int .u64 h', .int .u64 s', .int .i64 m', .int .u64 q', .int .u64 t', .int .u64 e'] 25)) (by simp)
  have HB2a := HB2.alloc HB2.size (.cells #[.int .u64 l', .int .u64 h', .int .u64 s', .int .i64 m', .int .u64 q', .int .u64 t', .int .u64 e'] 25)
  clear HB2
  have B2a := TAt.new w2 l' h' s' m' q' t' e'
  obtain ⟨c0, c1, c2, c3, c4, c5, c6⟩ := It2.cells
  go_wp2_with (go_at_call 7; refine (toTally_end l h s m q t e _).mono ?_)
  rintro r w3 ⟨rfl, hb3⟩
  clear c0 c1 c2 c3 c4 c5 c6
  have It3 := It2a.kept (gb_below hb3) (by simp)
  have nIt3 : w.heap.size < w3.heap.size := It3.lt
  have Iu3 := Iu2a.kept (gb_below hb3) (by simp)
  have nIu3 : w.heap.size + 1 < w3.heap.size := Iu3.lt
  have A3 := A2a.kept (gb_below hb3) (by simp)
  have nA3 : w1.heap.size < w3.heap.size := A3.lt
  have B3 := B2a.kept (gb_below hb3) (by simp)
  have nB3 : w2.heap.size < w3.heap.size := B3.lt
  have HB3 := HB2a.trans (hb3.mono HB2a.size)
  clear It2a Iu2a A2a B2a HB2a hb3
  clear It2 Iu2 A2
  have It3a := It3.kept (gb_alloc (gb_refl w3 none) (.cells #[.int .u64 l, .int .u64 h, .int .u64 s, .int .i64 m, .int .u64 q, .int .u64 t, .int .u64 e] 25)) (by simp)
  have Iu3a := Iu3.kept (gb_alloc (gb_refl w3 none) (.cells #[.int .u64 l, .int .u64 h, .int .u64 s, .int .i64 m, .int .u64 q, .int .u64 t, .int .u64 e] 25)) (by simp)
  have A3a := A3.kept (gb_alloc (gb_refl w3 none) (.cells #[.int .u64 l, .int .u64 h, .int .u64 s, .int .i64 m, .int .u64 q, .int .u64 t, .int .u64 e] 25)) (by simp)
  have B3a := B3.kept (gb_alloc (gb_refl w3 none) (.cells #[.int .u64 l, .int .u64 h, .int .u64 s, .int .i64 m, .int .u64 q, .int .u64 t, .int .u64 e] 25)) (by simp)
  have HB3a := HB3.alloc HB3.size (.cells #[.int .u64 l, .int .u64 h, .int .u64 s, .int .i64 m, .int .u64 q, .int .u64 t, .int .u64 e] 25)
  clear HB3
  have C3a := TAt.new w3 l h s m q t e
  obtain ⟨c0, c1, c2, c3, c4, c5, c6⟩ := B3.cells
  go_wp2_with (go_at_call 10; refine (zadd_any w3.heap.size l h s m q t e _ _ _ _ _ _ _ _ C3a).mono ?_)
  rintro r w4 ⟨rfl, C4, g4⟩
  clear c0 c1 c2 c3 c4 c5 c6
  have It4 := It3a.kept g4 (by simp; omega)
  have Iu4 := Iu3a.kept g4 (by simp; omega)
  have A4 := A3a.kept g4 (by simp; omega)
  have B4 := B3a.kept g4 (by simp; omega)
  have nC4 : w3.heap.size < w4.heap.size := C4.lt
  have HB4 := below_row HB3a g4 (by omega)
  clear C3a It3a Iu3a A3a B3a HB3a g4
  clear It3 Iu3 A3 B3
  obtain ⟨c0, c1, c2, c3, c4, c5, c6⟩ := Iu4.cells
  go_wp2_with (go_at_call 7; refine (toTally_end l' h' s' m' q' t' e' _).mono ?_)
  rintro r w5 ⟨rfl, hb5⟩
  clear c0 c1 c2 c3 c4 c5 c6
  have It5 := It4.kept (gb_below hb5) (by simp)
  have nIt5 : w.heap.size < w5.heap.size := It5.lt
  have Iu5 := Iu4.kept (gb_below hb5) (by simp)
  have nIu5 : w.heap.size + 1 < w5.heap.size := Iu5.lt
  have A5 := A4.kept (gb_below hb5) (by simp)
  have nA5 : w1.heap.size < w5.heap.size := A5.lt
  have B5 := B4.kept (gb_below hb5) (by simp)
  have nB5 : w2.heap.size < w5.heap.size := B5.lt
  have C5 := C4.kept (gb_below hb5) (by simp)
  have nC5 : w3.heap.size < w5.heap.size := C5.lt
  have HB5 := HB4.trans (hb5.mono HB4.size)
  clear It4 Iu4 A4 B4 C4 HB4 hb5
  have It5a := It5.kept (gb_alloc (gb_refl w5 none) (.cells #[.int .u64 l', .int .u64 h', .int .u64 s', .int .i64 m', .int .u64 q', .int .u64 t', .int .u64 e'] 25)) (by simp)
  have Iu5a := Iu5.kept (gb_alloc (gb_refl w5 none) (.cells #[.int .u64 l', .int .u64 h', .int .u64 s', .int .i64 m', .int .u64 q', .int .u64 t', .int .u64 e'] 25)) (by simp)
  have A5a := A5.kept (gb_alloc (gb_refl w5 none) (.cells #[.int .u64 l', .int .u64 h', .int .u64 s', .int .i64 m', .int .u64 q', .int .u64 t', .int .u64 e'] 25)) (by simp)
  have B5a := B5.kept (gb_alloc (gb_refl w5 none) (.cells #[.int .u64 l', .int .u64 h', .int .u64 s', .int .i64 m', .int .u64 q', .int .u64 t', .int .u64 e'] 25)) (by simp)
  have C5a := C5.kept (gb_alloc (gb_refl w5 none) (.cells #[.int .u64 l', .int .u64 h', .int .u64 s', .int .i64 m', .int .u64 q', .int .u64 t', .int .u64 e'] 25)) (by simp)
  have HB5a := HB5.alloc HB5.size (.cells #[.int .u64 l', .int .u64 h', .int .u64 s', .int .i64 m', .int .u64 q', .int .u64 t', .int .u64 e'] 25)
  clear HB5
  have D5a := TAt.new w5 l' h' s' m' q' t' e'
  obtain ⟨c0, c1, c2, c3, c4, c5, c6⟩ := A5.cells
  go_wp2_with (go_at_call 10; refine (zadd_any w5.heap.size l' h' s' m' q' t' e' _ _ _ _ _ _ _ _ D5a).mono ?_)
  rintro r w6 ⟨rfl, D6, g6⟩
  clear c0 c1 c2 c3 c4 c5 c6
  have It6 := It5a.kept g6 (by simp; omega)
  have Iu6 := Iu5a.kept g6 (by simp; omega)
  have A6 := A5a.kept g6 (by simp; omega)
  have B6 := B5a.kept g6 (by simp; omega)
  have C6 := C5a.kept g6 (by simp; omega)
  have nD6 : w5.heap.size < w6.heap.size := D6.lt
  have HB6 := below_row HB5a g6 (by omega)
  clear D5a It5a Iu5a A5a B5a C5a HB5a g6
  clear It5 Iu5 A5 B5 C5
  rw [w_comm l' l, w_comm h' h, w_comm s' s, mx_comm m' m, w_comm q' q, w_comm t' t, w_comm e' e] at D6
  have d0 := w_back l l' ul.1 ul.2
  have d1 := w_back h h' uh.1 uh.2
  have d2 := w_back s s' us.1 us.2
  have d3 := mx_is2 m m'
  have d4 := w_back q q' uq.1 uq.2
  have d5 := w_back t t' ut.1 ut.2
  have d6 := w_back e e' ue.1 ue.2
  generalize IntKind.u64.wrap (l + l') = X0 at C6 D6 d0
  generalize IntKind.u64.wrap (h + h') = X1 at C6 D6 d1
  generalize IntKind.u64.wrap (s + s') = X2 at C6 D6 d2
  generalize mx m m' = X3 at C6 D6 d3
  generalize IntKind.u64.wrap (q + q') = X4 at C6 D6 d4
  generalize IntKind.u64.wrap (t + t') = X5 at C6 D6 d5
  generalize IntKind.u64.wrap (e + e') = X6 at C6 D6 d6
  obtain ⟨a0, a1, a2, a3, a4, a5, a6⟩ := A6.cells
  obtain ⟨b0, b1, b2, b3, b4, b5, b6⟩ := B6.cells
  obtain ⟨c0, c1, c2, c3, c4, c5, c6⟩ := C6.cells
  obtain ⟨x0, x1, x2, x3, x4, x5, x6⟩ := D6.cells
  have e0 : (IntKind.u64.wrap (X0 - l) == l') = true := by rw [beq_iff_eq]; exact d0
  have e1 : (IntKind.u64.wrap (X1 - h) == h') = true := by rw [beq_iff_eq]; exact d1
  have e2 : (IntKind.u64.wrap (X2 - s) == s') = true := by rw [beq_iff_eq]; exact d2
  have e4 : (IntKind.u64.wrap (X4 - q) == q') = true := by rw [beq_iff_eq]; exact d4
  have e5 : (IntKind.u64.wrap (X5 - t) == t') = true := by rw [beq_iff_eq]; exact d5
  have e6 : (IntKind.u64.wrap (X6 - e) == e') = true := by rw [beq_iff_eq]; exact d6
  have HMAX : Hid (∀ W : World, Calls Try.prog 11 #[.int .i64 X3, .int .i64 m, .int .i64 m'] W fun e w' => e = .returned (.bool true) ∧ w' = W) := fun W => isMax2_yes X3 m m' W d3.1 d3.2.1 d3.2.2
  have HBZ : Hid (Below w.heap.size w w6) := HB6
  clear d0 d1 d2 d3 d4 d5 d6 A6 B6 C6 D6 It6 Iu6 HB6 ul uh us uq ut ue
  go_wp2_with (go_at_call 11; refine (HMAX.out _).mono ?_; rintro e w' ⟨rfl, hw⟩; obtain rfl := hw.symm)
  go_ret
  exact ⟨rfl, HBZ.out⟩

end Go.Proofs.Qxb6605508a
