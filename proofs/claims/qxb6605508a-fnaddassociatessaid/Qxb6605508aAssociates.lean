/-
  FnAddAssociates, walked.
-/
import Derived.Test.Qxb6605508aCommutes
namespace Go.Proofs.Qxb6605508a
open Go.RowKit

theorem IAt.new3 (w : World) (o o' : Obj) (l h s m q t e : Int) : IAt (((w.alloc o).alloc o').alloc (.cells #[.int .u64 l, .int .u64 h, .int .u64 s, .int .i64 m, .int .u64 q, .int .u64 t, .int .u64 e] 24)) (w.heap.size + 1 + 1) l h s m q t e := by
  have h := IAt.new ((w.alloc o).alloc o') l h s m q t e
  rw [World.size_alloc, World.size_alloc] at h
  exact h

set_option maxRecDepth 100000 in
set_option maxHeartbeats 4000000 in
theorem associates_any (l h s m q t e l' h' s' m' q' t' e' l'' h'' s'' m'' q'' t'' e'' : Int) (w : World) :
    Calls Try.prog 6 #[.agg #[.int .u64 l, .int .u64 h, .int .u64 s, .int .i64 m, .int .u64 q, .int .u64 t, .int .u64 e], .agg #[.int .u64 l', .int .u64 h', .int .u64 s', .int .i64 m', .int .u64 q', .int .u64 t', .int .u64 e'], .agg #[.int .u64 l'', .int .u64 h'', .int .u64 s'', .int .i64 m'', .int .u64 q'', .int .u64 t'', .int .u64 e'']] w fun r w' => r = .returned (.bool true) ∧ Below w.heap.size w w' := by
  have It0 := ((IAt.new w l h s m q t e).kept (gb_alloc (gb_refl (w.alloc (.cells #[.int .u64 l, .int .u64 h, .int .u64 s, .int .i64 m, .int .u64 q, .int .u64 t, .int .u64 e] 24)) none) (.cells #[.int .u64 l', .int .u64 h', .int .u64 s', .int .i64 m', .int .u64 q', .int .u64 t', .int .u64 e'] 24)) (by simp)).kept (gb_alloc (gb_refl ((w.alloc (.cells #[.int .u64 l, .int .u64 h, .int .u64 s, .int .i64 m, .int .u64 q, .int .u64 t, .int .u64 e] 24)).alloc (.cells #[.int .u64 l', .int .u64 h', .int .u64 s', .int .i64 m', .int .u64 q', .int .u64 t', .int .u64 e'] 24)) none) (.cells #[.int .u64 l'', .int .u64 h'', .int .u64 s'', .int .i64 m'', .int .u64 q'', .int .u64 t'', .int .u64 e''] 24)) (by simp)
  have Iu0 := (IAt.new2 w (.cells #[.int .u64 l, .int .u64 h, .int .u64 s, .int .i64 m, .int .u64 q, .int .u64 t, .int .u64 e] 24) l' h' s' m' q' t' e').kept (gb_alloc (gb_refl ((w.alloc (.cells #[.int .u64 l, .int .u64 h, .int .u64 s, .int .i64 m, .int .u64 q, .int .u64 t, .int .u64 e] 24)).alloc (.cells #[.int .u64 l', .int .u64 h', .int .u64 s', .int .i64 m', .int .u64 q', .int .u64 t', .int .u64 e'] 24)) none) (.cells #[.int .u64 l'', .int .u64 h'', .int .u64 s'', .int .i64 m'', .int .u64 q'', .int .u64 t'', .int .u64 e''] 24)) (by simp)
  have Iv0 := IAt.new3 w (.cells #[.int .u64 l, .int .u64 h, .int .u64 s, .int .i64 m, .int .u64 q, .int .u64 t, .int .u64 e] 24) (.cells #[.int .u64 l', .int .u64 h', .int .u64 s', .int .i64 m', .int .u64 q', .int .u64 t', .int .u64 e'] 24) l'' h'' s'' m'' q'' t'' e''
  have HB0 : Below w.heap.size w (((w.alloc (.cells #[.int .u64 l, .int .u64 h, .int .u64 s, .int .i64 m, .int .u64 q, .int .u64 t, .int .u64 e] 24)).alloc (.cells #[.int .u64 l', .int .u64 h', .int .u64 s', .int .i64 m', .int .u64 q', .int .u64 t', .int .u64 e'] 24)).alloc (.cells #[.int .u64 l'', .int .u64 h'', .int .u64 s'', .int .i64 m'', .int .u64 q'', .int .u64 t'', .int .u64 e''] 24)) := ((((Below.refl w.heap.size w).alloc (Nat.le_refl _) (.cells #[.int .u64 l, .int .u64 h, .int .u64 s, .int .i64 m, .int .u64 q, .int .u64 t, .int .u64 e] 24)).alloc (by simp) (.cells #[.int .u64 l', .int .u64 h', .int .u64 s', .int .i64 m', .int .u64 q', .int .u64 t', .int .u64 e'] 24)).alloc (by simp; omega) (.cells #[.int .u64 l'', .int .u64 h'', .int .u64 s'', .int .i64 m'', .int .u64 q'', .int .u64 t'', .int .u64 e''] 24))
  go_enter Try.func6, Try.ntmps6
  go_wp2_with (go_at_call 7; refine (toTally_end l h s m q t e _).mono ?_)
  rintro r w1 ⟨rfl, hb1⟩
  have It1 := It0.kept (gb_below hb1) (by simp)
  have nIt1 : w.heap.size < w1.heap.size := It1.lt
  have Iu1 := Iu0.kept (gb_below hb1) (by simp)
  have nIu1 : w.heap.size + 1 < w1.heap.size := Iu1.lt
  have Iv1 := Iv0.kept (gb_below hb1) (by simp)
  have nIv1 : w.heap.size + 1 + 1 < w1.heap.size := Iv1.lt
  have HB1 := HB0.trans (hb1.mono HB0.size)
  clear It0 Iu0 Iv0 HB0 hb1
  have It1a := It1.kept (gb_alloc (gb_refl w1 none) (.cells #[.int .u64 l, .int .u64 h, .int .u64 s, .int .i64 m, .int .u64 q, .int .u64 t, .int .u64 e] 25)) (by simp)
  have Iu1a := Iu1.kept (gb_alloc (gb_refl w1 none) (.cells #[.int .u64 l, .int .u64 h, .int .u64 s, .int .i64 m, .int .u64 q, .int .u64 t, .int .u64 e] 25)) (by simp)
  have Iv1a := Iv1.kept (gb_alloc (gb_refl w1 none) (.cells #[.int .u64 l, .int .u64 h, .int .u64 s, .int .i64 m, .int .u64 q, .int .u64 t, .int .u64 e] 25)) (by simp)
  have HB1a := HB1.alloc HB1.size (.cells #[.int .u64 l, .int .u64 h, .int .u64 s, .int .i64 m, .int .u64 q, .int .u64 t, .int .u64 e] 25)
  clear HB1
  have A1a := TAt.new w1 l h s m q t e
  obtain ⟨c0, c1, c2, c3, c4, c5, c6⟩ := Iu1.cells
  go_wp2_with (go_at_call 7; refine (toTally_end l' h' s' m' q' t' e' _).mono ?_)
  rintro r w2 ⟨rfl, hb2⟩
  clear c0 c1 c2 c3 c4 c5 c6
  have It2 := It1a.kept (gb_below hb2) (by simp)
  have nIt2 : w.heap.size < w2.heap.size := It2.lt
  have Iu2 := Iu1a.kept (gb_below hb2) (by simp)
  have nIu2 : w.heap.size + 1 < w2.heap.size := Iu2.lt
  have Iv2 := Iv1a.kept (gb_below hb2) (by simp)
  have nIv2 : w.heap.size + 1 + 1 < w2.heap.size := Iv2.lt
  have A2 := A1a.kept (gb_below hb2) (by simp)
  have nA2 : w1.heap.size < w2.heap.size := A2.lt
  have HB2 := HB1a.trans (hb2.mono HB1a.size)
  clear It1a Iu1a Iv1a A1a HB1a hb2
  clear It1 Iu1 Iv1
  go_wp2_with (go_at_call 10; refine (zadd_any w1.heap.size l h s m q t e _ _ _ _ _ _ _ _ A2).mono ?_)
  rintro r w3 ⟨rfl, A3, g3⟩
  have It3 := It2.kept g3 (by simp; omega)
  have Iu3 := Iu2.kept g3 (by simp; omega)
  have Iv3 := Iv2.kept g3 (by simp; omega)
  have nA3 : w1.heap.size < w3.heap.size := A3.lt
  have HB3 := below_row HB2 g3 (by omega)
  clear A2 It2 Iu2 Iv2 HB2 g3
  obtain ⟨c0, c1, c2, c3, c4, c5, c6⟩ := Iv3.cells
  go_wp2_with (go_at_call 7; refine (toTally_end l'' h'' s'' m'' q'' t'' e'' _).mono ?_)
  rintro r w4 ⟨rfl, hb4⟩
  clear c0 c1 c2 c3 c4 c5 c6
  have It4 := It3.kept (gb_below hb4) (by simp)
  have nIt4 : w.heap.size < w4.heap.size := It4.lt
  have Iu4 := Iu3.kept (gb_below hb4) (by simp)
  have nIu4 : w.heap.size + 1 < w4.heap.size := Iu4.lt
  have Iv4 := Iv3.kept (gb_below hb4) (by simp)
  have nIv4 : w.heap.size + 1 + 1 < w4.heap.size := Iv4.lt
  have A4 := A3.kept (gb_below hb4) (by simp)
  have nA4 : w1.heap.size < w4.heap.size := A4.lt
  have HB4 := HB3.trans (hb4.mono HB3.size)
  clear It3 Iu3 Iv3 A3 HB3 hb4
  go_wp2_with (go_at_call 10; refine (zadd_any w1.heap.size (IntKind.u64.wrap (l + l')) (IntKind.u64.wrap (h + h')) (IntKind.u64.wrap (s + s')) (mx m m') (IntKind.u64.wrap (q + q')) (IntKind.u64.wrap (t + t')) (IntKind.u64.wrap (e + e')) _ _ _ _ _ _ _ _ A4).mono ?_)
  rintro r w5 ⟨rfl, A5, g5⟩
  have It5 := It4.kept g5 (by simp; omega)
  have Iu5 := Iu4.kept g5 (by simp; omega)
  have Iv5 := Iv4.kept g5 (by simp; omega)
  have nA5 : w1.heap.size < w5.heap.size := A5.lt
  have HB5 := below_row HB4 g5 (by omega)
  clear A4 It4 Iu4 Iv4 HB4 g5
  obtain ⟨c0, c1, c2, c3, c4, c5, c6⟩ := Iu5.cells
  go_wp2_with (go_at_call 7; refine (toTally_end l' h' s' m' q' t' e' _).mono ?_)
  rintro r w6 ⟨rfl, hb6⟩
  clear c0 c1 c2 c3 c4 c5 c6
  have It6 := It5.kept (gb_below hb6) (by simp)
  have nIt6 : w.heap.size < w6.heap.size := It6.lt
  have Iu6 := Iu5.kept (gb_below hb6) (by simp)
  have nIu6 : w.heap.size + 1 < w6.heap.size := Iu6.lt
  have Iv6 := Iv5.kept (gb_below hb6) (by simp)
  have nIv6 : w.heap.size + 1 + 1 < w6.heap.size := Iv6.lt
  have A6 := A5.kept (gb_below hb6) (by simp)
  have nA6 : w1.heap.size < w6.heap.size := A6.lt
  have HB6 := HB5.trans (hb6.mono HB5.size)
  clear It5 Iu5 Iv5 A5 HB5 hb6
  have It6a := It6.kept (gb_alloc (gb_refl w6 none) (.cells #[.int .u64 l', .int .u64 h', .int .u64 s', .int .i64 m', .int .u64 q', .int .u64 t', .int .u64 e'] 25)) (by simp)
  have Iu6a := Iu6.kept (gb_alloc (gb_refl w6 none) (.cells #[.int .u64 l', .int .u64 h', .int .u64 s', .int .i64 m', .int .u64 q', .int .u64 t', .int .u64 e'] 25)) (by simp)
  have Iv6a := Iv6.kept (gb_alloc (gb_refl w6 none) (.cells #[.int .u64 l', .int .u64 h', .int .u64 s', .int .i64 m', .int .u64 q', .int .u64 t', .int .u64 e'] 25)) (by simp)
  have A6a := A6.kept (gb_alloc (gb_refl w6 none) (.cells #[.int .u64 l', .int .u64 h', .int .u64 s', .int .i64 m', .int .u64 q', .int .u64 t', .int .u64 e'] 25)) (by simp)
  have HB6a := HB6.alloc HB6.size (.cells #[.int .u64 l', .int .u64 h', .int .u64 s', .int .i64 m', .int .u64 q', .int .u64 t', .int .u64 e'] 25)
  clear HB6
  have B6a := TAt.new w6 l' h' s' m' q' t' e'
  obtain ⟨c0, c1, c2, c3, c4, c5, c6⟩ := Iv6.cells
  go_wp2_with (go_at_call 7; refine (toTally_end l'' h'' s'' m'' q'' t'' e'' _).mono ?_)
  rintro r w7 ⟨rfl, hb7⟩
  clear c0 c1 c2 c3 c4 c5 c6
  have It7 := It6a.kept (gb_below hb7) (by simp)
  have nIt7 : w.heap.size < w7.heap.size := It7.lt
  have Iu7 := Iu6a.kept (gb_below hb7) (by simp)
  have nIu7 : w.heap.size + 1 < w7.heap.size := Iu7.lt
  have Iv7 := Iv6a.kept (gb_below hb7) (by simp)
  have nIv7 : w.heap.size + 1 + 1 < w7.heap.size := Iv7.lt
  have A7 := A6a.kept (gb_below hb7) (by simp)
  have nA7 : w1.heap.size < w7.heap.size := A7.lt
  have B7 := B6a.kept (gb_below hb7) (by simp)
  have nB7 : w6.heap.size < w7.heap.size := B7.lt
  have HB7 := HB6a.trans (hb7.mono HB6a.size)
  clear It6a Iu6a Iv6a A6a B6a HB6a hb7
  clear It6 Iu6 Iv6 A6
  go_wp2_with (go_at_call 10; refine (zadd_any w6.heap.size l' h' s' m' q' t' e' _ _ _ _ _ _ _ _ B7).mono ?_)
  rintro r w8 ⟨rfl, B8, g8⟩
  have It8 := It7.kept g8 (by simp; omega)
  have Iu8 := Iu7.kept g8 (by simp; omega)
  have Iv8 := Iv7.kept g8 (by simp; omega)
  have A8 := A7.kept g8 (by simp; omega)
  have nB8 : w6.heap.size < w8.heap.size := B8.lt
  have HB8 := below_row HB7 g8 (by omega)
  clear B7 It7 Iu7 Iv7 A7 HB7 g8
  obtain ⟨c0, c1, c2, c3, c4, c5, c6⟩ := It8.cells
  go_wp2_with (go_at_call 7; refine (toTally_end l h s m q t e _).mono ?_)
  rintro r w9 ⟨rfl, hb9⟩
  clear c0 c1 c2 c3 c4 c5 c6
  have It9 := It8.kept (gb_below hb9) (by simp)
  have nIt9 : w.heap.size < w9.heap.size := It9.lt
  have Iu9 := Iu8.kept (gb_below hb9) (by simp)
  have nIu9 : w.heap.size + 1 < w9.heap.size := Iu9.lt
  have Iv9 := Iv8.kept (gb_below hb9) (by simp)
  have nIv9 : w.heap.size + 1 + 1 < w9.heap.size := Iv9.lt
  have A9 := A8.kept (gb_below hb9) (by simp)
  have nA9 : w1.heap.size < w9.heap.size := A9.lt
  have B9 := B8.kept (gb_below hb9) (by simp)
  have nB9 : w6.heap.size < w9.heap.size := B9.lt
  have HB9 := HB8.trans (hb9.mono HB8.size)
  clear It8 Iu8 Iv8 A8 B8 HB8 hb9
  have It9a := It9.kept (gb_alloc (gb_refl w9 none) (.cells #[.int .u64 l, .int .u64 h, .int .u64 s, .int .i64 m, .int .u64 q, .int .u64 t, .int .u64 e] 25)) (by simp)
  have Iu9a := Iu9.kept (gb_alloc (gb_refl w9 none) (.cells #[.int .u64 l, .int .u64 h, .int .u64 s, .int .i64 m, .int .u64 q, .int .u64 t, .int .u64 e] 25)) (by simp)
  have Iv9a := Iv9.kept (gb_alloc (gb_refl w9 none) (.cells #[.int .u64 l, .int .u64 h, .int .u64 s, .int .i64 m, .int .u64 q, .int .u64 t, .int .u64 e] 25)) (by simp)
  have A9a := A9.kept (gb_alloc (gb_refl w9 none) (.cells #[.int .u64 l, .int .u64 h, .int .u64 s, .int .i64 m, .int .u64 q, .int .u64 t, .int .u64 e] 25)) (by simp)
  have B9a := B9.kept (gb_alloc (gb_refl w9 none) (.cells #[.int .u64 l, .int .u64 h, .int .u64 s, .int .i64 m, .int .u64 q, .int .u64 t, .int .u64 e] 25)) (by simp)
  have HB9a := HB9.alloc HB9.size (.cells #[.int .u64 l, .int .u64 h, .int .u64 s, .int .i64 m, .int .u64 q, .int .u64 t, .int .u64 e] 25)
  clear HB9
  have C9a := TAt.new w9 l h s m q t e
  obtain ⟨c0, c1, c2, c3, c4, c5, c6⟩ := B9.cells
  go_wp2_with (go_at_call 10; refine (zadd_any w9.heap.size l h s m q t e _ _ _ _ _ _ _ _ C9a).mono ?_)
  rintro r w10 ⟨rfl, C10, g10⟩
  clear c0 c1 c2 c3 c4 c5 c6
  have It10 := It9a.kept g10 (by simp; omega)
  have Iu10 := Iu9a.kept g10 (by simp; omega)
  have Iv10 := Iv9a.kept g10 (by simp; omega)
  have A10 := A9a.kept g10 (by simp; omega)
  have B10 := B9a.kept g10 (by simp; omega)
  have nC10 : w9.heap.size < w10.heap.size := C10.lt
  have HB10 := below_row HB9a g10 (by omega)
  clear C9a It9a Iu9a Iv9a A9a B9a HB9a g10
  clear It9 Iu9 Iv9 A9 B9
  rw [← w_assoc l l' l'', ← w_assoc h h' h'', ← w_assoc s s' s'', ← mx_assoc m m' m'', ← w_assoc q q' q'', ← w_assoc t t' t'', ← w_assoc e e' e''] at C10
  have d3 := mx_is3 m m' m''
  have HMAX : Hid (∀ W : World, Calls Try.prog 9 #[.int .i64 (mx (mx m m') m''), .int .i64 m, .int .i64 m', .int .i64 m''] W fun e w' => e = .returned (.bool true) ∧ w' = W) := fun W => isMax3_yes _ m m' m'' W d3.1 d3.2.1 d3.2.2.1 d3.2.2.2
  obtain ⟨i0, i1, i2, i3, i4, i5, i6⟩ := It10.cells
  obtain ⟨j0, j1, j2, j3, j4, j5, j6⟩ := Iu10.cells
  obtain ⟨k0, k1, k2, k3, k4, k5, k6⟩ := Iv10.cells
  obtain ⟨a0, a1, a2, a3, a4, a5, a6⟩ := A10.cells
  obtain ⟨c0, c1, c2, c3, c4, c5, c6⟩ := C10.cells
  have HBZ : Hid (Below w.heap.size w w10) := HB10
  clear d3 A10 B10 C10 It10 Iu10 Iv10 HB10
  go_wp2_with (go_at_call 9; refine (HMAX.out _).mono ?_; rintro e w' ⟨rfl, hw⟩; obtain rfl := hw.symm)
  go_ret
  exact ⟨rfl, HBZ.out⟩

end Go.Proofs.Qxb6605508a
