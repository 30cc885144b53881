/-
  (*Tally).add and ZZTallyAdd.
-/
import Derived.Test.Qxb6605508aTally
namespace Go.Proofs.Qxb6605508a
open Go.RowKit

theorem put_alloc {w : World} {b : Nat} {cs : Array Value} (H : w.heap[b]? = some (.cells cs 25 (0, 0))) (o : Obj) : (w.alloc o).heap[b]? = some (.cells cs 25 (0, 0)) := by
  rw [Below.heap_alloc w o b (Array.getElem?_eq_some_iff.1 H).1]; exact H

theorem heap_drew' (w : World) : w.drew.heap = w.heap := rfl

theorem put7 {w : World} {b : Nat} {x0 x1 x2 x3 x4 x5 x6 : Value} (H : w.heap[b]? = some (.cells #[x0, x1, x2, x3, x4, x5, x6] 25 (0, 0))) (v0 v1 v2 v3 v4 v5 v6 : Value) (o : Obj) :
    (((((((((w.setCell ⟨b, 0, none⟩ v0).setCell ⟨b, 1, none⟩ v1).setCell ⟨b, 2, none⟩ v2).setCell ⟨b, 3, none⟩ v3).setCell ⟨b, 4, none⟩ v4).setCell ⟨b, 5, none⟩ v5).setCell ⟨b, 6, none⟩ v6).alloc o).drew.drew.drew.drew.drew.drew.drew).heap[b]? = some (.cells #[v0, v1, v2, v3, v4, v5, v6] 25 (0, 0)) := by
  have h := put_alloc (put1 (put1 (put1 (put1 (put1 (put1 (put1 H 0 v0) 1 v1) 2 v2) 3 v3) 4 v4) 5 v5) 6 v6) o
  simp only [heap_drew']
  simpa using h

theorem gb7 (w : World) (b : Nat) (v0 v1 v2 v3 v4 v5 v6 : Value) (o : Obj) :
    w.grownBy (((((((((w.setCell ⟨b, 0, none⟩ v0).setCell ⟨b, 1, none⟩ v1).setCell ⟨b, 2, none⟩ v2).setCell ⟨b, 3, none⟩ v3).setCell ⟨b, 4, none⟩ v4).setCell ⟨b, 5, none⟩ v5).setCell ⟨b, 6, none⟩ v6).alloc o).drew.drew.drew.drew.drew.drew.drew) (some b) :=
  gb_drew (gb_drew (gb_drew (gb_drew (gb_drew (gb_drew (gb_drew (gb_alloc (gb_setCell (gb_setCell (gb_setCell (gb_setCell (gb_setCell (gb_setCell (gb_setCell (gb_refl _ _) 0 _) 1 _) 2 _) 3 _) 4 _) 5 _) 6 _) _)))))))

/-- What add leaves. -/
def AddEnd (b : Nat) (l h s m q t e l' h' s' m' q' t' e' : Int) (w : World) (r : Ending) (w' : World) : Prop :=
  r = .returned (.tuple #[]) ∧ TAt w' b (IntKind.u64.wrap (l + l')) (IntKind.u64.wrap (h + h')) (IntKind.u64.wrap (s + s')) (mx m m') (IntKind.u64.wrap (q + q')) (IntKind.u64.wrap (t + t')) (IntKind.u64.wrap (e + e')) ∧ w.grownBy w' (some b)

set_option maxHeartbeats 1000000 in
theorem add_any (b : Nat) (l h s m q t e l' h' s' m' q' t' e' : Int) (w : World) (H : TAt w b l h s m q t e) :
    Calls Try.prog 12 #[.pointer (some ⟨b, 0, none⟩), .agg #[.int .u64 l', .int .u64 h', .int .u64 s', .int .i64 m', .int .u64 q', .int .u64 t', .int .u64 e']] w fun r w' => AddEnd b l h s m q t e l' h' s' m' q' t' e' w r w' := by
  obtain ⟨c0, c1, c2, c3, c4, c5, c6⟩ := H.cells
  have hf := H.free
  have hlt := H.lt
  have HH : Hid (w.heap[b]? = some (.cells #[.int .u64 l, .int .u64 h, .int .u64 s, .int .i64 m, .int .u64 q, .int .u64 t, .int .u64 e] 25 (0, 0))) := H
  clear H
  by_cases hm : m < m'
  · go_enter Try.func12, Try.ntmps12
    go_wp2
    go_region
    go_wp2
    go_region
    go_wp2
    go_region
    go_wp2
    go_region
    go_wp2
    go_region
    go_wp2
    go_region
    go_wp2
    go_region
    go_end0
    refine ⟨rfl, ?_, ?_⟩
    · unfold mx
      rw [if_pos hm]
      exact put7 HH.out _ _ _ _ _ _ _ _
    · exact gb7 _ _ _ _ _ _ _ _ _ _
  · go_enter Try.func12, Try.ntmps12
    go_wp2
    go_region
    go_wp2
    go_region
    go_wp2
    go_region
    go_wp2
    go_region
    go_wp2
    go_region
    go_wp2
    go_region
    go_wp2
    go_region
    go_end0
    refine ⟨rfl, ?_, ?_⟩
    · unfold mx
      rw [if_neg (by omega)]
      exact put7 HH.out _ _ _ _ _ _ _ _
    · exact gb7 _ _ _ _ _ _ _ _ _ _

set_option maxHeartbeats 400000 in
theorem zadd_any (b : Nat) (l h s m q t e l' h' s' m' q' t' e' : Int) (w : World) (H : TAt w b l h s m q t e) :
    Calls Try.prog 10 #[.pointer (some ⟨b, 0, none⟩), .agg #[.int .u64 l', .int .u64 h', .int .u64 s', .int .i64 m', .int .u64 q', .int .u64 t', .int .u64 e']] w fun r w' => AddEnd b l h s m q t e l' h' s' m' q' t' e' w r w' := by
  have H1 : ∀ o, TAt (w.alloc o) b l h s m q t e := fun o => H.kept (gb_alloc (gb_refl _ none) o) (by simp)
  go_enter Try.func10, Try.ntmps10
  go_wp2_with (go_at_call 12; refine (add_any b l h s m q t e l' h' s' m' q' t' e' _ (H1 _)).mono ?_)
  rintro r w' ⟨rfl, H2, hg⟩
  have hg2 := gb_trans (gb_alloc (gb_refl w (some b)) _) hg
  clear hg H H1
  go_wp2
  go_end0
  exact ⟨rfl, H2, hg2⟩

end Go.Proofs.Qxb6605508a
