/-
  zzDecodeList: the pieces of a text that can be cut.
-/
import Derived.Test.Qxb6605419aJoin
namespace Go.Proofs.Qxb6605419a
open Go.RowKit

/-- Bytes as a string. -/
def bar (l : List UInt8) : ByteArray := ⟨l.toArray⟩

/-- What zzDecodeList leaves. -/
def DecEnd (R : List (List UInt8)) (w : World) (e : Ending) (w' : World) : Prop :=
  ∃ a cap, e = .returned (.tuple #[.slice a R.length cap, .bool true]) ∧ RowS w' a R.length (R.map bar) ∧ Below w.heap.size w w'

theorem ownsRow_zero {w : World} {base : Nat} {e : TypeId} {size g cap n : Nat} {xs : List Value}
    (h : w.ownsRow base e size (.slice (some ⟨g, 0, none⟩) n cap) n xs) : w.ownsRow base e size (.slice (some ⟨g, 0, none⟩) 0 cap) 0 [] := by
  obtain ⟨_, h2⟩ := h
  rcases h2 with ⟨h0, _⟩ | ⟨g', cap', cur, hv, hg, hh, hn, hcap, hsz, htake⟩
  · cases h0
  · cases hv
    exact ⟨by simp, .inr ⟨g, cap, cur, rfl, hg, hh, Nat.zero_le _, hcap, hsz, by simp⟩⟩

/-- 'string(cur)'. -/
theorem conv_cur {w : World} {base g cap : Nat} {cur : List UInt8} (h : w.ownsRow base 5 1 (.slice (some ⟨g, 0, none⟩) cur.length cap) cur.length (Lib.byteCells cur)) (cp : Nat) :
    (convert 30 9 (.slice (some ⟨g, 0, none⟩) cur.length cp)).run Try.prog w = .ok (.string (bar cur)) w := by
  refine run_convert_bytes_back (P := Try.prog) w 30 9 5 ⟨g, 0, none⟩ cp cur Try.underlying30 Try.underlying5 Try.underlying9 fun j hj => ?_
  rw [WideShapes.add_plain, Nat.zero_add, h.cellAt j (by omega)]
  simp [Lib.byteCells, List.getElem?_eq_getElem hj]

theorem drop_at (s : ByteArray) (p : Nat) (h : p < s.size) : s.data.toList.drop p = s[p] :: s.data.toList.drop (p + 1) := by
  rw [List.drop_eq_getElem_cons (by simpa using h)]; rfl

/-- One byte more in cur. -/
theorem cur_step {w wr w1 : World} {g N : Nat} {cur : List UInt8} {c : UInt8} {o : Value} {out : List ByteArray} (hbel : Below g w wr) (hg : g ≤ wr.heap.size)
    (ho : wr.ownsRow (g + 1) 9 1 o out.length (out.map Value.string))
    (hown' : w1.ownsRow g 5 1 (.slice (some ⟨g, 0, none⟩) (cur.length + 1) N) (cur.length + 1) (Lib.byteCells cur ++ [.int .u8 (c.toNat : Int)])) (hgrow : (wr.alloc (.cells #[.int .u8 (c.toNat : Int)] 5)).grownBy w1 (some g)) :
    w1.ownsRow g 5 1 (.slice (some ⟨g, 0, none⟩) (cur ++ [c]).length N) (cur ++ [c]).length (Lib.byteCells (cur ++ [c])) ∧ w1.ownsRow (g + 1) 9 1 o out.length (out.map Value.string) ∧ Below g w w1 := by
  refine ⟨?_, ?_, (hbel.alloc hg _).grown hgrow (by simp; omega) (fun j hj => by have := Option.some.inj hj; omega)⟩
  · rw [← bc_snoc, List.length_append]
    exact hown'
  · refine (ho.alloc _).kept hgrow ?_
    by_cases h : o.ownBlock = none
    · exact .inl h
    · refine .inr fun e => ?_
      have := (ho.lt g e).1
      omega

/-- One piece more in out. -/
theorem out_step {w wr w1 : World} {g N : Nat} {cur : List UInt8} {o o' : Value} {out : List (List UInt8)} (hbel : Below g w wr) (hg : g < wr.heap.size)
    (hc : wr.ownsRow g 5 1 (.slice (some ⟨g, 0, none⟩) cur.length N) cur.length (Lib.byteCells cur))
    (ho : wr.ownsRow (g + 1) 9 1 o out.length ((out.map bar).map Value.string))
    (hown' : w1.ownsRow (g + 1) 9 1 o' (out.length + 1) ((out.map bar).map Value.string ++ [.string (bar cur)])) (hgrow : (wr.alloc (.cells #[.string (bar cur)] 9)).grownBy w1 o.ownBlock) :
    w1.ownsRow g 5 1 (.slice (some ⟨g, 0, none⟩) cur.length N) cur.length (Lib.byteCells cur) ∧ w1.ownsRow (g + 1) 9 1 o' (out ++ [cur]).length (((out ++ [cur]).map bar).map Value.string) ∧ Below g w w1 := by
  refine ⟨?_, ?_, (hbel.alloc (by omega) _).grown hgrow (by simp; omega) (fun j hj => by have := (ho.lt j hj).1; omega)⟩
  · refine (hc.alloc _).kept hgrow (.inr fun e => ?_)
    have := (ho.lt g e.symm).1
    omega
  · rw [List.length_append]
    simpa using hown'

set_option maxHeartbeats 1000000 in
theorem decode_any (s : ByteArray) (R : List (List UInt8)) (w : World) (hs : s.size ≤ 16777216) (hd : dec s.data.toList [] [] = some R) :
    Calls Try.prog 10 #[.string s] w fun e w' => DecEnd R w e w' := by
  obtain ⟨i5, hi5, hz50, hz51, hz52⟩ := info_parts info5
  obtain ⟨i9, hi9, hz90, hz91, hz92⟩ := info_parts info9
  have HD : Hid (dec s.data.toList [] [] = some R) := hd
  clear hd
  have hb2 : i5.bytes * s.size ≤ 281474976710656 := by rw [hz52]; omega
  go_enter Try.func10, Try.ntmps10
  go_wp2_with (at_make; refine wpList_make_own _ rfl _ _ 30 rfl w.heap.size 5 i5 (.int .u8 0) 1 Try.underlying30 hi5 hz50 hz51 _ _ _ s.size rfl rfl rfl hb2 (by unfold maxLen; omega) (Nat.le_refl _) ?_)
  intro w1 hown1 hgrow1
  have hB1 : Below w.heap.size w w1 := (Below.refl _ _).grown hgrow1 (Nat.le_refl _) (fun k hk => by cases hk)
  have hsz1 : w.heap.size < w1.heap.size := (hown1.lt _ rfl).2
  clear hgrow1 hb2
  go_wp2
  go_loopw [4, 5, 6] (fun o c i wr => ∃ (p : Nat) (cur : List UInt8) (out : List (List UInt8)), p ≤ s.size ∧ cur.length ≤ p ∧ out.length ≤ p ∧ i = .int .i64 p ∧ c = .slice (some ⟨w.heap.size, 0, none⟩) cur.length s.size ∧
      wr.ownsRow w.heap.size 5 1 (.slice (some ⟨w.heap.size, 0, none⟩) cur.length s.size) cur.length (Lib.byteCells cur) ∧ wr.ownsRow (w.heap.size + 1) 9 1 o out.length ((out.map bar).map Value.string) ∧ Below w.heap.size w wr ∧ w.heap.size < wr.heap.size ∧ Hid (dec (s.data.toList.drop p) cur out = some R))
    (fun _ _ i _ => s.size - (intOf i).toNat)
  case atStart => exact ⟨0, [], [], Nat.zero_le _, Nat.le_refl _, Nat.le_refl _, rfl, rfl, hown1, World.ownsRow_nil _ _ _ _, hB1, hsz1, HD.out⟩
  case round =>
    obtain ⟨p, cur, out, hp, hcl, hol, rfl, rfl, hcur, hout, hbel, hsz, HD2⟩ := hrel
    clear hown1 hB1 hsz1
    by_cases hps : p < s.size
    · have hdr := drop_at s p hps
      have hst := HD2.out
      rw [hdr] at hst
      by_cases h92 : ((s[p]'hps).toNat : Int) = 92
      · have e92 : s[p] = 92 := UInt8.toNat_inj.1 (by show s[p].toNat = 92; omega)
        rw [e92] at hst
        obtain ⟨d, r', hr, hdd, hst2⟩ := dec_bs hst
        have hp1 : p + 1 < s.size := by
          have := congrArg List.length hr
          simp at this
          omega
        have hdr1 := drop_at s (p + 1) hp1
        rw [hdr1] at hr
        obtain ⟨hd1, hd2⟩ := List.cons.inj hr
        subst hd1
        have HST : Hid (dec (s.data.toList.drop (p + 2)) (cur ++ [s[p + 1]]) out = some R) := by
          show _ = _
          rw [hd2]; exact hst2
        have hq1 : (((s[p]'hps).toNat : Int) == 92) = true := by rw [beq_iff_eq]; exact h92
        have hdd2 := (spec_iff _).1 hdd
        clear hst hst2 hr hdr1 hdr h92 e92 hd2 hdd HD2
        rcases hdd2 with hd44 | hd92
        · have hqa : (((s[p + 1]'hp1).toNat : Int) == 44) = true := by rw [beq_iff_eq]; exact hd44
          have hqb : (((s[p + 1]'hp1).toNat : Int) != 44) = false := by rw [bne, hqa]; rfl
          clear hd44
          go_wp2_with (at_builtin; refine wpList_append_fits _ rfl _ _ 30 rfl w.heap.size 5 i5 1 Try.underlying30 hi5 hz51 w.heap.size cur.length s.size _ rfl (hcur.alloc _) ⟨wr.heap.size, 0, none⟩ 1 1 [.int .u8 ((s[p + 1]'hp1).toNat : Int)] rfl rfl (cell_one_new _ _ _) ?a1 (by omega) ?_)
          case a1 => intro u hu; simp at hu; subst hu; rfl
          intro w2 hown' hgrow
          have R1 := cur_step hbel (Nat.le_of_lt hsz) (out := out.map bar) (by simpa using hout) hown' hgrow
          have HR : Hid _ := R1
          have hsz2 : w.heap.size < w2.heap.size := (R1.1.lt _ rfl).2
          clear hown' hgrow hcur hout hbel hsz R1
          go_wp2
          go_roundw
          case rel => exact ⟨p + 2, cur ++ [(s[p + 1]'hp1)], out, by omega, by simp; omega, by omega, by go_num, by simp, HR.out.1, by simpa using HR.out.2.1, HR.out.2.2, hsz2, HST.out⟩
          case measure => simp [intOf]; omega
        · have hqa : (((s[p + 1]'hp1).toNat : Int) == 44) = false := by rw [beq_eq_false_iff_ne]; omega
          have hqb : (((s[p + 1]'hp1).toNat : Int) != 44) = true := by rw [bne, hqa]; rfl
          have hqc : (((s[p + 1]'hp1).toNat : Int) == 92) = true := by rw [beq_iff_eq]; exact hd92
          have hqd : (((s[p + 1]'hp1).toNat : Int) != 92) = false := by rw [bne, hqc]; rfl
          clear hd92
          go_wp2_with (at_builtin; refine wpList_append_fits _ rfl _ _ 30 rfl w.heap.size 5 i5 1 Try.underlying30 hi5 hz51 w.heap.size cur.length s.size _ rfl (hcur.alloc _) ⟨wr.heap.size, 0, none⟩ 1 1 [.int .u8 ((s[p + 1]'hp1).toNat : Int)] rfl rfl (cell_one_new _ _ _) ?b1 (by omega) ?_)
          case b1 => intro u hu; simp at hu; subst hu; rfl
          intro w2 hown' hgrow
          have R1 := cur_step hbel (Nat.le_of_lt hsz) (out := out.map bar) (by simpa using hout) hown' hgrow
          have HR : Hid _ := R1
          have hsz2 : w.heap.size < w2.heap.size := (R1.1.lt _ rfl).2
          clear hown' hgrow hcur hout hbel hsz R1
          go_wp2
          go_roundw
          case rel => exact ⟨p + 2, cur ++ [(s[p + 1]'hp1)], out, by omega, by simp; omega, by omega, by go_num, by simp, HR.out.1, by simpa using HR.out.2.1, HR.out.2.2, hsz2, HST.out⟩
          case measure => simp [intOf]; omega
      · have hq1 : (((s[p]'hps).toNat : Int) == 92) = false := by rw [beq_eq_false_iff_ne]; exact h92
        by_cases h44 : ((s[p]'hps).toNat : Int) = 44
        · have e44 : s[p] = 44 := UInt8.toNat_inj.1 (by show s[p].toNat = 44; omega)
          rw [e44, dec_comma] at hst
          have HST : Hid (dec (s.data.toList.drop (p + 1)) [] (out ++ [cur]) = some R) := hst
          have hq2 : (((s[p]'hps).toNat : Int) == 44) = true := by rw [beq_iff_eq]; exact h44
          have hcv := conv_cur hcur
          clear hst hdr h92 h44 e44 HD2
          go_wp2_with (at_builtin; refine wpList_append_own _ rfl _ _ 22 rfl (w.heap.size + 1) 9 i9 (.string ⟨#[]⟩) 1 16 Try.underlying22 hi9 hz90 hz91 hz92 rfl (by decide) _ _ _ rfl (hout.alloc _) ⟨wr.heap.size, 0, none⟩ 1 1 [.string (bar cur)] rfl rfl (cell_one_new _ _ _) ?c2 ?c3 ?c4 ?c5 ?_)
          case c2 => intro u hu; simp at hu; subst hu; rfl
          case c3 => unfold maxLen; omega
          case c4 => omega
          case c5 => simp; omega
          intro o' w2 hown' hgrow _
          have R1 := out_step hbel hsz hcur hout (by simpa using hown') hgrow
          have HR : Hid _ := R1
          have hsz2 : w.heap.size < w2.heap.size := (R1.1.lt _ rfl).2
          clear hown' hgrow hcur hout hbel hsz R1 hcv
          go_wp2
          go_roundw
          case rel => exact ⟨p + 1, [], out ++ [cur], by omega, by simp, by simp; omega, by go_num, by simp, ownsRow_zero HR.out.1, HR.out.2.1, HR.out.2.2, hsz2, HST.out⟩
          case measure => simp [intOf]; omega
        · rw [dec_other _ _ _ _ (fun e => h92 (by rw [e]; rfl)) (fun e => h44 (by rw [e]; rfl))] at hst
          have HST : Hid (dec (s.data.toList.drop (p + 1)) (cur ++ [s[p]]) out = some R) := hst
          have hq2 : (((s[p]'hps).toNat : Int) == 44) = false := by rw [beq_eq_false_iff_ne]; exact h44
          clear hst hdr h92 h44 HD2
          go_wp2_with (at_builtin; refine wpList_append_fits _ rfl _ _ 30 rfl w.heap.size 5 i5 1 Try.underlying30 hi5 hz51 w.heap.size cur.length s.size _ rfl (hcur.alloc _) ⟨wr.heap.size, 0, none⟩ 1 1 [.int .u8 ((s[p]'hps).toNat : Int)] rfl rfl (cell_one_new _ _ _) ?d1 (by omega) ?_)
          case d1 => intro u hu; simp at hu; subst hu; rfl
          intro w2 hown' hgrow
          have R1 := cur_step hbel (Nat.le_of_lt hsz) (out := out.map bar) (by simpa using hout) hown' hgrow
          have HR : Hid _ := R1
          have hsz2 : w.heap.size < w2.heap.size := (R1.1.lt _ rfl).2
          clear hown' hgrow hcur hout hbel hsz R1
          go_wp2
          go_roundw
          case rel => exact ⟨p + 1, cur ++ [(s[p]'hps)], out, by omega, by simp; omega, by omega, by go_num, by simp, HR.out.1, by simpa using HR.out.2.1, HR.out.2.2, hsz2, HST.out⟩
          case measure => simp [intOf]; omega
    · have hpe : s.data.toList.drop p = [] := List.drop_eq_nil_of_le (by simp; omega)
      have hst := HD2.out
      rw [hpe, dec_nil] at hst
      have HST : Hid (out ++ [cur] = R) := Option.some.inj hst
      have hcv := conv_cur hcur
      clear hst hpe HD2
      go_wp2_with (at_builtin; refine wpList_append_own _ rfl _ _ 22 rfl (w.heap.size + 1) 9 i9 (.string ⟨#[]⟩) 1 16 Try.underlying22 hi9 hz90 hz91 hz92 rfl (by decide) _ _ _ rfl (hout.alloc _) ⟨wr.heap.size, 0, none⟩ 1 1 [.string (bar cur)] rfl rfl (cell_one_new _ _ _) ?e2 ?e3 ?e4 ?e5 ?_)
      case e2 => intro u hu; simp at hu; subst hu; rfl
      case e3 => unfold maxLen; omega
      case e4 => omega
      case e5 => simp; omega
      intro o' w2 hown' hgrow _
      have R1 := out_step hbel hsz hcur hout (by simpa using hown') hgrow
      obtain ⟨ar, capr, hv, _, _, hrs⟩ := rowS_of R1.2.1
      have hrs2 : RowS w2 ar R.length (R.map bar) := by rw [← HST.out]; exact hrs
      have hvl : o' = .slice ar R.length capr := by rw [← HST.out]; exact hv
      have hb3 := R1.2.2
      clear hown' hgrow hcur hout hbel hsz R1 hcv hv hrs
      subst hvl
      go_wp2
      go_ret2
      exact ⟨ar, capr, rfl, hrs2, hb3⟩

end Go.Proofs.Qxb6605419a
