/- The parser's choices of nodes. Condition: the text is of ASCII without blanks, at most 2^24 letters; the table of letters holds what it was laid with. -/
import Derived.Test.YthpianlilipggaaGreatDoorVi
namespace Go.Proofs.YthpianlilipggaaGreatDoor
open Go.RowKit Go.PlainAid

/-- What parseNodeExpr leaves. -/
def NodePost (B b g cap : Nat) (src : Bs) (off : Nat) (a : NE) (w : World) (e : Ending) (w' : World) : Prop :=
  ∃ v, e = .returned v ∧ NEAt w' v a ∧ PsAt w' B b g cap src (off + a.txt.length) ∧ Only b w w'
theorem atom_head {a : NA} {r : Bs} (h : a.ok = true) : ∃ c t, a.txt ++ r = c :: t ∧ lch c = true := by
  cases a with
  | var v => exact name_head h
  | last v =>
    obtain ⟨c, t, e, hc⟩ := name_head (r := [91, 36, 93] ++ r) (show nameOk v = true from h)
    exact ⟨c, t, by simp only [NA.txt, List.append_assoc]; exact e, hc⟩
  | index v i =>
    simp only [NA.ok, Bool.and_eq_true] at h
    obtain ⟨c, t, e, hc⟩ := name_head (r := [91] ++ (i.txt ++ ([93] ++ r))) h.1
    exact ⟨c, t, by simp only [NA.txt, List.append_assoc]; exact e, hc⟩
/-- What stands behind the first of a choice. -/
def manyTxt (l : List NA) : Bs := l.flatMap fun b => [63, 63] ++ b.txt
theorem manyTxt_len : ∀ (l : List NA), l.length ≤ (manyTxt l).length
  | [] => Nat.zero_le _
  | x :: l => by
    have := manyTxt_len l
    simp only [manyTxt, List.flatMap_cons, List.length_append, List.length_cons, List.length_nil] at this ⊢
    omega
theorem infoNE : (Tryz.prog.info? 63).map (fun i => (i.zero, i.size, i.bytes)) = some (some .nilIface, 1, 16) := by kernel_rfl

set_option maxHeartbeats 1000000 in
theorem parseOne_c {B b g cap off : Nat} {src : Bs} (a : NA) (r : Bs) (w : World) (hok : a.ok = true) (h : PsAt w B b g cap src off) (hd : src.drop off = a.txt ++ r) (hr : stp r = true) (hr2 : r.head? ≠ some 91) :
    Calls Tryz.prog 34 #[.pointer (some ⟨b, 0, none⟩)] w (NodePost B b g cap src off (.one a) w) := by
  have Hno := Lib.hid (eat1_no (w := w) 40 h (by
    obtain ⟨c, t, e, hc⟩ := atom_head (r := r) hok
    rw [hd, e]
    intro k
    simp at k
    subst k
    cases hc))
  have Hp := Lib.hid (fun (W : World) (hW : PsAt W B b g cap src off) => parseAtom_c a r W hok hW hd hr hr2)
  clear h hd hok hr hr2
  go_enter Tryz.func34, Tryz.ntmps34
  go_wp2_with fail
  refine Hno.out.mono ?_
  rintro e w1 ⟨rfl, hp1, ho1⟩
  have Ho1 := Lib.hid ho1
  have Hk1 := Lib.hid (Hp.out w1 hp1)
  clear hp1 ho1
  go_wp2_with fail
  refine Hk1.out.mono ?_
  rintro e w2 ⟨v, rfl, h1, h2, h3⟩
  obtain ⟨T, p, rfl⟩ := h1.shape
  have H2 := Lib.hid (And.intro h1 (And.intro h2 (Ho1.out.trans h3)))
  clear h1 h2 h3
  go_wp2_with fail
  go_ret
  exact ⟨_, rfl, H2.out.1, H2.out.2.1, H2.out.2.2⟩

set_option maxHeartbeats 4000000 in
set_option maxRecDepth 20000 in
theorem parseMany_c {B b g cap off : Nat} {src : Bs} (a : NA) (l : List NA) (r : Bs) (w : World) (ha : a.ok = true) (hl : l.all NA.ok = true) (h : PsAt w B b g cap src off) (hd : src.drop off = (NE.many a l).txt ++ r) :
    Calls Tryz.prog 34 #[.pointer (some ⟨b, 0, none⟩)] w (NodePost B b g cap src off (.many a l) w) := by
  have hd0 : src.drop off = [40] ++ (a.txt ++ (manyTxt l ++ ([41] ++ r))) := by rw [hd]; simp [NE.txt, manyTxt]
  have hd1 : src.drop (off + 1) = a.txt ++ (manyTxt l ++ ([41] ++ r)) := drop_past hd0
  have hd2 : src.drop (off + 1 + a.txt.length) = manyTxt l ++ ([41] ++ r) := drop_past hd1
  have hnx : ∀ l2 : List NA, stp (manyTxt l2 ++ ([41] ++ r)) = true ∧ (manyTxt l2 ++ ([41] ++ r)).head? ≠ some 91 := by
    intro l2
    cases l2 with
    | nil => exact ⟨rfl, by simp [manyTxt]⟩
    | cons x t => exact ⟨rfl, by simp [manyTxt]⟩
  have hlen := drop_len hd h.le
  have hsm := h.small
  have hle := h.le
  have hbw := h.bw
  have Hy := Lib.hid (eat1_yes (w := w) 40 h hd0)
  have Ha := Lib.hid (fun (W : World) (hW : PsAt W B b g cap src (off + 1)) => parseAtom_c a _ W ha hW hd1 (hnx l).1 (hnx l).2)
  have Hd2 := Lib.hid hd2
  have Hnx := Lib.hid hnx
  have hl16 : l.length ≤ 16777216 := by
    have e1 := manyTxt_len l
    have e2 := drop_len hd2 (by have := drop_len hd0 h.le; simp at this; omega)
    simp only [List.length_append] at e2
    omega
  have Hl := Lib.hid (fun x (hx : x ∈ l) => List.all_eq_true.1 hl x hx)
  obtain ⟨i0, hi, hz0, hz1, hz2⟩ := info_parts infoNE
  clear h hd hd0 hd1 hd2 hnx ha hl
  go_enter Tryz.func34, Tryz.ntmps34
  go_wp2_with fail
  refine Hy.out.mono ?_
  rintro e w1 ⟨rfl, hp1, ho1⟩
  have Ho1 := Lib.hid ho1
  have Hk1 := Lib.hid (Ha.out w1 hp1)
  clear hp1 ho1
  go_wp2_with fail
  refine Hk1.out.mono ?_
  rintro e w2 ⟨v, rfl, h1, h2, h3⟩
  obtain ⟨T, p, rfl⟩ := h1.shape
  have H2 := Lib.hid (And.intro h1 (And.intro h2 (Ho1.out.trans h3)))
  clear h1 h2 h3
  go_wp2_with fail
  go_loopw [3] (fun v3 wr => ∃ (l1 l2 : List NA) (vs : List Value) (o2 : Nat), l = l1 ++ l2 ∧ PsAt wr B b g cap src o2 ∧ src.drop o2 = manyTxt l2 ++ ([41] ++ r) ∧ wr.ownsRow w.heap.size 63 1 v3 vs.length vs ∧ All2 (NAAt wr) vs (a :: l1) ∧ Only b w wr) (fun _ wr => match wr.cell? ⟨b, 1, none⟩ with | some (.int .i64 p) => src.length - p.toNat | _ => 0)
  case atStart =>
    refine ⟨[], l, [.iface T (.pointer (some p))], _, rfl, H2.out.2.1.alloc _, Hd2.out, own_one _ _ _ _ H2.out.2.2.size, ⟨H2.out.1.kept (Kp.of_below ((Below.refl _ _).alloc (Nat.le_refl _) _)), trivial⟩, H2.out.2.2.alloc _⟩
  case round =>
    obtain ⟨l1, l2, vs, o2, hll, hp, hdr, hown, hall, ho⟩ := hrel
    have hvl : vs.length = l1.length + 1 := by simpa using All2.length hall
    have hlo := drop_len hdr hp.le
    cases l2 with
    | nil =>
      have hdr' : src.drop o2 = [41] ++ r := hdr
      have Hno := Lib.hid (eat2_no (w := wr) 63 63 hp (by rw [hdr']; simp))
      have Hx := Lib.hid (fun (W : World) (hW : PsAt W B b g cap src o2) => expect1_c 41 hW hdr')
      have Hrow := Lib.hid hown
      have Hall := Lib.hid hall
      have Hp := Lib.hid hp
      have Ho := Lib.hid ho
      obtain rfl : l = l1 := by simpa using hll
      obtain ⟨gr, cr, rfl⟩ := own_slice hown (by omega)
      have hlen2 : o2 + 1 = off + (NE.many a l).txt.length := by
        have e1 : (manyTxt []).length = 0 := rfl
        simp only [List.length_append, List.length_cons, List.length_nil, e1] at hlo
        omega
      have Hlen2 := Lib.hid hlen2
      have Hvl := Lib.hid hvl
      clear hvl hlen2 hlo hlen hll hp hdr hown hall ho hdr' Hl
      go_wp2_with fail
      refine Hno.out.mono ?_
      rintro e w4 ⟨rfl, hp4, ho4⟩
      have Hrow4 := Lib.hid (own_only Hrow.out Hp.out ho4 (by decide))
      have Hall4 := Lib.hid (Hall.out.imp fun _ _ x => NAAt.kept (Kp.of_only Hp.out ho4 (by decide)) x)
      have Hp4 := Lib.hid hp4
      have Ho4 := Lib.hid (Ho.out.trans ho4)
      have Hk := Lib.hid (Hx.out w4 hp4)
      clear hp4 ho4
      go_wp2_with fail
      refine Hk.out.mono ?_
      rintro e w5 ⟨rfl, hp5, ho5⟩
      have Hrow5 := Lib.hid (own_only Hrow4.out Hp4.out ho5 (by decide))
      have Hall5 := Lib.hid (Hall4.out.imp fun _ _ x => NAAt.kept (Kp.of_only Hp4.out ho5 (by decide)) x)
      have Hp5 := Lib.hid hp5
      have Ho5 := Lib.hid (Ho4.out.trans ho5)
      clear hp5 ho5
      go_wp2_with fail
      go_ret
      obtain ⟨hro, hcap⟩ := rowOf_own Hrow5.out
      have hbl := (Below.refl w5.heap.size w5).alloc (Nat.le_refl _) (.cells #[.slice (some ⟨gr, 0, none⟩) vs.length cr] 75)
      have hn := atB_new w5 #[.slice (some ⟨gr, 0, none⟩) vs.length cr] 75
      rw [Hvl.out] at hn hcap hbl ⊢
      have hp9 := Hp5.out.below hbl
      rw [Hlen2.out] at hp9
      obtain ⟨C, hC1, hC2⟩ := hro
      exact ⟨_, rfl, ⟨w5.heap.size, gr, cr, vs, rfl, hn, hcap, ⟨C, hC1.below hbl, hC2⟩, Hall5.out.imp fun _ _ y => y.kept (Kp.of_below hbl)⟩, hp9, Ho5.out.alloc _⟩
    | cons x l2 =>
      have hdr0 : src.drop o2 = [63, 63] ++ (x.txt ++ (manyTxt l2 ++ ([41] ++ r))) := by rw [hdr]; simp [manyTxt]
      have hdr1 : src.drop (o2 + 2) = x.txt ++ (manyTxt l2 ++ ([41] ++ r)) := drop_past hdr0
      have hdr2 : src.drop (o2 + 2 + x.txt.length) = manyTxt l2 ++ ([41] ++ r) := drop_past hdr1
      have hx : x.ok = true := Hl.out x (by rw [hll]; simp)
      have Hyes := Lib.hid (eat2_yes (w := wr) 63 63 hp hdr0)
      have Hx := Lib.hid (fun (W : World) (hW : PsAt W B b g cap src (o2 + 2)) => parseAtom_c x _ W hx hW hdr1 (Hnx.out l2).1 (Hnx.out l2).2)
      have Hrow := Lib.hid hown
      have Hall := Lib.hid hall
      have Hp := Lib.hid hp
      have Ho := Lib.hid ho
      have Hdr2 := Lib.hid hdr2
      have Hll := Lib.hid (show l = (l1 ++ [x]) ++ l2 by rw [hll]; simp)
      have Hc1 := Lib.hid hp.cell1
      have hvn : vs.length ≤ 16777217 := by
        have e1 := congrArg List.length hll
        rw [List.length_append] at e1
        omega
      clear hvl hlo hlen hll hp hdr hown hall ho hdr0 hdr1 hdr2 hx Hl Hnx Hd2
      go_wp2_with fail
      refine Hyes.out.mono ?_
      rintro e w4 ⟨rfl, hp4, ho4⟩
      have Hrow4 := Lib.hid (own_only Hrow.out Hp.out ho4 (by decide))
      have Hall4 := Lib.hid (Hall.out.imp fun _ _ x => NAAt.kept (Kp.of_only Hp.out ho4 (by decide)) x)
      have Hp4 := Lib.hid hp4
      have Ho4 := Lib.hid (Ho.out.trans ho4)
      have Hk := Lib.hid (Hx.out w4 hp4)
      clear hp4 ho4
      go_wp2_with fail
      refine Hk.out.mono ?_
      rintro e w5 ⟨v5, rfl, ha5, hp5, ho5⟩
      obtain ⟨T5, p5, rfl⟩ := ha5.shape
      have Hrow5 := Lib.hid (own_only Hrow4.out Hp4.out ho5 (by decide))
      have Hall5 := Lib.hid (Hall4.out.imp fun _ _ x => NAAt.kept (Kp.of_only Hp4.out ho5 (by decide)) x)
      have Hp5 := Lib.hid hp5
      have Ha5 := Lib.hid ha5
      have Ho5 := Lib.hid (Ho4.out.trans ho5)
      clear hp5 ho5 ha5
      go_wp2_with (at_builtin; refine wpList_append_lies _ rfl (.tmp 11) (.tmp 14) 73 rfl w.heap.size 63 i0 .nilIface 1 16 Tryz.underlying73 hi hz0 hz1 hz2 rfl (by decide) u3 vs.length vs rfl (Hrow5.out.alloc _) ⟨w5.heap.size, 0, none⟩ 1 1 [.iface T5 (.pointer (some p5))] rfl rfl (cells_new w5 #[.iface T5 (.pointer (some p5))] 63) (by intro u hu; simp at hu; subst hu; rfl) (by omega) (by unfold maxLen; omega) (by omega) (by have := Ho5.out.size; simp; omega) _ rfl ?_; intro g2 c2 w6 hown6 hgrow hat hlt6)
      have hra := Hrow5.out.alloc (.cells #[.iface T5 (.pointer (some p5))] 63)
      have hbl := (Below.refl w5.heap.size w5).alloc (Nat.le_refl _) (.cells #[.iface T5 (.pointer (some p5))] 63)
      have hp6 := (Hp5.out.below hbl).grown hra hgrow hbw (by decide) (by decide)
      have hkp : Kp tagsN w5 w6 := (Kp.of_below hbl).trans (Kp.grown hra hgrow (by decide))
      refine ⟨⟨l1 ++ [x], l2, vs ++ [.iface T5 (.pointer (some p5))], _, Hll.out, hp6, Hdr2.out, by simpa using hown6, ?_, (Ho5.out.alloc _).grown hra hgrow (Nat.le_refl _)⟩, ?_⟩
      · exact All2.app (xs := a :: l1) (bs := [x]) (Hall5.out.imp fun _ _ y => y.kept hkp) ⟨Ha5.out.kept hkp, trivial⟩
      · have hle6 := hp6.le
        rw [Hc1.out, hp6.cell1]
        simp
        omega
end Go.Proofs.YthpianlilipggaaGreatDoor
