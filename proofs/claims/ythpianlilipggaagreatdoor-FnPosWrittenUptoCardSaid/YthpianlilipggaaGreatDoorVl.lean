/- The parser's choices of positions. Condition: the text is of ASCII without blanks, at most 2^24 letters; the table of letters holds what it was laid with. -/
import Derived.Test.YthpianlilipggaaGreatDoorVk
namespace Go.Proofs.YthpianlilipggaaGreatDoor
open Go.RowKit Go.PlainAid

/-- What parsePosChoice leaves. -/
def PCPost (B b g cap : Nat) (src : Bs) (off : Nat) (a : PC) (w : World) (e : Ending) (w' : World) : Prop :=
  ∃ v, e = .returned v ∧ PCAt w' v a ∧ PsAt w' B b g cap src (off + a.txt.length) ∧ Only b w w'
/-- What stands behind the first of a choice. -/
def altTxt (l : List PX) : Bs := l.flatMap fun y => [124, 124] ++ y.txt
theorem altTxt_len : ∀ (l : List PX), l.length ≤ (altTxt l).length
  | [] => Nat.zero_le _
  | x :: l => by
    have := altTxt_len l
    simp only [altTxt, List.flatMap_cons, List.length_append, List.length_cons, List.length_nil] at this ⊢
    omega
theorem alt_stop (l : List PX) : xStop (altTxt l) = true := by
  cases l with
  | nil => rfl
  | cons x t => rfl
theorem infoPE : (Tryz.prog.info? 39).map (fun i => (i.zero, i.size, i.bytes)) = some (some .nilIface, 1, 16) := by kernel_rfl

set_option maxHeartbeats 1000000 in
theorem parseLone_c {B b g cap off : Nat} {src : Bs} (x : PX) (w : World) (hok : x.ok = true) (h : PsAt w B b g cap src off) (hd : src.drop off = x.txt) :
    Calls Tryz.prog 20 #[.pointer (some ⟨b, 0, none⟩)] w (PCPost B b g cap src off ⟨x, []⟩ w) := by
  have hd0 : src.drop off = x.txt ++ [] := by rw [hd]; simp
  have Hp := Lib.hid (parsePX_c x [] w hok h hd0 rfl)
  have Hno := Lib.hid (fun (W : World) (hW : PsAt W B b g cap src (off + x.txt.length)) => eat2_no 124 124 hW (by rw [drop_past hd0]; simp))
  clear h hd hd0 hok
  go_enter Tryz.func20, Tryz.ntmps20
  go_wp2_with fail
  refine Hp.out.mono ?_
  rintro e w1 ⟨v, rfl, h1, h2, h3⟩
  obtain ⟨T, p, rfl⟩ := h1.shape
  have H1 := Lib.hid (And.intro h1 (And.intro h2 h3))
  have Hk := Lib.hid (Hno.out w1 h2)
  clear h1 h2 h3
  go_wp2_with fail
  refine Hk.out.mono ?_
  rintro e w2 ⟨rfl, hp2, ho2⟩
  have hkp := Kp.of_only H1.out.2.1 ho2 (tags := tagsP) (by decide)
  have H2 := Lib.hid (And.intro (H1.out.1.kept hkp) (And.intro hp2 (H1.out.2.2.trans ho2)))
  clear hp2 ho2 hkp
  go_wp2_with fail
  go_ret
  have h9 := H2.out.2.1
  rw [show x.txt.length = (PC.mk x []).txt.length by simp [PC.txt]] at h9
  exact ⟨_, rfl, Or.inl ⟨rfl, H2.out.1⟩, h9, H2.out.2.2⟩

set_option maxHeartbeats 4000000 in
set_option maxRecDepth 20000 in
theorem parseAlts_c {B b g cap off : Nat} {src : Bs} (a x : PX) (l : List PX) (w : World) (ha : a.ok = true) (hx : x.ok = true) (hl : l.all PX.ok = true) (h : PsAt w B b g cap src off) (hd : src.drop off = (PC.mk a (x :: l)).txt) :
    Calls Tryz.prog 20 #[.pointer (some ⟨b, 0, none⟩)] w (PCPost B b g cap src off ⟨a, x :: l⟩ w) := by
  have hd0 : src.drop off = a.txt ++ ([124, 124] ++ (x.txt ++ altTxt l)) := by rw [hd]; simp [PC.txt, altTxt]
  have hd1 : src.drop (off + a.txt.length) = [124, 124] ++ (x.txt ++ altTxt l) := drop_past hd0
  have hd2 : src.drop (off + a.txt.length + 2) = x.txt ++ altTxt l := drop_past hd1
  have hd3 : src.drop (off + a.txt.length + 2 + x.txt.length) = altTxt l := drop_past hd2
  have hlen : off + (PC.mk a (x :: l)).txt.length = src.length := by
    have := congrArg List.length hd
    rw [List.length_drop] at this
    have := h.le
    omega
  have hsm := h.small
  have hle := h.le
  have hbw := h.bw
  have Ha := Lib.hid (parsePX_c a _ w ha h hd0 rfl)
  have Hy := Lib.hid (fun (W : World) (hW : PsAt W B b g cap src (off + a.txt.length)) => eat2_yes 124 124 hW hd1)
  have Hx := Lib.hid (fun (W : World) (hW : PsAt W B b g cap src (off + a.txt.length + 2)) => parsePX_c x _ W hx hW hd2 (alt_stop l))
  have Hd3 := Lib.hid hd3
  have hl16 : l.length ≤ 16777216 := by
    have e1 := altTxt_len l
    have e2 : (PC.mk a (x :: l)).txt.length = a.txt.length + (2 + (x.txt.length + (altTxt l).length)) := by simp [PC.txt, altTxt]; omega
    omega
  have Hl := Lib.hid (fun x (hx : x ∈ l) => List.all_eq_true.1 hl x hx)
  obtain ⟨i0, hi, hz0, hz1, hz2⟩ := info_parts infoPE
  clear h hd hd0 hd1 hd2 hd3 ha hx hl
  go_enter Tryz.func20, Tryz.ntmps20
  go_wp2_with fail
  refine Ha.out.mono ?_
  rintro e w1 ⟨v, rfl, h1, h2, h3⟩
  obtain ⟨T, p, rfl⟩ := h1.shape
  have H1 := Lib.hid (And.intro h1 (And.intro h2 h3))
  have Hk1 := Lib.hid (Hy.out w1 h2)
  clear h1 h2 h3
  go_wp2_with fail
  refine Hk1.out.mono ?_
  rintro e w2 ⟨rfl, hp2, ho2⟩
  have hkp := Kp.of_only H1.out.2.1 ho2 (tags := tagsP) (by decide)
  have H2 := Lib.hid (And.intro (H1.out.1.kept hkp) (And.intro hp2 (H1.out.2.2.trans ho2)))
  have Hk2 := Lib.hid (Hx.out w2 hp2)
  clear hp2 ho2 hkp
  go_wp2_with fail
  refine Hk2.out.mono ?_
  rintro e w3 ⟨vx, rfl, hx3, hp3, ho3⟩
  obtain ⟨Tx, px, rfl⟩ := hx3.shape
  have hkp := Kp.of_only H2.out.2.1 ho3 (tags := tagsP) (by decide)
  have H3 := Lib.hid (And.intro (H2.out.1.kept hkp) (And.intro hx3 (And.intro hp3 (H2.out.2.2.trans ho3))))
  clear hp3 ho3 hkp hx3
  go_wp2_with fail
  go_loopw [4] (fun v3 wr => ∃ (l1 l2 : List PX) (vs : List Value) (o2 : Nat), l = l1 ++ l2 ∧ PsAt wr B b g cap src o2 ∧ src.drop o2 = altTxt l2 ∧ wr.ownsRow w.heap.size 39 1 v3 vs.length vs ∧ All2 (PXAt wr) vs (a :: x :: l1) ∧ Only b w wr) (fun _ wr => match wr.cell? ⟨b, 1, none⟩ with | some (.int .i64 p) => src.length - p.toNat | _ => 0)
  case atStart =>
    have hkp : Kp tagsP _ _ := Kp.of_below ((Below.refl w3.heap.size w3).alloc (Nat.le_refl _) (.cells #[.iface T (.pointer (some p)), .iface Tx (.pointer (some px))] 39))
    exact ⟨[], l, [.iface T (.pointer (some p)), .iface Tx (.pointer (some px))], _, rfl, H3.out.2.2.1.alloc _, Hd3.out, own_two _ _ _ _ _ H3.out.2.2.2.size, ⟨H3.out.1.kept hkp, H3.out.2.1.kept hkp, trivial⟩, H3.out.2.2.2.alloc _⟩
  case round =>
    obtain ⟨l1, l2, vs, o2, hll, hp, hdr, hown, hall, ho⟩ := hrel
    have hvl : vs.length = l1.length + 2 := by simpa using All2.length hall
    have hlo : o2 + (altTxt l2).length = src.length := by
      have := congrArg List.length hdr
      rw [List.length_drop] at this
      have := hp.le
      omega
    cases l2 with
    | nil =>
      have hdr' : src.drop o2 = [] := hdr
      have Hno := Lib.hid (eat2_no (w := wr) 124 124 hp (by rw [hdr']; simp))
      have Hrow := Lib.hid hown
      have Hall := Lib.hid hall
      have Hp := Lib.hid hp
      have Ho := Lib.hid ho
      obtain rfl : l = l1 := by simpa using hll
      obtain ⟨gr, cr, rfl⟩ := own_slice hown (by omega)
      have hlen2 : o2 = off + (PC.mk a (x :: l)).txt.length := by
        have e1 : (altTxt []).length = 0 := rfl
        omega
      have Hlen2 := Lib.hid hlen2
      have Hvl := Lib.hid (show vs.length = (x :: l).length + 1 by simp; omega)
      clear hvl hlen2 hlo hlen hll hp hdr hown hall ho hdr' Hl
      go_wp2_with fail
      refine Hno.out.mono ?_
      rintro e w5 ⟨rfl, hp5, ho5⟩
      have Hrow5 := Lib.hid (own_only Hrow.out Hp.out ho5 (by decide))
      have Hall5 := Lib.hid (Hall.out.imp fun _ _ y => PXAt.kept (Kp.of_only Hp.out ho5 (by decide)) y)
      have Hp5 := Lib.hid hp5
      have Ho5 := Lib.hid (Ho.out.trans ho5)
      clear hp5 ho5
      go_wp2_with fail
      go_ret
      obtain ⟨hro, hcap⟩ := rowOf_own Hrow5.out
      have hbl := (Below.refl w5.heap.size w5).alloc (Nat.le_refl _) (.cells #[.slice (some ⟨gr, 0, none⟩) vs.length cr] 71)
      have hn := atB_new w5 #[.slice (some ⟨gr, 0, none⟩) vs.length cr] 71
      rw [Hvl.out] at hn hcap hbl ⊢
      have hp9 := Hp5.out.below hbl
      rw [Hlen2.out] at hp9
      obtain ⟨C, hC1, hC2⟩ := hro
      exact ⟨_, rfl, Or.inr ⟨w5.heap.size, gr, cr, vs, List.cons_ne_nil _ _, rfl, hn, hcap, ⟨C, hC1.below hbl, hC2⟩, Hall5.out.imp fun _ _ y => y.kept (Kp.of_below hbl)⟩, hp9, Ho5.out.alloc _⟩
    | cons y l2 =>
      have hdr0 : src.drop o2 = [124, 124] ++ (y.txt ++ altTxt l2) := by rw [hdr]; simp [altTxt]
      have hdr1 : src.drop (o2 + 2) = y.txt ++ altTxt l2 := drop_past hdr0
      have hdr2 : src.drop (o2 + 2 + y.txt.length) = altTxt l2 := drop_past hdr1
      have hy : y.ok = true := Hl.out y (by rw [hll]; simp)
      have Hyes := Lib.hid (eat2_yes (w := wr) 124 124 hp hdr0)
      have Hx := Lib.hid (fun (W : World) (hW : PsAt W B b g cap src (o2 + 2)) => parsePX_c y _ W hy hW hdr1 (alt_stop l2))
      have Hrow := Lib.hid hown
      have Hall := Lib.hid hall
      have Hp := Lib.hid hp
      have Ho := Lib.hid ho
      have Hdr2 := Lib.hid hdr2
      have Hll := Lib.hid (show l = (l1 ++ [y]) ++ l2 by rw [hll]; simp)
      have Hc1 := Lib.hid hp.cell1
      have hvn : vs.length ≤ 16777218 := by
        have e1 := congrArg List.length hll
        rw [List.length_append] at e1
        omega
      clear hvl hlo hlen hll hp hdr hown hall ho hdr0 hdr1 hdr2 hy Hl Hd3
      go_wp2_with fail
      refine Hyes.out.mono ?_
      rintro e w4 ⟨rfl, hp4, ho4⟩
      have Hrow4 := Lib.hid (own_only Hrow.out Hp.out ho4 (by decide))
      have Hall4 := Lib.hid (Hall.out.imp fun _ _ z => PXAt.kept (Kp.of_only Hp.out ho4 (by decide)) z)
      have Hp4 := Lib.hid hp4
      have Ho4 := Lib.hid (Ho.out.trans ho4)
      have Hk := Lib.hid (Hx.out w4 hp4)
      clear hp4 ho4
      go_wp2_with fail
      refine Hk.out.mono ?_
      rintro e w5 ⟨v5, rfl, ha5, hp5, ho5⟩
      obtain ⟨T5, p5, rfl⟩ := ha5.shape
      have Hrow5 := Lib.hid (own_only Hrow4.out Hp4.out ho5 (by decide))
      have Hall5 := Lib.hid (Hall4.out.imp fun _ _ z => PXAt.kept (Kp.of_only Hp4.out ho5 (by decide)) z)
      have Hp5 := Lib.hid hp5
      have Ha5 := Lib.hid ha5
      have Ho5 := Lib.hid (Ho4.out.trans ho5)
      clear hp5 ho5 ha5
      go_wp2_with (at_builtin; refine wpList_append_lies _ rfl (.tmp 17) (.tmp 20) 69 rfl w.heap.size 39 i0 .nilIface 1 16 Tryz.underlying69 hi hz0 hz1 hz2 rfl (by decide) u4 vs.length vs rfl (Hrow5.out.alloc _) ⟨w5.heap.size, 0, none⟩ 1 1 [.iface T5 (.pointer (some p5))] rfl rfl (cells_new w5 #[.iface T5 (.pointer (some p5))] 39) (by intro u hu; simp at hu; subst hu; rfl) (by omega) (by unfold maxLen; omega) (by omega) (by have := Ho5.out.size; simp; omega) _ rfl ?_; intro g2 c2 w6 hown6 hgrow hat hlt6)
      have hra := Hrow5.out.alloc (.cells #[.iface T5 (.pointer (some p5))] 39)
      have hbl := (Below.refl w5.heap.size w5).alloc (Nat.le_refl _) (.cells #[.iface T5 (.pointer (some p5))] 39)
      have hp6 := (Hp5.out.below hbl).grown hra hgrow hbw (by decide) (by decide)
      have hkp : Kp tagsP w5 w6 := (Kp.of_below hbl).trans (Kp.grown hra hgrow (by decide))
      refine ⟨⟨l1 ++ [y], l2, vs ++ [.iface T5 (.pointer (some p5))], _, Hll.out, hp6, Hdr2.out, by simpa using hown6, ?_, (Ho5.out.alloc _).grown hra hgrow (Nat.le_refl _)⟩, ?_⟩
      · exact All2.app (xs := a :: x :: l1) (bs := [y]) (Hall5.out.imp fun _ _ z => z.kept hkp) ⟨Ha5.out.kept hkp, trivial⟩
      · have hle6 := hp6.le
        rw [Hc1.out, hp6.cell1]
        simp
        omega
theorem parsePC_c {B b g cap off : Nat} {src : Bs} (x : PC) (w : World) (hok : x.ok = true) (h : PsAt w B b g cap src off) (hd : src.drop off = x.txt) :
    Calls Tryz.prog 20 #[.pointer (some ⟨b, 0, none⟩)] w (PCPost B b g cap src off x w) := by
  obtain ⟨a, l⟩ := x
  simp only [PC.ok, Bool.and_eq_true] at hok
  cases l with
  | nil => exact parseLone_c a w hok.1 h (by rw [hd]; simp [PC.txt])
  | cons y l =>
    simp only [List.all_cons, Bool.and_eq_true] at hok
    exact parseAlts_c a y l w hok.1 hok.2.1 hok.2.2 h hd
end Go.Proofs.YthpianlilipggaaGreatDoor
