/- The parser's positions: a variable, a node's begin or end, sums. Condition: the text is of ASCII without blanks, at most 2^24 letters; the table of letters holds what it was laid with. -/
import Derived.Test.YthpianlilipggaaGreatDoorVj
namespace Go.Proofs.YthpianlilipggaaGreatDoor
open Go.RowKit Go.PlainAid

/-- What parsePosAtom leaves. -/
def PAPost (B b g cap : Nat) (src : Bs) (off : Nat) (a : PA) (w : World) (e : Ending) (w' : World) : Prop :=
  ∃ v, e = .returned v ∧ PAAt w' v a ∧ PsAt w' B b g cap src (off + a.txt.length) ∧ Only b w w'
theorem parseNode_c {B b g cap off : Nat} {src : Bs} (n : NE) (r : Bs) (w : World) (hok : n.ok = true) (h : PsAt w B b g cap src off) (hd : src.drop off = n.txt ++ r) (hr : stp r = true) (hr2 : r.head? ≠ some 91) :
    Calls Tryz.prog 34 #[.pointer (some ⟨b, 0, none⟩)] w (NodePost B b g cap src off n w) := by
  cases n with
  | one a => exact parseOne_c a r w hok h hd hr hr2
  | many a l =>
    simp only [NE.ok, Bool.and_eq_true] at hok
    exact parseMany_c a l r w hok.1.1 hok.1.2 h hd

set_option maxHeartbeats 4000000 in
set_option maxRecDepth 20000 in
theorem parsePA_c {B b g cap off : Nat} {src : Bs} (a : PA) (r : Bs) (w : World) (hok : a.ok = true) (h : PsAt w B b g cap src off) (hd : src.drop off = a.txt ++ r) (hr : stp r = true) (hr2 : r.head? ≠ some 91) (hr3 : r.head? ≠ some 46) :
    Calls Tryz.prog 30 #[.pointer (some ⟨b, 0, none⟩)] w (PAPost B b g cap src off a w) := by
  cases a with
  | var v =>
    have hd0 : src.drop off = (NE.one (.var v)).txt ++ r := hd
    have Hp := Lib.hid (parseNode_c (.one (.var v)) r w hok h hd0 hr hr2)
    have Hno := Lib.hid (fun (W : World) (hW : PsAt W B b g cap src (off + v.length)) => eat1_no 46 hW (by rw [drop_past (show src.drop off = v ++ r from hd)]; exact hr3))
    clear h hd hd0 hok hr hr2 hr3
    have hta : ∀ (k : Nat) (W : World), (Instr.typeAssert (.iface 58 (.pointer (some ⟨k, 0, none⟩))) 63 58 true).run Tryz.prog W = .ok (.tuple #[.pointer (some ⟨k, 0, none⟩), .bool true]) W := fun k W => by
      simp [Instr.typeAssert, run_underlying Tryz.underlying58]
    go_enter Tryz.func30, Tryz.ntmps30
    go_wp2_with fail
    refine Hp.out.mono ?_
    rintro e w1 ⟨v1, rfl, ⟨k1, rfl, hv1⟩, hp1, ho1⟩
    have H1 := Lib.hid (And.intro hv1 (And.intro hp1 ho1))
    have Hk1 := Lib.hid (Hno.out w1 hp1)
    clear hv1 hp1 ho1
    unfold ptr
    go_wp2_with fail
    refine Hk1.out.mono ?_
    rintro e w2 ⟨rfl, hp2, ho2⟩
    have H2 := Lib.hid (And.intro (H1.out.1.only H1.out.2.1 ho2) (And.intro hp2 (H1.out.2.2.trans ho2)))
    clear hp2 ho2
    go_wp2_with fail
    go_ret
    exact ⟨_, rfl, ⟨k1, rfl, H2.out.1⟩, H2.out.2⟩
  | pos n =>
    have hn : n.ok = true := hok
    have hd0 : src.drop off = n.txt ++ ([46] ++ ([112, 111, 115] ++ r)) := by rw [hd]; simp [PA.txt]
    have hd1 : src.drop (off + n.txt.length) = [46] ++ ([112, 111, 115] ++ r) := drop_past hd0
    have hd2 : src.drop (off + n.txt.length + 1) = [112, 111, 115] ++ r := drop_past hd1
    have Hp := Lib.hid (parseNode_c n _ w hn h hd0 rfl (by simp))
    have Hy := Lib.hid (fun (W : World) (hW : PsAt W B b g cap src (off + n.txt.length)) => eat1_yes 46 hW hd1)
    have Hpv := Lib.hid (fun (W : World) (hW : PsAt W B b g cap src (off + n.txt.length + 1)) => parseVar_c [112, 111, 115] _ hW hd2 (by decide) hr)
    clear h hd hd0 hd1 hd2 hok hn hr hr2 hr3
    go_enter Tryz.func30, Tryz.ntmps30
    go_wp2_with fail
    refine Hp.out.mono ?_
    rintro e w1 ⟨v1, rfl, hn1, hp1, ho1⟩
    obtain ⟨T1, p1, rfl⟩ := hn1.shape
    have H1 := Lib.hid (And.intro hn1 (And.intro hp1 ho1))
    have Hk1 := Lib.hid (Hy.out w1 hp1)
    clear hn1 hp1 ho1
    go_wp2_with fail
    refine Hk1.out.mono ?_
    rintro e w2 ⟨rfl, hp2, ho2⟩
    have H2 := Lib.hid (And.intro (H1.out.1.kept (Kp.of_only H1.out.2.1 ho2 (by decide))) (And.intro hp2 (H1.out.2.2.trans ho2)))
    have Hk2 := Lib.hid (Hpv.out w2 hp2)
    clear hp2 ho2
    go_wp2_with fail
    refine Hk2.out.mono ?_
    rintro e w3 ⟨k3, rfl, hv3, hp3, ho3⟩
    have hc3 : w3.cell? ⟨k3, 0, none⟩ = some (.string ⟨#[112, 111, 115]⟩) := hv3.cell 0
    have H3 := Lib.hid (And.intro (H2.out.1.kept (Kp.of_only H2.out.2.1 ho3 (by decide))) (And.intro hp3 (H2.out.2.2.trans ho3)))
    clear hv3 hp3 ho3
    unfold ptr
    go_wp2_with fail
    go_ret
    have hnb := atB_new w3 #[.iface T1 (.pointer (some p1))] 65
    have hbl := (Below.refl w3.heap.size w3).alloc (Nat.le_refl _) (.cells #[.iface T1 (.pointer (some p1))] 65)
    have h9 := H3.out.2.1.below hbl
    have e9 : off + n.txt.length + 1 + 3 = off + (PA.pos n).txt.length := by simp [PA.txt]; omega
    rw [show ([112, 111, 115] : Bs).length = 3 from rfl, e9] at h9
    exact ⟨_, rfl, ⟨w3.heap.size, _, rfl, hnb, H3.out.1.kept (Kp.of_below hbl)⟩, h9, H3.out.2.2.alloc _⟩
  | fin n =>
    have hn : n.ok = true := hok
    have hd0 : src.drop off = n.txt ++ ([46] ++ ([101, 110, 100] ++ r)) := by rw [hd]; simp [PA.txt]
    have hd1 : src.drop (off + n.txt.length) = [46] ++ ([101, 110, 100] ++ r) := drop_past hd0
    have hd2 : src.drop (off + n.txt.length + 1) = [101, 110, 100] ++ r := drop_past hd1
    have Hp := Lib.hid (parseNode_c n _ w hn h hd0 rfl (by simp))
    have Hy := Lib.hid (fun (W : World) (hW : PsAt W B b g cap src (off + n.txt.length)) => eat1_yes 46 hW hd1)
    have Hpv := Lib.hid (fun (W : World) (hW : PsAt W B b g cap src (off + n.txt.length + 1)) => parseVar_c [101, 110, 100] _ hW hd2 (by decide) hr)
    clear h hd hd0 hd1 hd2 hok hn hr hr2 hr3
    go_enter Tryz.func30, Tryz.ntmps30
    go_wp2_with fail
    refine Hp.out.mono ?_
    rintro e w1 ⟨v1, rfl, hn1, hp1, ho1⟩
    obtain ⟨T1, p1, rfl⟩ := hn1.shape
    have H1 := Lib.hid (And.intro hn1 (And.intro hp1 ho1))
    have Hk1 := Lib.hid (Hy.out w1 hp1)
    clear hn1 hp1 ho1
    go_wp2_with fail
    refine Hk1.out.mono ?_
    rintro e w2 ⟨rfl, hp2, ho2⟩
    have H2 := Lib.hid (And.intro (H1.out.1.kept (Kp.of_only H1.out.2.1 ho2 (by decide))) (And.intro hp2 (H1.out.2.2.trans ho2)))
    have Hk2 := Lib.hid (Hpv.out w2 hp2)
    clear hp2 ho2
    go_wp2_with fail
    refine Hk2.out.mono ?_
    rintro e w3 ⟨k3, rfl, hv3, hp3, ho3⟩
    have hc3 : w3.cell? ⟨k3, 0, none⟩ = some (.string ⟨#[101, 110, 100]⟩) := hv3.cell 0
    have H3 := Lib.hid (And.intro (H2.out.1.kept (Kp.of_only H2.out.2.1 ho3 (by decide))) (And.intro hp3 (H2.out.2.2.trans ho3)))
    clear hv3 hp3 ho3
    unfold ptr
    go_wp2_with fail
    go_ret
    have hnb := atB_new w3 #[.iface T1 (.pointer (some p1))] 67
    have hbl := (Below.refl w3.heap.size w3).alloc (Nat.le_refl _) (.cells #[.iface T1 (.pointer (some p1))] 67)
    have h9 := H3.out.2.1.below hbl
    have e9 : off + n.txt.length + 1 + 3 = off + (PA.fin n).txt.length := by simp [PA.txt]; omega
    rw [show ([101, 110, 100] : Bs).length = 3 from rfl, e9] at h9
    exact ⟨_, rfl, ⟨w3.heap.size, _, rfl, hnb, H3.out.1.kept (Kp.of_below hbl)⟩, h9, H3.out.2.2.alloc _⟩

/-- What stands behind the first of a sum. -/
def addTxt (l : List IE) : Bs := l.flatMap fun i => [43] ++ i.txt
/-- What parsePosExpr leaves. -/
def PXPost (B b g cap : Nat) (src : Bs) (off : Nat) (a : PX) (w : World) (e : Ending) (w' : World) : Prop :=
  ∃ v, e = .returned v ∧ PXAt w' v a ∧ PsAt w' B b g cap src (off + a.txt.length) ∧ Only b w w'
/-- What may follow a sum. -/
def xStop (r : Bs) : Bool := match r with
  | [] => true
  | c :: _ => decide (c = 124)
theorem xStop_head {r : Bs} (h : xStop r = true) : stp r = true ∧ r.head? ≠ some 91 ∧ r.head? ≠ some 46 ∧ r.head? ≠ some 43 := by
  cases r with
  | nil => exact ⟨rfl, by simp, by simp, by simp⟩
  | cons c t =>
    have : c = 124 := by simpa [xStop] using h
    subst this
    exact ⟨rfl, by simp, by simp, by simp⟩
theorem add_stop (l : List IE) {r : Bs} (h : xStop r = true) : stp (addTxt l ++ r) = true ∧ (addTxt l ++ r).head? ≠ some 91 ∧ (addTxt l ++ r).head? ≠ some 46 := by
  cases l with
  | nil => exact ⟨(xStop_head h).1, (xStop_head h).2.1, (xStop_head h).2.2.1⟩
  | cons x t => exact ⟨rfl, by simp [addTxt], by simp [addTxt]⟩

set_option maxHeartbeats 4000000 in
set_option maxRecDepth 20000 in
theorem parsePX_c {B b g cap off : Nat} {src : Bs} (x : PX) (r : Bs) (w : World) (hok : x.ok = true) (h : PsAt w B b g cap src off) (hd : src.drop off = x.txt ++ r) (hr : xStop r = true) :
    Calls Tryz.prog 27 #[.pointer (some ⟨b, 0, none⟩)] w (PXPost B b g cap src off x w) := by
  obtain ⟨atom, l⟩ := x
  simp only [PX.ok, Bool.and_eq_true] at hok
  obtain ⟨ha, hl⟩ := hok
  have hd0 : src.drop off = atom.txt ++ (addTxt l ++ r) := by rw [hd]; simp [PX.txt, addTxt]
  have hd1 : src.drop (off + atom.txt.length) = addTxt l ++ r := drop_past hd0
  have hlen := drop_len hd h.le
  have hsm := h.small
  have Ha := Lib.hid (parsePA_c atom _ w ha h hd0 (add_stop l hr).1 (add_stop l hr).2.1 (add_stop l hr).2.2)
  have Hd1 := Lib.hid hd1
  have Hr := Lib.hid hr
  have Hl := Lib.hid (fun x (hx : x ∈ l) => List.all_eq_true.1 hl x hx)
  clear h hd hd0 hd1 ha hl hr
  go_enter Tryz.func27, Tryz.ntmps27
  go_wp2_with fail
  refine Ha.out.mono ?_
  rintro e w1 ⟨v0, rfl, h1, h2, h3⟩
  have H1 := Lib.hid (And.intro h1 (And.intro h2 h3))
  have Hsh := Lib.hid h1.shape
  clear h1 h2 h3
  go_wp2_with fail
  go_loopw [3] (fun v3 wr => ∃ (l1 l2 : List IE) (o2 : Nat), l = l1 ++ l2 ∧ PsAt wr B b g cap src o2 ∧ src.drop o2 = addTxt l2 ++ r ∧ PAAt wr v0 atom ∧ AddsAt wr v0 l1 v3 ∧ Only b w wr) (fun _ wr => match wr.cell? ⟨b, 1, none⟩ with | some (.int .i64 p) => src.length - p.toNat | _ => 0)
  case atStart => exact ⟨[], l, _, rfl, H1.out.2.1, Hd1.out, H1.out.1, rfl, H1.out.2.2⟩
  case round =>
    obtain ⟨l1, l2, o2, hll, hp, hdr, hat, hadd, ho⟩ := hrel
    have hlo := drop_len hdr hp.le
    obtain ⟨T3, p3, rfl⟩ := hadd.shape Hsh.out
    cases l2 with
    | nil =>
      have hdr' : src.drop o2 = r := hdr
      have Hno := Lib.hid (eat1_no (w := wr) 43 hp (by rw [hdr']; exact (xStop_head Hr.out).2.2.2))
      obtain rfl : l = l1 := by simpa using hll
      have hlen2 : o2 = off + (PX.mk atom l).txt.length := by
        have e1 : (addTxt []).length = 0 := rfl
        simp only [List.length_append, e1] at hlo
        omega
      have Hlen2 := Lib.hid hlen2
      have H3 := Lib.hid (And.intro hat (And.intro hadd (And.intro hp ho)))
      clear hlen2 hlo hlen hll hp hdr hdr' hat hadd ho Hl
      go_wp2_with fail
      refine Hno.out.mono ?_
      rintro e w4 ⟨rfl, hp4, ho4⟩
      have hkp := Kp.of_only H3.out.2.2.1 ho4 (tags := tagsP) (by decide)
      have H4 := Lib.hid (And.intro (H3.out.1.kept hkp) (And.intro (H3.out.2.1.kept hkp) (And.intro hp4 (H3.out.2.2.2.trans ho4))))
      clear hp4 ho4 hkp
      go_wp2_with fail
      go_ret
      have h9 := H4.out.2.2.1
      rw [Hlen2.out] at h9
      exact ⟨_, rfl, ⟨v0, H4.out.1, H4.out.2.1⟩, h9, H4.out.2.2.2⟩
    | cons x l2 =>
      have hdr0 : src.drop o2 = [43] ++ (x.txt ++ (addTxt l2 ++ r)) := by rw [hdr]; simp [addTxt]
      have hdr1 : src.drop (o2 + 1) = x.txt ++ (addTxt l2 ++ r) := drop_past hdr0
      have hdr2 : src.drop (o2 + 1 + x.txt.length) = addTxt l2 ++ r := drop_past hdr1
      have hx : x.ok = true := Hl.out x (by rw [hll]; simp)
      have Hyes := Lib.hid (eat1_yes (w := wr) 43 hp hdr0)
      have Hx := Lib.hid (fun (W : World) (hW : PsAt W B b g cap src (o2 + 1)) => parseInt_c x _ _ W hx hW hdr1 (add_stop l2 Hr.out).1)
      have H3 := Lib.hid (And.intro hat (And.intro hadd (And.intro hp ho)))
      have Hdr2 := Lib.hid hdr2
      have Hll := Lib.hid (show l = (l1 ++ [x]) ++ l2 by rw [hll]; simp)
      have Hc1 := Lib.hid hp.cell1
      clear hlo hlen hll hp hdr hat hadd ho hdr0 hdr1 hdr2 hx Hl Hd1
      go_wp2_with fail
      refine Hyes.out.mono ?_
      rintro e w4 ⟨rfl, hp4, ho4⟩
      have hkp := Kp.of_only H3.out.2.2.1 ho4 (tags := tagsP) (by decide)
      have H4 := Lib.hid (And.intro (H3.out.1.kept hkp) (And.intro (H3.out.2.1.kept hkp) (And.intro hp4 (H3.out.2.2.2.trans ho4))))
      have Hk := Lib.hid (Hx.out w4 hp4)
      clear hp4 ho4 hkp
      go_wp2_with fail
      refine Hk.out.mono ?_
      rintro e w5 ⟨v5, rfl, ha5, hp5, ho5⟩
      obtain ⟨T5, p5, rfl⟩ := ha5.shape
      have hkp := Kp.of_only H4.out.2.2.1 ho5 (tags := tagsP) (by decide)
      have H5 := Lib.hid (And.intro (H4.out.1.kept hkp) (And.intro (H4.out.2.1.kept hkp) (And.intro hp5 (H4.out.2.2.2.trans ho5))))
      have Ha5 := Lib.hid ha5
      clear hp5 ho5 ha5 hkp
      go_wp2_with fail
      have hnb := atB_new w5 #[.iface T3 (.pointer (some p3)), .iface T5 (.pointer (some p5))] 80
      have hbl := (Below.refl w5.heap.size w5).alloc (Nat.le_refl _) (.cells #[.iface T3 (.pointer (some p3)), .iface T5 (.pointer (some p5))] 80)
      have hkp : Kp tagsP _ _ := Kp.of_below hbl
      have h9 := H5.out.2.2.1.below hbl
      refine ⟨⟨l1 ++ [x], l2, _, Hll.out, h9, Hdr2.out, H5.out.1.kept hkp, AddsAt.snoc (H5.out.2.1.kept hkp) hnb (Ha5.out.kept (hkp.mono (by decide))), H5.out.2.2.2.alloc _⟩, ?_⟩
      have hle9 := h9.le
      rw [Hc1.out, h9.cell1]
      simp
      omega
end Go.Proofs.YthpianlilipggaaGreatDoor
