/- The parser's nodes: a variable, an element, a choice of such. Condition: the text is of ASCII without blanks, at most 2^24 letters; the table of letters holds what it was laid with. -/
import Derived.Test.YthpianlilipggaaGreatDoorVg
namespace Go.Proofs.YthpianlilipggaaGreatDoor
open Go.RowKit Go.PlainAid

/-- What parseNodeAtom leaves. -/
def AtomPost (B b g cap : Nat) (src : Bs) (off : Nat) (a : NA) (w : World) (e : Ending) (w' : World) : Prop :=
  ∃ v, e = .returned v ∧ NAAt w' v a ∧ PsAt w' B b g cap src (off + a.txt.length) ∧ Only b w w'
theorem name_head {v r : Bs} (h : nameOk v = true) : ∃ c t, v ++ r = c :: t ∧ lch c = true := by
  cases v with
  | nil => cases h
  | cons c t => exact ⟨c, t ++ r, rfl, by simp only [nameOk, Bool.and_eq_true] at h; exact h.1⟩

set_option maxHeartbeats 4000000 in
set_option maxRecDepth 20000 in
theorem parseAtom_c {B b g cap off : Nat} {src : Bs} (a : NA) (r : Bs) (w : World) (hok : a.ok = true) (h : PsAt w B b g cap src off) (hd : src.drop off = a.txt ++ r) (hr : stp r = true) (hr2 : r.head? ≠ some 91) :
    Calls Tryz.prog 39 #[.pointer (some ⟨b, 0, none⟩)] w (AtomPost B b g cap src off a w) := by
  cases a with
  | var v =>
    have hv : nameOk v = true := hok
    have hd0 : src.drop off = v ++ r := hd
    have Hpv := Lib.hid (parseVar_c v r h hd0 hv hr)
    have Hno := Lib.hid (fun (W : World) (hW : PsAt W B b g cap src (off + v.length)) => eat1_no 91 hW (by rw [drop_past hd0]; exact hr2))
    clear h hd hd0 hok hv hr hr2
    go_enter Tryz.func39, Tryz.ntmps39
    go_wp2_with fail
    refine Hpv.out.mono ?_
    rintro e w1 ⟨k1, rfl, hv1, hp1, ho1⟩
    have H1 := Lib.hid (And.intro hv1 (And.intro hp1 ho1))
    have Hk1 := Lib.hid (Hno.out w1 hp1)
    clear hv1 hp1 ho1
    unfold ptr
    go_wp2_with fail
    refine Hk1.out.mono ?_
    rintro e w2 ⟨rfl, hp2, ho2⟩
    have H2 := Lib.hid (And.intro (H1.out.1.only H1.out.2.1 ho2) (And.intro hp2 (H1.out.2.2.trans ho2)))
    clear hp2 ho2
    go_wp2_with fail
    go_ret
    exact ⟨_, rfl, ⟨k1, rfl, H2.out.1⟩, H2.out.2⟩
  | last v =>
    have hv : nameOk v = true := hok
    have hd0 : src.drop off = v ++ ([91] ++ ([36] ++ ([93] ++ r))) := by rw [hd]; simp [NA.txt]
    have hd1 : src.drop (off + v.length) = [91] ++ ([36] ++ ([93] ++ r)) := drop_past hd0
    have hd2 : src.drop (off + v.length + 1) = [36] ++ ([93] ++ r) := drop_past hd1
    have hd3 : src.drop (off + v.length + 1 + 1) = [93] ++ r := drop_past hd2
    have Hpv := Lib.hid (parseVar_c v _ h hd0 hv rfl)
    have Hy1 := Lib.hid (fun (W : World) (hW : PsAt W B b g cap src (off + v.length)) => eat1_yes 91 hW hd1)
    have Hy2 := Lib.hid (fun (W : World) (hW : PsAt W B b g cap src (off + v.length + 1)) => eat1_yes 36 hW hd2)
    have Hx := Lib.hid (fun (W : World) (hW : PsAt W B b g cap src (off + v.length + 1 + 1)) => expect1_c 93 hW hd3)
    clear h hd hd0 hd1 hd2 hd3 hok hv hr hr2
    go_enter Tryz.func39, Tryz.ntmps39
    go_wp2_with fail
    refine Hpv.out.mono ?_
    rintro e w1 ⟨k1, rfl, hv1, hp1, ho1⟩
    have H1 := Lib.hid (And.intro hv1 (And.intro hp1 ho1))
    have Hk1 := Lib.hid (Hy1.out w1 hp1)
    clear hv1 hp1 ho1
    unfold ptr
    go_wp2_with fail
    refine Hk1.out.mono ?_
    rintro e w2 ⟨rfl, hp2, ho2⟩
    have H2 := Lib.hid (And.intro (H1.out.1.only H1.out.2.1 ho2) (And.intro hp2 (H1.out.2.2.trans ho2)))
    have Hk2 := Lib.hid (Hy2.out w2 hp2)
    clear hp2 ho2
    go_wp2_with fail
    refine Hk2.out.mono ?_
    rintro e w3 ⟨rfl, hp3, ho3⟩
    have H3 := Lib.hid (And.intro (H2.out.1.only H2.out.2.1 ho3) (And.intro hp3 (H2.out.2.2.trans ho3)))
    have Hk3 := Lib.hid (Hx.out w3 hp3)
    clear hp3 ho3
    go_wp2_with fail
    refine Hk3.out.mono ?_
    rintro e w4 ⟨rfl, hp4, ho4⟩
    have H4 := Lib.hid (And.intro (H3.out.1.only H3.out.2.1 ho4) (And.intro hp4 (H3.out.2.2.trans ho4)))
    clear hp4 ho4
    go_wp2_with fail
    go_ret
    have hn := atB_new w4 #[.iface 58 (.pointer (some ⟨k1, 0, none⟩))] 88
    have hbl := (Below.refl w4.heap.size w4).alloc (Nat.le_refl _) (.cells #[.iface 58 (.pointer (some ⟨k1, 0, none⟩))] 88)
    have h9 := H4.out.2.1.below hbl
    have e9 : off + v.length + 1 + 1 + 1 = off + (NA.last v).txt.length := by simp [NA.txt]; omega
    rw [e9] at h9
    exact ⟨_, rfl, ⟨w4.heap.size, k1, rfl, hn, H4.out.1.below hbl⟩, h9, H4.out.2.2.alloc _⟩
  | index v i =>
    simp only [NA.ok, Bool.and_eq_true] at hok
    obtain ⟨hv, hi⟩ := hok
    have hd0 : src.drop off = v ++ ([91] ++ (i.txt ++ ([93] ++ r))) := by rw [hd]; simp [NA.txt]
    have hd1 : src.drop (off + v.length) = [91] ++ (i.txt ++ ([93] ++ r)) := drop_past hd0
    have hd2 : src.drop (off + v.length + 1) = i.txt ++ ([93] ++ r) := drop_past hd1
    have hd3 : src.drop (off + v.length + 1 + i.txt.length) = [93] ++ r := drop_past hd2
    have hnd : (src.drop (off + v.length + 1)).head? ≠ some 36 := by
      rw [hd2]
      cases i with
      | lit n =>
        obtain ⟨c, t, hc, hdc⟩ := dec_head n
        simp only [IE.txt, hc]
        intro e
        simp at e
        subst e
        cases hdc
      | len x => simp [IE.txt]
      | ite c t f => simp [IE.txt]
    have Hpv := Lib.hid (parseVar_c v _ h hd0 hv rfl)
    have Hy1 := Lib.hid (fun (W : World) (hW : PsAt W B b g cap src (off + v.length)) => eat1_yes 91 hW hd1)
    have Hn2 := Lib.hid (fun (W : World) (hW : PsAt W B b g cap src (off + v.length + 1)) => eat1_no 36 hW hnd)
    have Hi := Lib.hid (fun (W : World) (hW : PsAt W B b g cap src (off + v.length + 1)) => parseInt_c i _ _ W hi hW hd2 rfl)
    have Hx := Lib.hid (fun (W : World) (hW : PsAt W B b g cap src (off + v.length + 1 + i.txt.length)) => expect1_c 93 hW hd3)
    clear h hd hd0 hd1 hd2 hd3 hnd hi hv hr hr2
    go_enter Tryz.func39, Tryz.ntmps39
    go_wp2_with fail
    refine Hpv.out.mono ?_
    rintro e w1 ⟨k1, rfl, hv1, hp1, ho1⟩
    have H1 := Lib.hid (And.intro hv1 (And.intro hp1 ho1))
    have Hk1 := Lib.hid (Hy1.out w1 hp1)
    clear hv1 hp1 ho1
    unfold ptr
    go_wp2_with fail
    refine Hk1.out.mono ?_
    rintro e w2 ⟨rfl, hp2, ho2⟩
    have H2 := Lib.hid (And.intro (H1.out.1.only H1.out.2.1 ho2) (And.intro hp2 (H1.out.2.2.trans ho2)))
    have Hk2 := Lib.hid (Hn2.out w2 hp2)
    clear hp2 ho2
    go_wp2_with fail
    refine Hk2.out.mono ?_
    rintro e w3 ⟨rfl, hp3, ho3⟩
    have H3 := Lib.hid (And.intro (H2.out.1.only H2.out.2.1 ho3) (And.intro hp3 (H2.out.2.2.trans ho3)))
    have Hk3 := Lib.hid (Hi.out w3 hp3)
    clear hp3 ho3
    go_wp2_with fail
    refine Hk3.out.mono ?_
    rintro e w4 ⟨vi, rfl, hi4, hp4, ho4⟩
    obtain ⟨Ti, pi, rfl⟩ := hi4.shape
    have H4 := Lib.hid (And.intro (H3.out.1.only H3.out.2.1 ho4) (And.intro hp4 (H3.out.2.2.trans ho4)))
    have Hi4 := Lib.hid hi4
    have Hk4 := Lib.hid (Hx.out w4 hp4)
    clear hp4 ho4 hi4
    go_wp2_with fail
    refine Hk4.out.mono ?_
    rintro e w5 ⟨rfl, hp5, ho5⟩
    have H5 := Lib.hid (And.intro (H4.out.1.only H4.out.2.1 ho5) (And.intro hp5 (H4.out.2.2.trans ho5)))
    have Hi5 := Lib.hid (Hi4.out.kept (Kp.of_only H4.out.2.1 ho5 (by decide)))
    clear hp5 ho5
    go_wp2_with fail
    go_ret
    have hn := atB_new w5 #[.iface 58 (.pointer (some ⟨k1, 0, none⟩)), .iface Ti (.pointer (some pi))] 85
    have hbl := (Below.refl w5.heap.size w5).alloc (Nat.le_refl _) (.cells #[.iface 58 (.pointer (some ⟨k1, 0, none⟩)), .iface Ti (.pointer (some pi))] 85)
    have h9 := H5.out.2.1.below hbl
    have e9 : off + v.length + 1 + i.txt.length + 1 = off + (NA.index v i).txt.length := by simp [NA.txt]; omega
    rw [e9] at h9
    exact ⟨_, rfl, ⟨w5.heap.size, k1, _, rfl, hn, H5.out.1.below hbl, Hi5.out.kept (Kp.of_below hbl)⟩, h9, H5.out.2.2.alloc _⟩
end Go.Proofs.YthpianlilipggaaGreatDoor
