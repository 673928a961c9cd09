/- The parser's numbers: literals, lengths, choices by a condition. Condition: the text is of ASCII without blanks, at most 2^24 letters; the table of letters holds what it was laid with. -/
import Derived.Test.YthpianlilipggaaGreatDoorVh
namespace Go.Proofs.YthpianlilipggaaGreatDoor
open Go.RowKit Go.PlainAid

/-- What parseIntAtom leaves. -/
def IntPost (B b g cap : Nat) (src : Bs) (off : Nat) (i : IE) (w : World) (e : Ending) (w' : World) : Prop :=
  ∃ v, e = .returned v ∧ IEAt w' v i ∧ PsAt w' B b g cap src (off + i.txt.length) ∧ Only b w w'

set_option maxHeartbeats 4000000 in
set_option maxRecDepth 20000 in
theorem parseInt_c {B b g cap : Nat} {src : Bs} : ∀ (i : IE) (off : Nat) (r : Bs) (w : World), i.ok = true → PsAt w B b g cap src off → src.drop off = i.txt ++ r → stp r = true →
    Calls Tryz.prog 31 #[.pointer (some ⟨b, 0, none⟩)] w (IntPost B b g cap src off i w)
  | .lit n, off, r, w, hok, h, hd, hr => by
    have hn : n < 1099511627776 := by simpa [IE.ok] using hok
    obtain ⟨c, t, hc, hdc⟩ := dec_head n
    have hd' : src.drop off = Lib.decDigits n ++ r := hd
    have Hno := Lib.hid (eat1_no (w := w) 40 h (by rw [hd', hc]; intro e; simp at e; subst e; cases hdc))
    have Hl := Lib.hid (fun (W : World) (hW : PsAt W B b g cap src off) => consumeInt_c n r hW hd' hn hr)
    clear h hd hd' hok hn hr hc
    go_enter Tryz.func31, Tryz.ntmps31
    go_wp2_with fail
    refine Hno.out.mono ?_
    rintro e w1 ⟨rfl, hp1, ho1⟩
    have Ho1 := Lib.hid ho1
    have Hl1 := Lib.hid (Hl.out w1 hp1)
    clear hp1 ho1
    go_wp2_with fail
    refine Hl1.out.mono ?_
    rintro e w2 ⟨k, rfl, h1, h2, h3⟩
    have H2 := Lib.hid (And.intro h1 (And.intro h2 h3))
    clear h1 h2 h3
    unfold ptr
    go_wp2_with fail
    go_ret
    exact ⟨_, rfl, ⟨k, rfl, H2.out.1⟩, H2.out.2.1, Ho1.out.trans H2.out.2.2⟩
  | .len v, off, r, w, hok, h, hd, hr => by
    have hv : nameOk v = true := hok
    have hd0 : src.drop off = [108, 101, 110] ++ ([40] ++ (v ++ ([41] ++ r))) := by rw [hd]; simp [IE.txt]
    have hd1 : src.drop (off + 3) = [40] ++ (v ++ ([41] ++ r)) := drop_past hd0
    have hd2 : src.drop (off + 3 + 1) = v ++ ([41] ++ r) := drop_past hd1
    have hd3 : src.drop (off + 3 + 1 + v.length) = [41] ++ r := drop_past hd2
    have Hno := Lib.hid (eat1_no (w := w) 40 h (by rw [hd0]; simp))
    have Hni := Lib.hid (fun (W : World) (hW : PsAt W B b g cap src off) => consumeInt_no 108 hW (by have := congrArg (fun l => l[0]?) hd0; simpa using this) (by decide))
    have Hcv := Lib.hid (fun (W : World) (hW : PsAt W B b g cap src off) => consumeVar_c [108, 101, 110] _ hW hd0 (by decide) rfl)
    have Hx1 := Lib.hid (fun (W : World) (hW : PsAt W B b g cap src (off + 3)) => expect1_c 40 hW hd1)
    have Hpv := Lib.hid (fun (W : World) (hW : PsAt W B b g cap src (off + 3 + 1)) => parseVar_c v _ hW hd2 hv rfl)
    have Hx2 := Lib.hid (fun (W : World) (hW : PsAt W B b g cap src (off + 3 + 1 + v.length)) => expect1_c 41 hW hd3)
    clear h hd hok hr hd0 hd1 hd2 hd3 hv
    go_enter Tryz.func31, Tryz.ntmps31
    go_wp2_with fail
    refine Hno.out.mono ?_
    rintro e w1 ⟨rfl, hp1, ho1⟩
    have Ho1 := Lib.hid ho1
    have Hk := Lib.hid (Hni.out w1 hp1)
    clear hp1 ho1
    go_wp2_with fail
    refine Hk.out.mono ?_
    rintro e w2 ⟨rfl, hp2, ho2⟩
    have Ho2 := Lib.hid (Ho1.out.trans ho2)
    have Hk2 := Lib.hid (Hcv.out w2 hp2)
    clear hp2 ho2 Hk Ho1
    go_wp2_with fail
    refine Hk2.out.mono ?_
    rintro e w3 ⟨k3, rfl, hv3, hp3, ho3⟩
    have Ho3 := Lib.hid (Ho2.out.trans ho3)
    have hc3 : w3.cell? ⟨k3, 0, none⟩ = some (.string ⟨#[108, 101, 110]⟩) := hv3.cell 0
    have Hk3 := Lib.hid (Hx1.out w3 hp3)
    clear hp3 ho3 Hk2 Ho2 hv3
    unfold ptr
    go_wp2_with fail
    refine Hk3.out.mono ?_
    rintro e w4 ⟨rfl, hp4, ho4⟩
    have Ho4 := Lib.hid (Ho3.out.trans ho4)
    have Hk4 := Lib.hid (Hpv.out w4 hp4)
    clear hp4 ho4 Hk3 Ho3 hc3
    go_wp2_with fail
    refine Hk4.out.mono ?_
    rintro e w5 ⟨k5, rfl, hv5, hp5, ho5⟩
    have Ho5 := Lib.hid (Ho4.out.trans ho5)
    have Hv5 := Lib.hid (And.intro hv5 hp5)
    have Hk5 := Lib.hid (Hx2.out w5 hp5)
    clear hp5 ho5 Hk4 Ho4 hv5
    unfold ptr
    go_wp2_with fail
    refine Hk5.out.mono ?_
    rintro e w6 ⟨rfl, hp6, ho6⟩
    have Hv6 := Lib.hid (Hv5.out.1.only Hv5.out.2 ho6)
    have Hp6 := Lib.hid (And.intro hp6 (Ho5.out.trans ho6))
    clear hp6 ho6
    go_wp2_with fail
    go_ret
    have hn := atB_new w6 #[.iface 58 (.pointer (some ⟨k5, 0, none⟩))] 93
    refine ⟨_, rfl, ⟨w6.heap.size, k5, rfl, hn, Hv6.out.below ((Below.refl _ _).alloc (Nat.le_refl _) _)⟩, ?_, Hp6.out.2.alloc _⟩
    have h9 := Hp6.out.1.alloc (.cells #[.iface 58 (.pointer (some ⟨k5, 0, none⟩))] 93)
    have e9 : off + 3 + 1 + v.length + 1 = off + (IE.len v).txt.length := by simp [IE.txt]; omega
    rw [e9] at h9
    exact h9
  | .ite c t f, off, r, w, hok, h, hd, hr => by
    simp only [IE.ok, Bool.and_eq_true] at hok
    obtain ⟨⟨hc, ht⟩, hf⟩ := hok
    have hd0 : src.drop off = [40] ++ (c ++ ([63] ++ (t.txt ++ ([58] ++ (f.txt ++ ([41] ++ r)))))) := by rw [hd]; simp [IE.txt]
    have hd1 : src.drop (off + 1) = c ++ ([63] ++ (t.txt ++ ([58] ++ (f.txt ++ ([41] ++ r))))) := drop_past hd0
    have hd2 : src.drop (off + 1 + c.length) = [63] ++ (t.txt ++ ([58] ++ (f.txt ++ ([41] ++ r)))) := drop_past hd1
    have hd3 : src.drop (off + 1 + c.length + 1) = t.txt ++ ([58] ++ (f.txt ++ ([41] ++ r))) := drop_past hd2
    have hd4 : src.drop (off + 1 + c.length + 1 + t.txt.length) = [58] ++ (f.txt ++ ([41] ++ r)) := drop_past hd3
    have hd5 : src.drop (off + 1 + c.length + 1 + t.txt.length + 1) = f.txt ++ ([41] ++ r) := drop_past hd4
    have hd6 : src.drop (off + 1 + c.length + 1 + t.txt.length + 1 + f.txt.length) = [41] ++ r := drop_past hd5
    have Hy := Lib.hid (eat1_yes (w := w) 40 h hd0)
    have Hpv := Lib.hid (fun (W : World) (hW : PsAt W B b g cap src (off + 1)) => parseVar_c c _ hW hd1 hc rfl)
    have Hx1 := Lib.hid (fun (W : World) (hW : PsAt W B b g cap src (off + 1 + c.length)) => expect1_c 63 hW hd2)
    have Hi1 := Lib.hid (fun (W : World) (hW : PsAt W B b g cap src (off + 1 + c.length + 1)) => parseInt_c t _ _ W ht hW hd3 rfl)
    have Hx2 := Lib.hid (fun (W : World) (hW : PsAt W B b g cap src (off + 1 + c.length + 1 + t.txt.length)) => expect1_c 58 hW hd4)
    have Hi2 := Lib.hid (fun (W : World) (hW : PsAt W B b g cap src (off + 1 + c.length + 1 + t.txt.length + 1)) => parseInt_c f _ _ W hf hW hd5 rfl)
    have Hx3 := Lib.hid (fun (W : World) (hW : PsAt W B b g cap src (off + 1 + c.length + 1 + t.txt.length + 1 + f.txt.length)) => expect1_c 41 hW hd6)
    clear h hd hc ht hf hr hd0 hd1 hd2 hd3 hd4 hd5 hd6
    go_enter Tryz.func31, Tryz.ntmps31
    go_wp2_with fail
    refine Hy.out.mono ?_
    rintro e w1 ⟨rfl, hp1, ho1⟩
    have Ho1 := Lib.hid ho1
    have Hk := Lib.hid (Hpv.out w1 hp1)
    clear hp1 ho1
    go_wp2_with fail
    refine Hk.out.mono ?_
    rintro e w2 ⟨k2, rfl, hv2, hp2, ho2⟩
    have Ho2 := Lib.hid (Ho1.out.trans ho2)
    have Hv2 := Lib.hid (And.intro hv2 hp2)
    have Hk2 := Lib.hid (Hx1.out w2 hp2)
    clear hp2 ho2 Hk Ho1 hv2
    unfold ptr
    go_wp2_with fail
    refine Hk2.out.mono ?_
    rintro e w3 ⟨rfl, hp3, ho3⟩
    have Hv3 := Lib.hid (Hv2.out.1.only Hv2.out.2 ho3)
    have Ho3 := Lib.hid (Ho2.out.trans ho3)
    have Hp3 := Lib.hid hp3
    have Hk3 := Lib.hid (Hi1.out w3 hp3)
    clear hp3 ho3 Hk2 Ho2 Hv2
    go_wp2_with fail
    refine Hk3.out.mono ?_
    rintro e w4 ⟨vt, rfl, hi4, hp4, ho4⟩
    obtain ⟨Tt, pt, rfl⟩ := hi4.shape
    have Hv4 := Lib.hid (Hv3.out.only Hp3.out ho4)
    have Ho4 := Lib.hid (Ho3.out.trans ho4)
    have Hi4 := Lib.hid (And.intro hi4 hp4)
    have Hk4 := Lib.hid (Hx2.out w4 hp4)
    clear hp4 ho4 hi4 Hk3 Ho3 Hv3 Hp3
    go_wp2_with fail
    refine Hk4.out.mono ?_
    rintro e w5 ⟨rfl, hp5, ho5⟩
    have Hv5 := Lib.hid (Hv4.out.only Hi4.out.2 ho5)
    have Hi5 := Lib.hid (And.intro (Hi4.out.1.kept (Kp.of_only Hi4.out.2 ho5 (by decide))) hp5)
    have Ho5 := Lib.hid (Ho4.out.trans ho5)
    have Hk5 := Lib.hid (Hi2.out w5 hp5)
    clear hp5 ho5 Hk4 Ho4 Hv4 Hi4
    go_wp2_with fail
    refine Hk5.out.mono ?_
    rintro e w6 ⟨vf, rfl, hi6, hp6, ho6⟩
    obtain ⟨Tf, pf, rfl⟩ := hi6.shape
    have Hv6 := Lib.hid (Hv5.out.only Hi5.out.2 ho6)
    have Ht6 := Lib.hid (Hi5.out.1.kept (Kp.of_only Hi5.out.2 ho6 (by decide)))
    have Ho6 := Lib.hid (Ho5.out.trans ho6)
    have Hi6 := Lib.hid (And.intro hi6 hp6)
    have Hk6 := Lib.hid (Hx3.out w6 hp6)
    clear hp6 ho6 hi6 Hk5 Ho5 Hv5 Hi5
    go_wp2_with fail
    refine Hk6.out.mono ?_
    rintro e w7 ⟨rfl, hp7, ho7⟩
    have Hv7 := Lib.hid (Hv6.out.only Hi6.out.2 ho7)
    have hkp := Kp.of_only Hi6.out.2 ho7 (tags := tagsN) (by decide)
    have Ht7 := Lib.hid (Ht6.out.kept hkp)
    have Hf7 := Lib.hid (Hi6.out.1.kept hkp)
    have Hp7 := Lib.hid (And.intro hp7 (Ho6.out.trans ho7))
    clear hp7 ho7 hkp Hk6 Ho6 Hv6 Ht6 Hi6
    go_wp2_with fail
    go_ret
    have hn := atB_new w7 #[.iface 58 (.pointer (some ⟨k2, 0, none⟩)), .iface Tt (.pointer (some pt)), .iface Tf (.pointer (some pf))] 101
    have hbl := (Below.refl w7.heap.size w7).alloc (Nat.le_refl _) (.cells #[.iface 58 (.pointer (some ⟨k2, 0, none⟩)), .iface Tt (.pointer (some pt)), .iface Tf (.pointer (some pf))] 101)
    have h9 := Hp7.out.1.below hbl
    have e9 : off + 1 + c.length + 1 + t.txt.length + 1 + f.txt.length + 1 = off + (IE.ite c t f).txt.length := by simp [IE.txt]; omega
    rw [e9] at h9
    exact ⟨_, rfl, ⟨w7.heap.size, k2, _, _, rfl, hn, Hv7.out.below hbl, Ht7.out.kept (Kp.of_below hbl), Hf7.out.kept (Kp.of_below hbl)⟩, h9, Hp7.out.2.alloc _⟩
end Go.Proofs.YthpianlilipggaaGreatDoor
