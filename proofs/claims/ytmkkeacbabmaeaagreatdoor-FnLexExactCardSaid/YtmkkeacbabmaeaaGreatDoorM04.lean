/- The reference's decimal numbers are the plain ones; with the hexadecimal ones: all numbers. Condition: the text is shorter than 2^61 bytes. · The reference's signs are the plain ones. Condition: the text is shorter than 2^61 bytes. · The reference's token at a place is the plain one: the parts. Condition: the text is at most 2^45 bytes long. · The reference's token at a place is the plain one: numbers, parameters, quoted texts, words, signs. Condition: the text is at most 2^45 bytes long. -/
import Derived.Test.YtmkkeacbabmaeaaGreatDoorM03
import Derived.Test.YtmkkeacbabmaeaaGreatDoorM01
import Derived.Test.YtmkkeacbabmaeaaGreatDoorM02
import Derived.Deep.DeepCutAuto
import Derived.Deep.CutBlock
import Derived.Deep.LoopGhost
import Derived.Deep.QuietTactic
import Derived.BigQuiet
import Derived.RegionTactic
namespace Go.Proofs.YtmkkeacbabmaeaaGreatDoor
open Go.RowKit Go.PlainAid

set_option maxHeartbeats 3200000 in
set_option maxRecDepth 100000 in
theorem lNumber_dec (s : ByteArray) (i b : Nat) (x : TokS) (w : World) (hs : s.size ≤ 2305843009213693952) (hi : i ≤ s.size) (ht : TokAt w b x) (hx : ¬ isHexAt s i) :
    Calls Tryz.prog 29 #[.string s, .int .i64 i, .pointer (some ⟨b, 0, none⟩)] w (NumPost s i b x w) := by
  have hb := get_bt s
  have hbn := bt_nonneg s
  have hbl := bt_le s
  have h1 : startsB s i ⟨#[48, 120]⟩ = false := by simpa using fun h => hx (Or.inl h)
  have h2 : startsB s i ⟨#[48, 88]⟩ = false := by simpa using fun h => hx (Or.inr h)
  have hf0 := ht.free 0
  have hf4 := ht.free 4
  have hc0 := ht.cell0
  have hc4 := ht.cell4
  have hx' := Lib.hid hx
  clear hx
  go_enter Tryz.func29, Tryz.ntmps29
  go_upto_block 2 with (go_at_call 11; refine (lStarts_c _ _ _ _ (by omega) (by decide) (by omega)).mono ?_; rintro e w' ⟨rfl, rfl⟩)
  go_cut [8] (fun v8 wc => v8 = .int .i64 (digitsEnd s i) ∧ TokAt wc b { x with kind := kInt, base := 10 } ∧ Only b w wc)
  case first => as_aux_lemma =>
    go_wp2_with fail
    go_loop [8] (fun v => ∃ k : Nat, k ≤ s.size ∧ v = .int .i64 k ∧ Hid (digitsEnd s k = digitsEnd s i)) (fun v => s.size - (intOf v).toNat)
    case atStart => exact ⟨i, hi, rfl, rfl⟩
    case round => as_aux_lemma =>
      obtain ⟨k, hk, rfl, hr⟩ := hrel
      by_cases hlt : k < s.size
      · cases hv : digitB (bt s k)
        · have hst := Lib.hid (digitsEnd_stop (s := s) (i := k) (fun h => by rw [hv] at h; cases h.2))
          go_wp2_with (go_at_call 28; refine (Digit_c _ _).mono ?_; rintro e w' ⟨rfl, rfl⟩)
          go_meet
          case rel => exact ⟨by rw [← hr.out, hst.out], (ht.setKind kInt).setBase 10, ((Only.refl b w).setCell 0 _).setCell 4 _⟩
        · go_wp2_with (go_at_call 28; refine (Digit_c _ _).mono ?_; rintro e w' ⟨rfl, rfl⟩)
          go_round
          case rel => exact ⟨k + 1, by omega, by go_num, by show digitsEnd s (k + 1) = _; rw [← hr.out, digitsEnd_go hlt hv]⟩
          case measure => simp [intOf]; omega
      · have hst := Lib.hid (digitsEnd_stop (s := s) (i := k) (fun h => hlt h.1))
        go_wp2
        go_meet
        case rel => exact ⟨by rw [← hr.out, hst.out], (ht.setKind kInt).setBase 10, ((Only.refl b w).setCell 0 _).setCell 4 _⟩
  case rest => as_aux_lemma =>
    obtain ⟨rfl, ht2, ho2⟩ := hcut
    clear hf0 hf4 hc0 hc4 h1 h2
    have hge := digitsEnd_ge s i
    have hle := digitsEnd_le s i hi
    obtain ⟨e0, he0⟩ : ∃ e0, digitsEnd s i = e0 := ⟨_, rfl⟩
    rw [he0] at hge hle
    rw [he0]
    have He0 := Lib.hid he0
    clear he0
    go_upto_region 11 with fail
    go_cut [79] (fun v wc2 => v = .bool (dotAt s e0) ∧ wc2 = wc)
    case first => as_aux_lemma =>
      by_cases hlt : e0 < s.size
      · obtain ⟨c, hc⟩ : ∃ c, bt s e0 = c := ⟨_, rfl⟩
        have hq : Hid (dotAt s e0 = (c == 46)) := by show _ = _; simp [dotAt, hlt, hc]; rfl
        have hb2 : ((s[e0]'hlt).toNat : Int) = c := by rw [hb e0 hlt]; exact hc
        clear hb hc
        go_wp2
        go_meet
        case rel => exact ⟨by rw [hq.out], rfl⟩
      · have hq : Hid (dotAt s e0 = false) := by show _ = _; simp [dotAt, hlt]
        go_wp2
        go_meet
        case rel => exact ⟨by rw [hq.out], rfl⟩
    case rest => as_aux_lemma =>
      obtain ⟨rfl, rfl⟩ := hcut
      go_upto_if 79 with fail
      go_cut [8] (fun v8 wc2 => ∃ (e : Nat) (fl : Bool) (base : Int), e ≤ s.size ∧ v8 = .int .i64 e ∧ TokAt wc2 b { x with kind := numKind fl, base := base } ∧ Only b w wc2 ∧ Hid (numOf s i = expPart s e fl base))
      case first => as_aux_lemma =>
        have hf0 := ht2.free 0
        have hf4 := ht2.free 4
        have hc0 := ht2.cell0
        have hc4 := ht2.cell4
        cases hd : dotAt s e0
        · go_wp2
          go_meet
          case rel => exact ⟨e0, false, 10, hle, rfl, ht2, ho2, by show _ = _; rw [← He0.out]; exact numOf_plain hx'.out (by rw [He0.out]; exact dotAt_no hd)⟩
        · have hdy := dotAt_yes hd
          have hlt := hdy.1
          clear hdy
          go_wp2
          go_loop [8] (fun v => ∃ k : Nat, k ≤ s.size ∧ v = .int .i64 k ∧ Hid (digitsEnd s k = digitsEnd s (e0 + 1))) (fun v => s.size - (intOf v).toNat)
          case atStart => exact ⟨e0 + 1, by omega, by go_num, rfl⟩
          case round => as_aux_lemma =>
            obtain ⟨k, hk, rfl, hr⟩ := hrel
            by_cases hlt2 : k < s.size
            · cases hv : digitB (bt s k)
              · have hst := Lib.hid (digitsEnd_stop (s := s) (i := k) (fun h => by rw [hv] at h; cases h.2))
                go_wp2_with (go_at_call 28; refine (Digit_c _ _).mono ?_; rintro e w' ⟨rfl, rfl⟩)
                go_meet
                case rel => exact ⟨k, true, 0, hk, rfl, (ht2.setKind kFloat).setBase 0, (ho2.setCell 0 _).setCell 4 _, by show _ = _; rw [← hst.out, hr.out, ← He0.out]; exact numOf_dot hx'.out (by rw [He0.out]; exact dotAt_yes hd)⟩
              · go_wp2_with (go_at_call 28; refine (Digit_c _ _).mono ?_; rintro e w' ⟨rfl, rfl⟩)
                go_round
                case rel => exact ⟨k + 1, by omega, by go_num, by show digitsEnd s (k + 1) = _; rw [← hr.out, digitsEnd_go hlt2 hv]⟩
                case measure => simp [intOf]; omega
            · have hst := Lib.hid (digitsEnd_stop (s := s) (i := k) (fun h => hlt2 h.1))
              go_wp2
              go_meet
              case rel => exact ⟨k, true, 0, hk, rfl, (ht2.setKind kFloat).setBase 0, (ho2.setCell 0 _).setCell 4 _, by show _ = _; rw [← hst.out, hr.out, ← He0.out]; exact numOf_dot hx'.out (by rw [He0.out]; exact dotAt_yes hd)⟩
      case rest => as_aux_lemma =>
        obtain ⟨e, fl, base, hle1, rfl, ht3, ho3, hnum⟩ := hcut
        clear He0 hge hle ht2 ho2
        go_upto_region 16 with fail
        go_cut [115] (fun v wc2 => v = .bool (eAt s e) ∧ wc2 = wc)
        case first => as_aux_lemma =>
          by_cases hlt : e < s.size
          · obtain ⟨c, hc⟩ : ∃ c, bt s e = c := ⟨_, rfl⟩
            have hb2 : ((s[e]'hlt).toNat : Int) = c := by rw [hb e hlt]; exact hc
            by_cases h1 : c = 101
            · have hq : Hid (eAt s e = true) := by show _ = _; simp [eAt, hlt, hc, isE, h1]
              have h1b : (c == 101) = true := by simp [h1]
              clear hb hc h1
              go_wp2
              go_meet
              case rel => exact ⟨by rw [hq.out], rfl⟩
            · have hq : Hid (eAt s e = (c == 69)) := by show _ = _; simp [eAt, hlt, hc, isE, h1]; rfl
              have h1b : (c == 101) = false := by simp [h1]
              clear hb hc h1
              go_wp2
              go_meet
              case rel => exact ⟨by rw [hq.out], rfl⟩
          · have hq : Hid (eAt s e = false) := by show _ = _; simp [eAt, hlt]
            go_wp2
            go_meet
            case rel => exact ⟨by rw [hq.out], rfl⟩
        case rest => as_aux_lemma =>
          obtain ⟨rfl, rfl⟩ := hcut
          go_upto_if 115 with fail
          go_cut [8] (fun v8 wc2 => ∃ (e2 : Nat) (fl2 : Bool) (base2 : Int), e2 ≤ s.size ∧ v8 = .int .i64 e2 ∧ TokAt wc2 b { x with kind := numKind fl2, base := base2 } ∧ Only b w wc2 ∧ Hid (numOf s i = ⟨e2, loose s e2, fl2, base2⟩))
          case first => as_aux_lemma =>
            cases he : eAt s e
            · go_wp2
              go_meet
              case rel => exact ⟨e, fl, base, hle1, rfl, ht3, ho3, by show _ = _; rw [hnum.out]; exact expPart_none (eAt_no he)⟩
            · have hey := Lib.hid (eAt_yes he)
              have hlt := (eAt_yes he).1
              go_upto_region 18 with fail
              go_cut [133] (fun v wc2 => v = .bool (pmAt s (e + 1)) ∧ wc2 = wc)
              case first => as_aux_lemma =>
                by_cases hlt : e + 1 < s.size
                · obtain ⟨c, hc⟩ : ∃ c, bt s (e + 1) = c := ⟨_, rfl⟩
                  have hb2 : ((s[e + 1]'hlt).toNat : Int) = c := by rw [hb (e + 1) hlt]; exact hc
                  by_cases h1 : c = 43
                  · have hq : Hid (pmAt s (e + 1) = true) := by show _ = _; simp [pmAt, hlt, hc, isPM, h1]
                    have h1b : (c == 43) = true := by simp [h1]
                    clear hb hc h1
                    go_wp2
                    go_meet
                    case rel => exact ⟨by rw [hq.out], rfl⟩
                  · have hq : Hid (pmAt s (e + 1) = (c == 45)) := by show _ = _; simp [pmAt, hlt, hc, isPM, h1]; rfl
                    have h1b : (c == 43) = false := by simp [h1]
                    clear hb hc h1
                    go_wp2
                    go_meet
                    case rel => exact ⟨by rw [hq.out], rfl⟩
                · have hq : Hid (pmAt s (e + 1) = false) := by show _ = _; simp [pmAt, hlt]
                  go_wp2
                  go_meet
                  case rel => exact ⟨by rw [hq.out], rfl⟩
              case rest => as_aux_lemma =>
                obtain ⟨rfl, rfl⟩ := hcut
                go_upto_if 133 with fail
                go_cut [9] (fun v9 wc2 => ∃ k : Nat, v9 = .int .i64 k ∧ wc2 = wc ∧ k ≤ s.size ∧ Hid (expAt s e = k))
                case first => as_aux_lemma =>
                  cases hp : pmAt s (e + 1)
                  · have hk := expAt_no hp
                    have Hk := Lib.hid hk
                    clear hk
                    go_wp2
                    go_meet
                    case rel => exact ⟨e + 1, by go_num, rfl, by omega, Hk⟩
                  · have hk := expAt_pm hp
                    have Hk := Lib.hid hk
                    have hlt2 := pmAt_lt hp
                    clear hk
                    go_wp2
                    go_meet
                    case rel => exact ⟨e + 2, by go_num, rfl, by omega, Hk⟩
                case rest => as_aux_lemma =>
                  obtain ⟨k, rfl, rfl, hks, Hk⟩ := hcut
                  go_upto_region 20 with fail
                  go_cut [146] (fun v wc2 => v = .bool (!digAt s k) ∧ wc2 = wc)
                  case first => as_aux_lemma =>
                    by_cases hlt : k < s.size
                    · have hne : ((k : Int) == (s.size : Int)) = false := by simp; omega
                      have hq : Hid (digAt s k = digitB (bt s k)) := by show _ = _; cases hd : digitB (bt s k) <;> simp [digAt, hlt, hd]
                      go_wp2_with (go_at_call 28; refine (Digit_c _ _).mono ?_; rintro e w' ⟨rfl, rfl⟩)
                      go_meet
                      case rel => exact ⟨by rw [hq.out], rfl⟩
                    · have hne : ((k : Int) == (s.size : Int)) = true := by simp; omega
                      have hq : Hid (digAt s k = false) := by show _ = _; simp [digAt, hlt]
                      go_wp2
                      go_meet
                      case rel => exact ⟨by rw [hq.out]; rfl, rfl⟩
                  case rest => as_aux_lemma =>
                    obtain ⟨rfl, rfl⟩ := hcut
                    have hf0 := ht3.free 0
                    have hf4 := ht3.free 4
                    have hc0 := ht3.cell0
                    have hc4 := ht3.cell4
                    cases hd : digAt s k
                    · have hbad : Hid (numOf s i = ⟨e, false, fl, base⟩) := by show _ = _; rw [hnum.out]; exact expPart_bad hey.out (by rw [Hk.out]; exact digAt_no hd)
                      go_wp2_with fail
                      go_ret2
                      refine ⟨?_, ?_, ?_⟩
                      · exact ret_ib (by rw [hbad.out]) (by rw [hbad.out])
                      · rw [hbad.out]; exact ht3
                      · exact ho3
                    · have hgood : Hid (numOf s i = ⟨digitsEnd s k, loose s (digitsEnd s k), true, 0⟩) := by show _ = _; rw [hnum.out, ← Hk.out]; exact expPart_good hey.out (by rw [Hk.out]; exact digAt_yes hd)
                      go_wp2_with fail
                      go_loop [9] (fun v => ∃ q : Nat, q ≤ s.size ∧ v = .int .i64 q ∧ Hid (digitsEnd s q = digitsEnd s k)) (fun v => s.size - (intOf v).toNat)
                      case atStart => exact ⟨k, hks, rfl, rfl⟩
                      case round => as_aux_lemma =>
                        obtain ⟨q, hq, rfl, hr⟩ := hrel
                        by_cases hlt2 : q < s.size
                        · cases hv : digitB (bt s q)
                          · have hst := Lib.hid (digitsEnd_stop (s := s) (i := q) (fun h => by rw [hv] at h; cases h.2))
                            go_wp2_with (go_at_call 28; refine (Digit_c _ _).mono ?_; rintro e w' ⟨rfl, rfl⟩)
                            go_meet
                            case rel => exact ⟨q, true, 0, hq, rfl, (ht3.setKind kFloat).setBase 0, (ho3.setCell 0 _).setCell 4 _, by show _ = _; rw [hgood.out, ← hr.out, hst.out]⟩
                          · go_wp2_with (go_at_call 28; refine (Digit_c _ _).mono ?_; rintro e w' ⟨rfl, rfl⟩)
                            go_round
                            case rel => exact ⟨q + 1, by omega, by go_num, by show digitsEnd s (q + 1) = _; rw [← hr.out, digitsEnd_go hlt2 hv]⟩
                            case measure => simp [intOf]; omega
                        · have hst := Lib.hid (digitsEnd_stop (s := s) (i := q) (fun h => hlt2 h.1))
                          go_wp2
                          go_meet
                          case rel => exact ⟨q, true, 0, hq, rfl, (ht3.setKind kFloat).setBase 0, (ho3.setCell 0 _).setCell 4 _, by show _ = _; rw [hgood.out, ← hr.out, hst.out]⟩
          case rest => as_aux_lemma =>
            obtain ⟨e2, fl2, base2, hle2, rfl, ht4, ho4, hres⟩ := hcut
            by_cases hlt : e2 < s.size
            · go_wp2_with (go_at_call 25; refine (IdentPart_c _ _).mono ?_; rintro e w' ⟨rfl, rfl⟩)
              go_ret2
              refine ⟨?_, ?_, ?_⟩
              · exact ret_ib (by rw [hres.out]) (by rw [hres.out]; show _ = loose s e2; rw [loose_in hlt])
              · rw [hres.out]; exact ht4
              · exact ho4
            · go_wp2
              go_ret2
              refine ⟨?_, ?_, ?_⟩
              · exact ret_ib (by rw [hres.out]) (by rw [hres.out]; show _ = loose s e2; rw [loose_end hlt])
              · rw [hres.out]; exact ht4
              · exact ho4

theorem lNumber_c (s : ByteArray) (i b : Nat) (x : TokS) (w : World) (hs : s.size ≤ 2305843009213693952) (hi : i ≤ s.size) (ht : TokAt w b x) :
    Calls Tryz.prog 29 #[.string s, .int .i64 i, .pointer (some ⟨b, 0, none⟩)] w (NumPost s i b x w) := by
  by_cases hx : isHexAt s i
  · exact lNumber_hex s i b x w hs ht hx
  · exact lNumber_dec s i b x w hs hi ht hx
end Go.Proofs.YtmkkeacbabmaeaaGreatDoor
namespace Go.Proofs.YtmkkeacbabmaeaaGreatDoor
open Go.RowKit Go.PlainAid

theorem symK : ({ data := #[60, 60, 62, 62, 60, 61, 62, 61, 60, 62, 33, 61, 124, 124, 61, 62, 45, 62, 124, 62, 64, 64] } : ByteArray) = symText := rfl
theorem sigK : ({ data := #[40, 41, 91, 93, 123, 125, 44, 59, 58, 46, 64, 61, 60, 62, 43, 45, 42, 47, 38, 94, 37, 124, 126, 36, 63, 92] } : ByteArray) = sigText := rfl
theorem Only.drewN {b : Nat} {u w : World} (h : Only b u w) (n : Nat) : Only b u (w.drewN n) := ⟨h.os, h.tape, h.output, h.size, h.block⟩
theorem TokAt.drewN {w : World} {b : Nat} {x : TokS} (h : TokAt w b x) (n : Nat) : TokAt (w.drewN n) b x := h

def SignPost (i b : Nat) (x : TokS) (o : Option (ByteArray × Nat)) (w : World) (e : Ending) (w' : World) : Prop :=
  match o with
  | none => e = .returned (.tuple #[.int .i64 i, .bool false]) ∧ TokAt w' b x ∧ Only b w w'
  | some p => e = .returned (.tuple #[.int .i64 p.2, .bool true]) ∧ TokAt w' b { x with kind := p.1 } ∧ Only b w w'
theorem signPost_none {i b : Nat} {x : TokS} {o : Option (ByteArray × Nat)} {w w' : World} (ho : o = none) (ht : TokAt w' b x) (hw : Only b w w') : SignPost i b x o w (.returned (.tuple #[.int .i64 i, .bool false])) w' := by subst ho; exact ⟨rfl, ht, hw⟩
theorem signPost_some {i b n : Nat} {x : TokS} {kd : ByteArray} {o : Option (ByteArray × Nat)} {w w' : World} (ho : o = some (kd, n)) (ht : TokAt w' b { x with kind := kd }) (hw : Only b w w') : SignPost i b x o w (.returned (.tuple #[.int .i64 n, .bool true])) w' := by subst ho; exact ⟨rfl, ht, hw⟩

set_option maxHeartbeats 3200000 in
set_option maxRecDepth 100000 in
theorem lSign_c (s : ByteArray) (i b : Nat) (x : TokS) (w : World) (hs : s.size ≤ 2305843009213693952) (hi : i < s.size) (ht : TokAt w b x) :
    Calls Tryz.prog 34 #[.string s, .int .i64 i, .pointer (some ⟨b, 0, none⟩)] w (SignPost i b x (signOf s i) w) := by
  go_enter Tryz.func34, Tryz.ntmps34
  rw [symK, sigK]
  obtain ⟨Y, hY⟩ : ∃ Y, Y = symText := ⟨_, rfl⟩
  obtain ⟨G, hG⟩ : ∃ G, G = sigText := ⟨_, rfl⟩
  rw [← hY, ← hG]
  have hY1 : Y.size ≤ 22 := by rw [hY]; decide
  have hY2 : 22 ≤ Y.size := by rw [hY]; decide
  have hG1 : G.size ≤ 26 := by rw [hG]; decide
  have hG2 : 26 ≤ G.size := by rw [hG]; decide
  have Hsym : Hid (∀ p, symFrom Y s i 0 = some p → signOf s i = some p) := fun p h => by rw [hY] at h; exact signOf_sym h
  have Hsig : Hid (symFrom Y s i 0 = none → signOf s i = sigFrom G s i 0) := fun h => by rw [hY] at h; rw [hG]; exact signOf_sig h
  clear hY hG
  have hf0 := ht.free 0
  have hc0 := ht.cell0
  go_upto_block 0 with fail
  go_cut [] (fun wc => w = wc ∧ Hid (symFrom Y s i 0 = none))
  case first => as_aux_lemma =>
    go_wp2_with fail
    go_loop [8] (fun v => ∃ k : Nat, k % 2 = 0 ∧ k ≤ 22 ∧ v = .int .i64 k ∧ Hid (symFrom Y s i k = symFrom Y s i 0)) (fun v => 22 - (intOf v).toNat)
    case atStart => exact ⟨0, rfl, by omega, rfl, rfl⟩
    case round =>
      obtain ⟨k, hev, hk, rfl, hr⟩ := hrel
      have Hev := Lib.hid hev
      clear hev
      by_cases hlt : k < 22
      · have hk2 : k + 2 ≤ 22 := by have := Hev.out; omega
        have hkw : Hid (k ≤ 20) := by show k ≤ 20; omega
        have hsz : (Y.extract k (k + 2)).size ≤ 22 := by rw [ByteArray.size_extract]; omega
        cases hst : startsB s i (Y.extract k (k + 2))
        · go_wp2_with (go_at_call 11; refine (lStarts_c _ _ _ _ (by omega) (by omega) (by omega)).mono ?_; rintro e w' ⟨rfl, rfl⟩)
          go_round
          case rel => exact ⟨k + 2, by have := Hev.out; omega, by omega, by go_num, by show symFrom Y s i (k + 2) = _; rw [← hr.out, symFrom_go hlt hst]⟩
          case measure => simp [intOf]; omega
        · have hgood : Hid (signOf s i = some (Y.extract k (k + 2), i + 2)) := Hsym.out _ (by rw [← hr.out, symFrom_hit hlt hst])
          go_wp2_with (go_at_call 11; refine (lStarts_c _ _ _ _ (by omega) (by omega) (by omega)).mono ?_; rintro e w' ⟨rfl, rfl⟩)
          go_ret2
          exact signPost_some hgood.out (ht.setKind _) ((Only.refl b w).setCell 0 _)
      · go_wp2
        go_meet
        case rel => exact ⟨rfl, by show _ = _; rw [← hr.out, symFrom_end hlt]⟩
  case rest =>
    obtain ⟨rfl, hno⟩ := hcut
    have hsg := Lib.hid (Hsig.out hno.out)
    clear Hsym Hsig hno hY1 hY2
    have hGb := get_bt G
    have hsb := get_bt s
    obtain ⟨c, hc⟩ : ∃ c, bt s i = c := ⟨_, rfl⟩
    have hb0 : ((s[i]'hi).toNat : Int) = c := by rw [hsb i hi]; exact hc
    have Hc := Lib.hid hc
    clear hsb hc
    go_wp2_with fail
    go_loopw [9] (fun v wr => ∃ (k n : Nat), k ≤ 26 ∧ v = .int .i64 k ∧ wr = w.drewN n ∧ Hid (sigFrom G s i k = sigFrom G s i 0)) (fun v _ => 26 - (intOf v).toNat)
    case atStart => exact ⟨0, 0, by omega, rfl, rfl, rfl⟩
    case round =>
      obtain ⟨k, n, hk, rfl, rfl, hr⟩ := hrel
      have ht2 := ht.drewN n
      by_cases hlt : k < 26
      · have hkG : k < G.size := by omega
        have hgi := hGb k hkG
        have hk0 : (0 : Int) ≤ k := by omega
        have hkI : (k : Int) < (G.size : Int) := by omega
        have hiI : (i : Int) < (s.size : Int) := by omega
        by_cases hh : bt G k = c
        · have hhb : (bt G k == c) = true := by simp [hh]
          have hgood : Hid (signOf s i = some (G.extract k (k + 1), i + 1)) := by show _ = _; rw [hsg.out, ← hr.out, sigFrom_hit hlt (by rw [Hc.out]; exact hh)]
          clear hh
          go_wp2_with fail
          go_quiet (fail)
          go_wp2_with fail
          go_ret2
          exact signPost_some hgood.out ((ht.drewN (n + nq)).setKind _) (((Only.refl b w).drewN (n + nq)).setCell 0 _)
        · have hhb : (bt G k == c) = false := by simp [hh]
          have hstep : Hid (sigFrom G s i (k + 1) = sigFrom G s i 0) := by show _ = _; rw [← hr.out, sigFrom_go hlt (by rw [Hc.out]; exact hh)]
          clear hh
          go_wp2_with fail
          go_quiet (fail)
          go_wp2_with fail
          go_roundw
          case rel => exact ⟨k + 1, n + nq, by omega, by go_num, by simp, hstep⟩
          case measure => simp [intOf]; omega
      · go_wp2
        go_ret2
        exact signPost_none (by rw [hsg.out, ← hr.out, sigFrom_end hlt]) ht2 ((Only.refl b w).drewN n)
end Go.Proofs.YtmkkeacbabmaeaaGreatDoor
namespace Go.Proofs.YtmkkeacbabmaeaaGreatDoor
open Go.RowKit Go.PlainAid

theorem lDotted_c (k : ByteArray) (w : World) :
    Calls Tryz.prog 18 #[.string k] w fun e w' => e = .returned (.bool (dottedB k)) ∧ w = w' := by
  go_enter Tryz.func18, Tryz.ntmps18
  go_wp2
  all_goals (go_ret; refine ⟨ret_bool ?_, rfl⟩; simp [dottedB, *])

/-- What a token leaves in memory. -/
def tokSet (x : TokS) (r : TokR) : TokS := { x with kind := r.kind, text := r.text.getD x.text, base := r.base.getD x.base }
def TokPost (b : Nat) (x : TokS) (o : Option TokR) (w : World) (e : Ending) (w' : World) : Prop :=
  match o with
  | none => (∃ n : Int, e = .returned (.tuple #[.int .i64 n, .bool false])) ∧ Only b w w'
  | some r => e = .returned (.tuple #[.int .i64 r.stop, .bool true]) ∧ TokAt w' b (tokSet x r) ∧ Only b w w'
theorem tokPost_none {b : Nat} {x : TokS} {o : Option TokR} {w w' : World} {n : Int} (ho : o = none) (hw : Only b w w') : TokPost b x o w (.returned (.tuple #[.int .i64 n, .bool false])) w' := by subst ho; exact ⟨⟨n, rfl⟩, hw⟩
theorem tokPost_some {b : Nat} {x : TokS} {o : Option TokR} {r : TokR} {w w' : World} (ho : o = some r) (ht : TokAt w' b (tokSet x r)) (hw : Only b w w') : TokPost b x o w (.returned (.tuple #[.int .i64 r.stop, .bool true])) w' := by subst ho; exact ⟨rfl, ht, hw⟩

set_option maxHeartbeats 800000 in
set_option maxRecDepth 100000 in
theorem lTok_eof (s : ByteArray) (i b : Nat) (x : TokS) (path : Bool) (after : Bool) (w : World) (ht : TokAt w b x) (hi : i = s.size) :
    Calls Tryz.prog 19 #[.string s, .int .i64 i, .bool path, .bool after, .pointer (some ⟨b, 0, none⟩)] w (TokPost b x (tokOf s i path after) w) := by
  have ho : Hid (tokOf s i path after = some ⟨kEof, none, none, i⟩) := by show _ = _; rw [tokOf, if_pos hi]
  have hf0 := ht.free 0
  have hc0 := ht.cell0
  have hib : ((i : Int) == (s.size : Int)) = true := by simp; omega
  clear hi
  go_enter Tryz.func19, Tryz.ntmps19
  go_wp2
  go_ret2
  exact tokPost_some ho.out (ht.setKind _) ((Only.refl b w).setCell 0 _)

set_option maxHeartbeats 800000 in
set_option maxRecDepth 100000 in
theorem lTok_path (s : ByteArray) (i b : Nat) (x : TokS) (after : Bool) (w : World) (hs : s.size ≤ 35184372088832) (ht : TokAt w b x) (hi : i < s.size) (hp : partB (bt s i) = true) :
    Calls Tryz.prog 19 #[.string s, .int .i64 i, .bool true, .bool after, .pointer (some ⟨b, 0, none⟩)] w (TokPost b x (tokOf s i true after) w) := by
  have ho : Hid (tokOf s i true after = some ⟨kIdent, some (s.extract i (partsEnd s i)), none, partsEnd s i⟩) := by show _ = _; rw [tokOf, if_neg (by omega), if_pos ⟨rfl, hp⟩]
  have hf0 := ht.free 0
  have hc0 := ht.cell0
  have hf3 := ht.free 3
  have hc3 := ht.cell3
  have hib : ((i : Int) == (s.size : Int)) = false := by simp; omega
  have hb := get_bt s
  have hp1 := partsEnd_ge s i
  have hp2 := partsEnd_le s i (by omega)
  have hpe := lParts_c s i w (by omega) (by omega)
  obtain ⟨e0, he0⟩ : ∃ e0, partsEnd s i = e0 := ⟨_, rfl⟩
  rw [he0] at hp1 hp2 ho hpe
  clear he0
  have Hpe := Lib.hid hpe
  clear hpe
  go_enter Tryz.func19, Tryz.ntmps19
  go_wp2_with (first
    | (go_at_call 25; refine (IdentPart_c _ _).mono ?_; rintro e w' ⟨rfl, rfl⟩)
    | (go_at_call 26; refine Hpe.out.mono ?_; rintro e w' ⟨rfl, rfl⟩))
  go_region
  go_wp2_with fail
  go_ret2
  exact tokPost_some ho.out ((ht.setKind _).setText _) (((Only.refl b w).setCell 0 _).setCell 3 _).drew

set_option maxHeartbeats 800000 in
set_option maxRecDepth 100000 in
theorem lTok_back (s : ByteArray) (i b : Nat) (x : TokS) (path : Bool) (after : Bool) (w : World) (hs : s.size ≤ 35184372088832) (ht : TokAt w b x) (hi : i < s.size) (hp : (path && partB (bt s i)) = false) (h96 : bt s i = 96) :
    Calls Tryz.prog 19 #[.string s, .int .i64 i, .bool path, .bool after, .pointer (some ⟨b, 0, none⟩)] w (TokPost b x (tokOf s i path after) w) := by
  have ho : Hid (tokOf s i path after = backTok s i) := by show _ = _; rw [tokOf, if_neg (by omega), if_neg (fun h => by simp [h.1, h.2] at hp), if_pos h96]
  obtain ⟨O, hO⟩ : ∃ O, tokOf s i path after = O := ⟨_, rfl⟩
  rw [hO] at ho
  rw [hO]
  clear hO
  have hf0 := ht.free 0
  have hc0 := ht.cell0
  have hf3 := ht.free 3
  have hc3 := ht.cell3
  have hib : ((i : Int) == (s.size : Int)) = false := by simp; omega
  have hb := get_bt s
  obtain ⟨c, hc⟩ : ∃ c, bt s i = c := ⟨_, rfl⟩
  have hb0 : ((s[i]'hi).toNat : Int) = c := by rw [hb i hi]; exact hc
  have hc0' : 0 ≤ c := by rw [← hc]; exact bt_nonneg s i
  have hc1' : c ≤ 255 := by rw [← hc]; exact bt_le s i
  rw [hc] at h96
  subst h96
  rw [hc] at hp
  clear hb hc
  cases path
  all_goals
    simp only [Bool.true_and, Bool.false_and] at hp
    go_enter Tryz.func19, Tryz.ntmps19
    go_wp2_with (go_at_call 25; refine (IdentPart_c _ _).mono ?_; rintro e w' ⟨rfl, rfl⟩)
    refine (Quoted_c s i false false w hs hi).mono ?_
    intro e w' hq
    unfold backTok at ho
    obtain ⟨r, hr⟩ : ∃ r, quotOf s i false false = r := ⟨_, rfl⟩
    rw [hr] at ho hq
    clear hr
    cases r with
    | good v n =>
      obtain ⟨rfl, hb1⟩ := hq
      have ht1 := ht.below hb1
      have hf01 := ht1.free 0
      have hc01 := ht1.cell0
      have hf31 := ht1.free 3
      have hc31 := ht1.cell3
      by_cases hv : v = []
      · have ho2 : Hid (O = none) := by show _ = _; rw [ho.out]; simp [hv]
        subst hv
        go_wp2_with fail
        go_ret2
        exact tokPost_none ho2.out (((Only.of_below hb1).setCell 0 _).setCell 3 _)
      · have ho2 : Hid (O = some ⟨kIdent, some ⟨v.toArray⟩, none, n⟩) := by show _ = _; rw [ho.out]; simp [hv]
        have hvb : v.isEmpty = false := by cases v with | nil => exact absurd rfl hv | cons a l => rfl
        go_wp2_with fail
        go_ret2
        exact tokPost_some ho2.out ((ht1.setKind _).setText _) (((Only.of_below hb1).setCell 0 _).setCell 3 _)
    | bad n =>
      obtain ⟨rfl, hb1⟩ := hq
      have ht1 := ht.below hb1
      have hf01 := ht1.free 0
      have hc01 := ht1.cell0
      have hf31 := ht1.free 3
      have hc31 := ht1.cell3
      have ho2 : Hid (O = none) := by show _ = _; rw [ho.out]
      go_wp2_with fail
      go_ret2
      exact tokPost_none ho2.out (((Only.of_below hb1).setCell 0 _).setCell 3 _)


end Go.Proofs.YtmkkeacbabmaeaaGreatDoor
namespace Go.Proofs.YtmkkeacbabmaeaaGreatDoor
open Go.RowKit Go.PlainAid

theorem num_tok {s : ByteArray} {i b : Nat} {x : TokS} {O : Option TokR} {w w' : World} (ho : O = numTok s i) (ht : TokAt w' b { x with kind := numKind (numOf s i).float, base := (numOf s i).base }) (hw : Only b w w') :
    TokPost b x O w (.returned (.tuple #[.int .i64 (numOf s i).stop, .bool (numOf s i).ok])) w' := by
  subst ho
  unfold numTok
  cases hk : (numOf s i).ok
  · exact ⟨⟨_, rfl⟩, hw⟩
  · exact ⟨rfl, ht, hw⟩
theorem sign_tok {s : ByteArray} {i b : Nat} {x : TokS} {O : Option TokR} {w w' : World} {e : Ending} (ho : O = signTok s i) (h : SignPost i b x (signOf s i) w e w') : TokPost b x O w e w' := by
  subst ho
  unfold signTok
  cases hk : signOf s i with
  | none => rw [hk] at h; exact ⟨⟨_, h.1⟩, h.2.2⟩
  | some p => rw [hk] at h; exact h

set_option maxHeartbeats 1600000 in
set_option maxRecDepth 100000 in
theorem lTok_digit (s : ByteArray) (i b : Nat) (x : TokS) (path : Bool) (after : Bool) (w : World) (hs : s.size ≤ 35184372088832) (ht : TokAt w b x) (hi : i < s.size) (hp : (path && partB (bt s i)) = false) (hd : digitB (bt s i) = true) :
    Calls Tryz.prog 19 #[.string s, .int .i64 i, .bool path, .bool after, .pointer (some ⟨b, 0, none⟩)] w (TokPost b x (tokOf s i path after) w) := by
  have ho : Hid (tokOf s i path after = numTok s i) := by show _ = _; rw [tokOf, if_neg (by omega), if_neg (fun h => by simp [h.1, h.2] at hp), if_neg (by intro h; rw [h] at hd; cases hd), if_pos (Or.inl hd)]
  obtain ⟨O, hO⟩ : ∃ O, tokOf s i path after = O := ⟨_, rfl⟩
  rw [hO] at ho
  rw [hO]
  clear hO
  have hf0 := ht.free 0
  have hc0 := ht.cell0
  have hf3 := ht.free 3
  have hc3 := ht.cell3
  have hib : ((i : Int) == (s.size : Int)) = false := by simp; omega
  have hb := get_bt s
  obtain ⟨c, hc⟩ : ∃ c, bt s i = c := ⟨_, rfl⟩
  have hb0 : ((s[i]'hi).toNat : Int) = c := by rw [hb i hi]; exact hc
  have hc0' : 0 ≤ c := by rw [← hc]; exact bt_nonneg s i
  have hc1' : c ≤ 255 := by rw [← hc]; exact bt_le s i
  have h96 : (c == 96) = false := by
    rw [hc] at hd
    by_cases e : c = 96
    · subst e; cases hd
    · simp [e]
  rw [hc] at hp hd
  clear hb hc
  have hnum := Lib.hid (lNumber_c s i b x w (by omega) (by omega) ht)
  cases path
  all_goals
    simp only [Bool.true_and, Bool.false_and] at hp
    go_enter Tryz.func19, Tryz.ntmps19
    go_wp2_with (first | (go_at_call 25; refine (IdentPart_c _ _).mono ?_; rintro e w' ⟨rfl, rfl⟩) | (go_at_call 28; refine (Digit_c _ _).mono ?_; rintro e w' ⟨rfl, rfl⟩))
    refine hnum.out.mono ?_
    rintro e w' ⟨rfl, ht2, hw2⟩
    go_wp2_with fail
    go_ret2
    exact num_tok ho.out ht2 hw2

set_option maxHeartbeats 1600000 in
set_option maxRecDepth 100000 in
theorem lTok_dot (s : ByteArray) (i b : Nat) (x : TokS) (path : Bool) (w : World) (hs : s.size ≤ 35184372088832) (ht : TokAt w b x) (hi : i < s.size) (hp : (path && partB (bt s i)) = false) (hd : dotNum s i false) :
    Calls Tryz.prog 19 #[.string s, .int .i64 i, .bool path, .bool false, .pointer (some ⟨b, 0, none⟩)] w (TokPost b x (tokOf s i path false) w) := by
  have ho : Hid (tokOf s i path false = numTok s i) := by show _ = _; rw [tokOf, if_neg (by omega), if_neg (fun h => by simp [h.1, h.2] at hp), if_neg (by rw [hd.1]; decide), if_pos (Or.inr hd)]
  obtain ⟨O, hO⟩ : ∃ O, tokOf s i path false = O := ⟨_, rfl⟩
  rw [hO] at ho
  rw [hO]
  clear hO
  have hf0 := ht.free 0
  have hc0 := ht.cell0
  have hf3 := ht.free 3
  have hc3 := ht.cell3
  have hib : ((i : Int) == (s.size : Int)) = false := by simp; omega
  have hb := get_bt s
  obtain ⟨c, hc⟩ : ∃ c, bt s i = c := ⟨_, rfl⟩
  have hb0 : ((s[i]'hi).toNat : Int) = c := by rw [hb i hi]; exact hc
  have hc0' : 0 ≤ c := by rw [← hc]; exact bt_nonneg s i
  have hc1' : c ≤ 255 := by rw [← hc]; exact bt_le s i
  have hlt := hd.2.2.1
  have hdg := hd.2.2.2
  have hc46 : c = 46 := by rw [← hc]; exact hd.1
  subst hc46
  obtain ⟨d, hd'⟩ : ∃ d, bt s (i + 1) = d := ⟨_, rfl⟩
  have hb1 : ((s[i + 1]'hlt).toNat : Int) = d := by rw [hb _ hlt]; exact hd'
  have hd46 : digitB 46 = false := by decide
  rw [hc] at hp
  rw [hd'] at hdg
  clear hb hc hd hd'
  have hnum := Lib.hid (lNumber_c s i b x w (by omega) (by omega) ht)
  cases path
  all_goals
    simp only [Bool.true_and, Bool.false_and] at hp
    go_enter Tryz.func19, Tryz.ntmps19
    go_wp2_with (first | (go_at_call 25; refine (IdentPart_c _ _).mono ?_; rintro e w' ⟨rfl, rfl⟩) | (go_at_call 28; refine (Digit_c _ _).mono ?_; rintro e w' ⟨rfl, rfl⟩))
    refine hnum.out.mono ?_
    rintro e w' ⟨rfl, ht2, hw2⟩
    go_wp2_with fail
    go_ret2
    exact num_tok ho.out ht2 hw2

set_option maxHeartbeats 1600000 in
set_option maxRecDepth 100000 in
theorem lTok_at (s : ByteArray) (i b : Nat) (x : TokS) (path : Bool) (after : Bool) (w : World) (hs : s.size ≤ 35184372088832) (ht : TokAt w b x) (hi : i < s.size) (hp : (path && partB (bt s i)) = false) (ha : atName s i) :
    Calls Tryz.prog 19 #[.string s, .int .i64 i, .bool path, .bool after, .pointer (some ⟨b, 0, none⟩)] w (TokPost b x (tokOf s i path after) w) := by
  have ho : Hid (tokOf s i path after = some ⟨kParam, some (s.extract (i + 1) (partsEnd s (i + 1))), none, partsEnd s (i + 1)⟩) := by show _ = _; rw [tokOf, if_neg (by omega), if_neg (fun h => by simp [h.1, h.2] at hp), if_neg (by rw [ha.1]; decide), if_neg (by unfold dotNum; rw [ha.1]; intro h; rcases h with h | h; revert h; decide; exact absurd h.1 (by decide)), if_pos ha]
  obtain ⟨O, hO⟩ : ∃ O, tokOf s i path after = O := ⟨_, rfl⟩
  rw [hO] at ho
  rw [hO]
  clear hO
  have hf0 := ht.free 0
  have hc0 := ht.cell0
  have hf3 := ht.free 3
  have hc3 := ht.cell3
  have hib : ((i : Int) == (s.size : Int)) = false := by simp; omega
  have hb := get_bt s
  obtain ⟨c, hc⟩ : ∃ c, bt s i = c := ⟨_, rfl⟩
  have hb0 : ((s[i]'hi).toNat : Int) = c := by rw [hb i hi]; exact hc
  have hc0' : 0 ≤ c := by rw [← hc]; exact bt_nonneg s i
  have hc1' : c ≤ 255 := by rw [← hc]; exact bt_le s i
  have hlt := ha.2.1
  have hlet := ha.2.2
  have hc64 : c = 64 := by rw [← hc]; exact ha.1
  subst hc64
  obtain ⟨d, hd'⟩ : ∃ d, bt s (i + 1) = d := ⟨_, rfl⟩
  have hb1 : ((s[i + 1]'hlt).toNat : Int) = d := by rw [hb _ hlt]; exact hd'
  have hd64 : digitB 64 = false := by decide
  rw [hc] at hp
  rw [hd'] at hlet
  clear hb hc ha hd'
  have hp1 := partsEnd_ge s (i + 1)
  have hp2 := partsEnd_le s (i + 1) (by omega)
  have hpe := lParts_c s (i + 1) w (by omega) (by omega)
  obtain ⟨e0, he0⟩ : ∃ e0, partsEnd s (i + 1) = e0 := ⟨_, rfl⟩
  rw [he0] at hp1 hp2 ho hpe
  rw [Int.natCast_add] at hpe
  clear he0
  have Hpe := Lib.hid hpe
  clear hpe
  cases path
  all_goals
    simp only [Bool.true_and, Bool.false_and] at hp
    go_enter Tryz.func19, Tryz.ntmps19
    go_wp2_with (first | (go_at_call 25; refine (IdentPart_c _ _).mono ?_; rintro e w' ⟨rfl, rfl⟩) | (go_at_call 28; refine (Digit_c _ _).mono ?_; rintro e w' ⟨rfl, rfl⟩) | (go_at_call 30; refine (Letter_c _ _).mono ?_; rintro e w' ⟨rfl, rfl⟩) | (go_at_call 26; refine Hpe.out.mono ?_; rintro e w' ⟨rfl, rfl⟩))
    go_region
    go_wp2_with fail
    go_ret2
    exact tokPost_some ho.out ((ht.setKind _).setText _) (((Only.refl b w).setCell 0 _).setCell 3 _).drew


end Go.Proofs.YtmkkeacbabmaeaaGreatDoor
