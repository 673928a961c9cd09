/- The reference's decimal numbers are the plain ones; with the hexadecimal ones: all numbers. Condition: the text is shorter than 2^61 bytes. -/
import Derived.Test.YtkhjenlclpcehaaDoorWe
namespace Go.Proofs.YtkhjenlclpcehaaDoor
open Go.RowKit Go.PlainAid

set_option maxHeartbeats 3200000 in
set_option maxRecDepth 100000 in
theorem lNumber_dec (s : ByteArray) (i b : Nat) (x : TokS) (w : World) (hs : s.size ≤ 2305843009213693952) (hi : i ≤ s.size) (ht : TokAt w b x) (hx : ¬ isHexAt s i) :
    Calls Tryd.prog 27 #[.string s, .int .i64 i, .pointer (some ⟨b, 0, none⟩)] w (NumPost s i b x w) := by
  have hb := get_bt s
  have hbn := bt_nonneg s
  have hbl := bt_le s
  have h1 : startsB s i ⟨#[48, 120]⟩ = false := by simpa using fun h => hx (Or.inl h)
  have h2 : startsB s i ⟨#[48, 88]⟩ = false := by simpa using fun h => hx (Or.inr h)
  have hf0 := ht.free 0
  have hf4 := ht.free 4
  have hc0 := ht.cell0
  have hc4 := ht.cell4
  have hx' := Lib.hid hx
  clear hx
  go_enter Tryd.func27, Tryd.ntmps27
  go_upto_block 2 with (go_at_call 23; refine (lStarts_c _ _ _ _ (by omega) (by decide) (by omega)).mono ?_; rintro e w' ⟨rfl, rfl⟩)
  go_cut [8] (fun v8 wc => v8 = .int .i64 (digitsEnd s i) ∧ TokAt wc b { x with kind := kInt, base := 10 } ∧ Only b w wc)
  case first => as_aux_lemma =>
    go_wp2_with fail
    go_loop [8] (fun v => ∃ k : Nat, k ≤ s.size ∧ v = .int .i64 k ∧ Hid (digitsEnd s k = digitsEnd s i)) (fun v => s.size - (intOf v).toNat)
    case atStart => exact ⟨i, hi, rfl, rfl⟩
    case round => as_aux_lemma =>
      obtain ⟨k, hk, rfl, hr⟩ := hrel
      by_cases hlt : k < s.size
      · cases hv : digitB (bt s k)
        · have hst := Lib.hid (digitsEnd_stop (s := s) (i := k) (fun h => by rw [hv] at h; cases h.2))
          go_wp2_with (go_at_call 26; refine (Digit_c _ _).mono ?_; rintro e w' ⟨rfl, rfl⟩)
          go_meet
          case rel => exact ⟨by rw [← hr.out, hst.out], (ht.setKind kInt).setBase 10, ((Only.refl b w).setCell 0 _).setCell 4 _⟩
        · go_wp2_with (go_at_call 26; refine (Digit_c _ _).mono ?_; rintro e w' ⟨rfl, rfl⟩)
          go_round
          case rel => exact ⟨k + 1, by omega, by go_num, by show digitsEnd s (k + 1) = _; rw [← hr.out, digitsEnd_go hlt hv]⟩
          case measure => simp [intOf]; omega
      · have hst := Lib.hid (digitsEnd_stop (s := s) (i := k) (fun h => hlt h.1))
        go_wp2
        go_meet
        case rel => exact ⟨by rw [← hr.out, hst.out], (ht.setKind kInt).setBase 10, ((Only.refl b w).setCell 0 _).setCell 4 _⟩
  case rest => as_aux_lemma =>
    obtain ⟨rfl, ht2, ho2⟩ := hcut
    clear hf0 hf4 hc0 hc4 h1 h2
    have hge := digitsEnd_ge s i
    have hle := digitsEnd_le s i hi
    obtain ⟨e0, he0⟩ : ∃ e0, digitsEnd s i = e0 := ⟨_, rfl⟩
    rw [he0] at hge hle
    rw [he0]
    have He0 := Lib.hid he0
    clear he0
    go_upto_region 11 with fail
    go_cut [79] (fun v wc2 => v = .bool (dotAt s e0) ∧ wc2 = wc)
    case first => as_aux_lemma =>
      by_cases hlt : e0 < s.size
      · obtain ⟨c, hc⟩ : ∃ c, bt s e0 = c := ⟨_, rfl⟩
        have hq : Hid (dotAt s e0 = (c == 46)) := by show _ = _; simp [dotAt, hlt, hc]; rfl
        have hb2 : ((s[e0]'hlt).toNat : Int) = c := by rw [hb e0 hlt]; exact hc
        clear hb hc
        go_wp2
        go_meet
        case rel => exact ⟨by rw [hq.out], rfl⟩
      · have hq : Hid (dotAt s e0 = false) := by show _ = _; simp [dotAt, hlt]
        go_wp2
        go_meet
        case rel => exact ⟨by rw [hq.out], rfl⟩
    case rest => as_aux_lemma =>
      obtain ⟨rfl, rfl⟩ := hcut
      go_upto_if 79 with fail
      go_cut [8] (fun v8 wc2 => ∃ (e : Nat) (fl : Bool) (base : Int), e ≤ s.size ∧ v8 = .int .i64 e ∧ TokAt wc2 b { x with kind := numKind fl, base := base } ∧ Only b w wc2 ∧ Hid (numOf s i = expPart s e fl base))
      case first => as_aux_lemma =>
        have hf0 := ht2.free 0
        have hf4 := ht2.free 4
        have hc0 := ht2.cell0
        have hc4 := ht2.cell4
        cases hd : dotAt s e0
        · go_wp2
          go_meet
          case rel => exact ⟨e0, false, 10, hle, rfl, ht2, ho2, by show _ = _; rw [← He0.out]; exact numOf_plain hx'.out (by rw [He0.out]; exact dotAt_no hd)⟩
        · have hdy := dotAt_yes hd
          have hlt := hdy.1
          clear hdy
          go_wp2
          go_loop [8] (fun v => ∃ k : Nat, k ≤ s.size ∧ v = .int .i64 k ∧ Hid (digitsEnd s k = digitsEnd s (e0 + 1))) (fun v => s.size - (intOf v).toNat)
          case atStart => exact ⟨e0 + 1, by omega, by go_num, rfl⟩
          case round => as_aux_lemma =>
            obtain ⟨k, hk, rfl, hr⟩ := hrel
            by_cases hlt2 : k < s.size
            · cases hv : digitB (bt s k)
              · have hst := Lib.hid (digitsEnd_stop (s := s) (i := k) (fun h => by rw [hv] at h; cases h.2))
                go_wp2_with (go_at_call 26; refine (Digit_c _ _).mono ?_; rintro e w' ⟨rfl, rfl⟩)
                go_meet
                case rel => exact ⟨k, true, 0, hk, rfl, (ht2.setKind kFloat).setBase 0, (ho2.setCell 0 _).setCell 4 _, by show _ = _; rw [← hst.out, hr.out, ← He0.out]; exact numOf_dot hx'.out (by rw [He0.out]; exact dotAt_yes hd)⟩
              · go_wp2_with (go_at_call 26; refine (Digit_c _ _).mono ?_; rintro e w' ⟨rfl, rfl⟩)
                go_round
                case rel => exact ⟨k + 1, by omega, by go_num, by show digitsEnd s (k + 1) = _; rw [← hr.out, digitsEnd_go hlt2 hv]⟩
                case measure => simp [intOf]; omega
            · have hst := Lib.hid (digitsEnd_stop (s := s) (i := k) (fun h => hlt2 h.1))
              go_wp2
              go_meet
              case rel => exact ⟨k, true, 0, hk, rfl, (ht2.setKind kFloat).setBase 0, (ho2.setCell 0 _).setCell 4 _, by show _ = _; rw [← hst.out, hr.out, ← He0.out]; exact numOf_dot hx'.out (by rw [He0.out]; exact dotAt_yes hd)⟩
      case rest => as_aux_lemma =>
        obtain ⟨e, fl, base, hle1, rfl, ht3, ho3, hnum⟩ := hcut
        clear He0 hge hle ht2 ho2
        go_upto_region 16 with fail
        go_cut [115] (fun v wc2 => v = .bool (eAt s e) ∧ wc2 = wc)
        case first => as_aux_lemma =>
          by_cases hlt : e < s.size
          · obtain ⟨c, hc⟩ : ∃ c, bt s e = c := ⟨_, rfl⟩
            have hb2 : ((s[e]'hlt).toNat : Int) = c := by rw [hb e hlt]; exact hc
            by_cases h1 : c = 101
            · have hq : Hid (eAt s e = true) := by show _ = _; simp [eAt, hlt, hc, isE, h1]
              have h1b : (c == 101) = true := by simp [h1]
              clear hb hc h1
              go_wp2
              go_meet
              case rel => exact ⟨by rw [hq.out], rfl⟩
            · have hq : Hid (eAt s e = (c == 69)) := by show _ = _; simp [eAt, hlt, hc, isE, h1]; rfl
              have h1b : (c == 101) = false := by simp [h1]
              clear hb hc h1
              go_wp2
              go_meet
              case rel => exact ⟨by rw [hq.out], rfl⟩
          · have hq : Hid (eAt s e = false) := by show _ = _; simp [eAt, hlt]
            go_wp2
            go_meet
            case rel => exact ⟨by rw [hq.out], rfl⟩
        case rest => as_aux_lemma =>
          obtain ⟨rfl, rfl⟩ := hcut
          go_upto_if 115 with fail
          go_cut [8] (fun v8 wc2 => ∃ (e2 : Nat) (fl2 : Bool) (base2 : Int), e2 ≤ s.size ∧ v8 = .int .i64 e2 ∧ TokAt wc2 b { x with kind := numKind fl2, base := base2 } ∧ Only b w wc2 ∧ Hid (numOf s i = ⟨e2, loose s e2, fl2, base2⟩))
          case first => as_aux_lemma =>
            cases he : eAt s e
            · go_wp2
              go_meet
              case rel => exact ⟨e, fl, base, hle1, rfl, ht3, ho3, by show _ = _; rw [hnum.out]; exact expPart_none (eAt_no he)⟩
            · have hey := Lib.hid (eAt_yes he)
              have hlt := (eAt_yes he).1
              go_upto_region 18 with fail
              go_cut [133] (fun v wc2 => v = .bool (pmAt s (e + 1)) ∧ wc2 = wc)
              case first => as_aux_lemma =>
                by_cases hlt : e + 1 < s.size
                · obtain ⟨c, hc⟩ : ∃ c, bt s (e + 1) = c := ⟨_, rfl⟩
                  have hb2 : ((s[e + 1]'hlt).toNat : Int) = c := by rw [hb (e + 1) hlt]; exact hc
                  by_cases h1 : c = 43
                  · have hq : Hid (pmAt s (e + 1) = true) := by show _ = _; simp [pmAt, hlt, hc, isPM, h1]
                    have h1b : (c == 43) = true := by simp [h1]
                    clear hb hc h1
                    go_wp2
                    go_meet
                    case rel => exact ⟨by rw [hq.out], rfl⟩
                  · have hq : Hid (pmAt s (e + 1) = (c == 45)) := by show _ = _; simp [pmAt, hlt, hc, isPM, h1]; rfl
                    have h1b : (c == 43) = false := by simp [h1]
                    clear hb hc h1
                    go_wp2
                    go_meet
                    case rel => exact ⟨by rw [hq.out], rfl⟩
                · have hq : Hid (pmAt s (e + 1) = false) := by show _ = _; simp [pmAt, hlt]
                  go_wp2
                  go_meet
                  case rel => exact ⟨by rw [hq.out], rfl⟩
              case rest => as_aux_lemma =>
                obtain ⟨rfl, rfl⟩ := hcut
                go_upto_if 133 with fail
                go_cut [9] (fun v9 wc2 => ∃ k : Nat, v9 = .int .i64 k ∧ wc2 = wc ∧ k ≤ s.size ∧ Hid (expAt s e = k))
                case first => as_aux_lemma =>
                  cases hp : pmAt s (e + 1)
                  · have hk := expAt_no hp
                    have Hk := Lib.hid hk
                    clear hk
                    go_wp2
                    go_meet
                    case rel => exact ⟨e + 1, by go_num, rfl, by omega, Hk⟩
                  · have hk := expAt_pm hp
                    have Hk := Lib.hid hk
                    have hlt2 := pmAt_lt hp
                    clear hk
                    go_wp2
                    go_meet
                    case rel => exact ⟨e + 2, by go_num, rfl, by omega, Hk⟩
                case rest => as_aux_lemma =>
                  obtain ⟨k, rfl, rfl, hks, Hk⟩ := hcut
                  go_upto_region 20 with fail
                  go_cut [146] (fun v wc2 => v = .bool (!digAt s k) ∧ wc2 = wc)
                  case first => as_aux_lemma =>
                    by_cases hlt : k < s.size
                    · have hne : ((k : Int) == (s.size : Int)) = false := by simp; omega
                      have hq : Hid (digAt s k = digitB (bt s k)) := by show _ = _; cases hd : digitB (bt s k) <;> simp [digAt, hlt, hd]
                      go_wp2_with (go_at_call 26; refine (Digit_c _ _).mono ?_; rintro e w' ⟨rfl, rfl⟩)
                      go_meet
                      case rel => exact ⟨by rw [hq.out], rfl⟩
                    · have hne : ((k : Int) == (s.size : Int)) = true := by simp; omega
                      have hq : Hid (digAt s k = false) := by show _ = _; simp [digAt, hlt]
                      go_wp2
                      go_meet
                      case rel => exact ⟨by rw [hq.out]; rfl, rfl⟩
                  case rest => as_aux_lemma =>
                    obtain ⟨rfl, rfl⟩ := hcut
                    have hf0 := ht3.free 0
                    have hf4 := ht3.free 4
                    have hc0 := ht3.cell0
                    have hc4 := ht3.cell4
                    cases hd : digAt s k
                    · have hbad : Hid (numOf s i = ⟨e, false, fl, base⟩) := by show _ = _; rw [hnum.out]; exact expPart_bad hey.out (by rw [Hk.out]; exact digAt_no hd)
                      go_wp2_with fail
                      go_ret2
                      refine ⟨?_, ?_, ?_⟩
                      · exact ret_ib (by rw [hbad.out]) (by rw [hbad.out])
                      · rw [hbad.out]; exact ht3
                      · exact ho3
                    · have hgood : Hid (numOf s i = ⟨digitsEnd s k, loose s (digitsEnd s k), true, 0⟩) := by show _ = _; rw [hnum.out, ← Hk.out]; exact expPart_good hey.out (by rw [Hk.out]; exact digAt_yes hd)
                      go_wp2_with fail
                      go_loop [9] (fun v => ∃ q : Nat, q ≤ s.size ∧ v = .int .i64 q ∧ Hid (digitsEnd s q = digitsEnd s k)) (fun v => s.size - (intOf v).toNat)
                      case atStart => exact ⟨k, hks, rfl, rfl⟩
                      case round => as_aux_lemma =>
                        obtain ⟨q, hq, rfl, hr⟩ := hrel
                        by_cases hlt2 : q < s.size
                        · cases hv : digitB (bt s q)
                          · have hst := Lib.hid (digitsEnd_stop (s := s) (i := q) (fun h => by rw [hv] at h; cases h.2))
                            go_wp2_with (go_at_call 26; refine (Digit_c _ _).mono ?_; rintro e w' ⟨rfl, rfl⟩)
                            go_meet
                            case rel => exact ⟨q, true, 0, hq, rfl, (ht3.setKind kFloat).setBase 0, (ho3.setCell 0 _).setCell 4 _, by show _ = _; rw [hgood.out, ← hr.out, hst.out]⟩
                          · go_wp2_with (go_at_call 26; refine (Digit_c _ _).mono ?_; rintro e w' ⟨rfl, rfl⟩)
                            go_round
                            case rel => exact ⟨q + 1, by omega, by go_num, by show digitsEnd s (q + 1) = _; rw [← hr.out, digitsEnd_go hlt2 hv]⟩
                            case measure => simp [intOf]; omega
                        · have hst := Lib.hid (digitsEnd_stop (s := s) (i := q) (fun h => hlt2 h.1))
                          go_wp2
                          go_meet
                          case rel => exact ⟨q, true, 0, hq, rfl, (ht3.setKind kFloat).setBase 0, (ho3.setCell 0 _).setCell 4 _, by show _ = _; rw [hgood.out, ← hr.out, hst.out]⟩
          case rest => as_aux_lemma =>
            obtain ⟨e2, fl2, base2, hle2, rfl, ht4, ho4, hres⟩ := hcut
            by_cases hlt : e2 < s.size
            · go_wp2_with (go_at_call 24; refine (IdentPart_c _ _).mono ?_; rintro e w' ⟨rfl, rfl⟩)
              go_ret2
              refine ⟨?_, ?_, ?_⟩
              · exact ret_ib (by rw [hres.out]) (by rw [hres.out]; show _ = loose s e2; rw [loose_in hlt])
              · rw [hres.out]; exact ht4
              · exact ho4
            · go_wp2
              go_ret2
              refine ⟨?_, ?_, ?_⟩
              · exact ret_ib (by rw [hres.out]) (by rw [hres.out]; show _ = loose s e2; rw [loose_end hlt])
              · rw [hres.out]; exact ht4
              · exact ho4

theorem lNumber_c (s : ByteArray) (i b : Nat) (x : TokS) (w : World) (hs : s.size ≤ 2305843009213693952) (hi : i ≤ s.size) (ht : TokAt w b x) :
    Calls Tryd.prog 27 #[.string s, .int .i64 i, .pointer (some ⟨b, 0, none⟩)] w (NumPost s i b x w) := by
  by_cases hx : isHexAt s i
  · exact lNumber_hex s i b x w hs ht hx
  · exact lNumber_dec s i b x w hs hi ht hx
end Go.Proofs.YtkhjenlclpcehaaDoor
