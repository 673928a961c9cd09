/- The parser's numbers are the reference's. Condition: the text is at most 4096 bytes long; the table of powers holds what it was laid with. · The tokens of a text, plain. No condition. · The parser skips comments, and looks at a literal's quotation mark. Condition: the text is at most 4096 bytes long, of the bytes that the reference speaks of, and has no comment's begin and end in one; the table of powers holds what it was laid with. · The parser looks at a literal's quotation mark. Condition: the text is at most 4096 bytes long, a quotation mark stands ahead. · The reference's test for reserved words answers as the plain word 'kwB' says. Condition: the text is shorter than 2^61 bytes. · The reference's capitals of a text are the plain ones. Condition: the text is shorter than 2^61 bytes. · The reference's look for what stands ahead of a quotation mark answers as the plain word 'prefOf' says. Condition: the text is shorter than 2^61 bytes. · The reference's numbers are the plain ones. Condition: the text is shorter than 2^61 bytes. -/
import Derived.Test.YtmkkeacbabmaeaaGreatDoorM02
import Derived.Deep.LoopGhost
import Derived.Test.YtmkkeacbabmaeaaGreatDoorM01
import Derived.Deep.DeepCutAuto
import Derived.Deep.CutBlock
namespace Go.Proofs.YtmkkeacbabmaeaaGreatDoor
open Go.RowKit Go.PlainAid

/-- What a step of the lexer leaves: its token's kind, text, base as they should be, and its place; or a fault. -/
def Step (b f : Nat) (x : LxS) (B : Nat) (o : Option LxS) (w : World) (e : Ending) (w' : World) : Prop :=
  match o with
  | some y => e = .returned (.tuple #[]) ∧ LxAt w' b f y ∧ Only b w w'
  | none => Thrown B w e w'
def numStep (x : LxS) (r : NumR) : Option LxS := if r.ok = true then some { x with kind := numKind r.float, base := if r.float = true then x.base else r.base, pos := r.stop } else none

theorem below_dn (B : Nat) (w : World) (n : Nat) : RowKit.Below B w (w.drewN n) := ⟨rfl, rfl, rfl, Nat.le_refl _, fun _ _ => rfl⟩

set_option maxHeartbeats 4000000 in
set_option maxRecDepth 100000 in
theorem consumeNumber_c (s : ByteArray) (b f i B : Nat) (x : LxS) (w : World) (hs : s.size ≤ 4096) (hi : i < s.size) (hx : LxAt w b f x) (hp : x.pos = i) (hf : FileAt w f s (.slice none 0 0)) (hBf : B ≤ f) (hBb : B ≤ b) (hB : B ≤ w.heap.size)
    (htab : Lib.TabBelow Tryz.prog B w "internal/strconv.uint64pow10" .u64 Lib.pow10Tab) :
    Calls Tryz.prog 58 #[.pointer (some ⟨b, 0, none⟩), .bool false] w (Step b f x B (numStep x (numOf s i)) w) := by
  have hX : ∀ n, LxAt (w.drewN n) b f x := fun n => hx
  have hF : ∀ n, FileAt (w.drewN n) f s (.slice none 0 0) := fun n => hf
  have hIs := Lib.hid (fun n (k : Nat) (ch : Int) (h : k ≤ 35184372088832) => peekIs_c (w := w.drewN n) k ch (by omega) h (by omega) (hX n) (hF n) hp)
  have hOk := Lib.hid (fun n (k : Nat) (h : k ≤ 35184372088832) => peekOk_c (w := w.drewN n) k (by omega) h (by omega) (hX n) (hF n) hp)
  have hPk := Lib.hid (fun n (k : Nat) (h : i + k < s.size) => peek_c (w := w.drewN n) k (by omega) (hX n) (hF n) hp h)
  have hD := Lib.hid (fun c W => IsDigit_c c W)
  have hH := Lib.hid (fun c W => IsHex_c c W)
  have hPt := Lib.hid (fun c W => IdPart_c c W)
  have HX := Lib.hid hx
  have HF := Lib.hid hf
  have HP := Lib.hid hp
  have HT := Lib.hid htab
  clear hX hF hx hf hp htab
  go_enter Tryz.func58, Tryz.ntmps58
  go_upto_region 2 with fail
  obtain ⟨hb, hhb⟩ : ∃ hb, decide (isHexAt s i) = hb := ⟨_, rfl⟩
  have Hhb := Lib.hid hhb
  clear hhb
  go_cut [24] (fun v24 wc => ∃ n, wc = w.drewN n ∧ v24 = .bool hb)
  case first =>
    have hiff := hexAt_iff s i
    have h0 := hIs.out 0 0 48 (by decide)
    have h1 := fun n => hIs.out n 1 120 (by decide)
    have h2 := fun n => hIs.out n 1 88 (by decide)
    rw [Nat.add_zero] at h0
    have hb0 : hb = (decide (i < s.size ∧ bt s i = 48) && (decide (i + 1 < s.size ∧ bt s (i + 1) = 120) || decide (i + 1 < s.size ∧ bt s (i + 1) = 88))) := by
      rw [← Hhb.out]; apply bool_ext; simp only [decide_eq_true_eq, Bool.and_eq_true, Bool.or_eq_true]; exact hiff
    obtain ⟨d0, hd0⟩ : ∃ d, decide (i < s.size ∧ bt s i = 48) = d := ⟨_, rfl⟩
    obtain ⟨d1, hd1⟩ : ∃ d, decide (i + 1 < s.size ∧ bt s (i + 1) = 120) = d := ⟨_, rfl⟩
    obtain ⟨d2, hd2⟩ : ∃ d, decide (i + 1 < s.size ∧ bt s (i + 1) = 88) = d := ⟨_, rfl⟩
    rw [hd0] at h0 hb0
    rw [hd1, hd2] at hb0
    simp only [hd1] at h1
    simp only [hd2] at h2
    have H0 := Lib.hid h0
    have H1 := Lib.hid h1
    have H2 := Lib.hid h2
    clear h0 h1 h2 hd0 hd1 hd2 hiff
    subst hb0
    cases d0 with
    | false =>
      go_wp2_with fail
      refine H0.out.mono ?_
      rintro e w' ⟨rfl, n, rfl⟩
      go_wp2_with fail
      go_meet
      case rel => exact ⟨_, rfl, rfl⟩
    | true =>
      go_wp2_with fail
      refine H0.out.mono ?_
      rintro e w' ⟨rfl, n, rfl⟩
      cases d1 with
      | true =>
        go_wp2_with fail
        refine (H1.out n).mono ?_
        rintro e w' ⟨rfl, n2, rfl⟩
        go_wp2_with fail
        go_meet
        case rel => exact ⟨_, rfl, rfl⟩
      | false =>
        go_wp2_with fail
        refine (H1.out n).mono ?_
        rintro e w' ⟨rfl, n2, rfl⟩
        go_wp2_with fail
        refine (H2.out (n + n2)).mono ?_
        rintro e w' ⟨rfl, n3, rfl⟩
        go_wp2_with fail
        go_meet
        case rel => exact ⟨_, rfl, by simp⟩
  case rest =>
    obtain ⟨n0, rfl, rfl⟩ := hcut
    go_upto_if 24 with fail
    go_cut [4, 5] (fun v4 v5 wc2 => wc2 = w.drewN n0 ∧ v4 = .int .i64 (if hb = true then 2 else 0) ∧ v5 = .int .i64 (if hb = true then 16 else 10))
    case first =>
      cases hb
      all_goals
        go_wp2_with fail
        go_meet
        case rel => exact ⟨rfl, rfl, rfl⟩
    case rest =>
      obtain ⟨rfl, rfl, rfl⟩ := hcut
      go_upto_block 0 with fail
      go_cut [4, 6] (fun v4 v6 wc3 => ∃ (n j : Nat) (int : Bool), wc3 = w.drewN n ∧ v4 = .int .i64 j ∧ v6 = .bool int ∧ i + j ≤ s.size ∧ Hid (numOf s i = ⟨i + j, loose s (i + j), !int, if int = true then (if hb = true then 16 else 10) else 0⟩))
      case first =>
        cases hb with
        | true =>
          have hx2 : isHexAt s i := of_decide_eq_true Hhb.out
          have hx3 := ((hexAt_iff s i).1 hx2)
          have hi2 : i + 2 ≤ s.size := by rcases hx3.2 with h | h <;> omega
          have Hnum := Lib.hid (numOf_hex hx2)
          clear hx2 hx3
          go_wp2_with fail
          go_loopw [4, 6, 7] (fun v4 v6 v7 wr => ∃ n j : Nat, wr = w.drewN n ∧ v4 = .int .i64 j ∧ v6 = .bool true ∧ v7 = .bool false ∧ i + j ≤ s.size ∧ Hid (hexEnd s (i + 2) = hexEnd s (i + j))) (fun v4 _ _ _ => s.size - i - (intOf v4).toNat)
          case atStart => exact ⟨n0, 2, rfl, rfl, rfl, rfl, hi2, rfl⟩
          case round =>
            obtain ⟨n, j, rfl, rfl, rfl, rfl, hj, Hend⟩ := hrel
            have hok := fun m => hOk.out m j (by omega)
            by_cases hlt : i + j < s.size
            · rw [decide_eq_true hlt] at hok
              have hpk := fun m => hPk.out m j hlt
              obtain ⟨c, hc⟩ : ∃ c, bt s (i + j) = c := ⟨_, rfl⟩
              rw [hc] at hpk
              have Hok := Lib.hid hok
              have Hpk := Lib.hid hpk
              clear hok hpk
              cases hhx : hexB c with
              | true =>
                have hh0 : 0 ≤ hexV (bt s (i + j)) := by rw [hc]; exact of_decide_eq_true hhx
                have hgo := hexEnd_go hlt hh0
                have Hend2 : Hid (hexEnd s (i + 2) = hexEnd s (i + (j + 1))) := by show _ = _; rw [Hend.out, hgo]; rfl
                clear hgo hh0 hc
                go_wp2_with (first
                  | (go_at_call 52; refine (Hok.out _).mono ?_; rintro e w' ⟨rfl, n', rfl⟩)
                  | (go_at_call 54; refine (Hpk.out _).mono ?_; rintro e w' ⟨rfl, n', rfl⟩)
                  | (go_at_call 75; refine (hH.out _ _).mono ?_; rintro e w' ⟨rfl, rfl⟩; rw [hhx]))
                exact ⟨⟨_, j + 1, rfl, by go_num, rfl, rfl, by omega, Hend2⟩, by simp [intOf]; omega⟩
              | false =>
                have hstop : hexEnd s (i + j) = i + j := hexEnd_stop (fun h => by rw [hc] at h; have := decide_eq_true h.2; unfold hexB at hhx; rw [hhx] at this; cases this)
                have Hfin : Hid (numOf s i = ⟨i + j, loose s (i + j), !true, 16⟩) := by show _ = _; rw [Hnum.out, Hend.out, hstop]; rfl
                clear hstop hc
                go_wp2_with (first
                  | (go_at_call 52; refine (Hok.out _).mono ?_; rintro e w' ⟨rfl, n', rfl⟩)
                  | (go_at_call 54; refine (Hpk.out _).mono ?_; rintro e w' ⟨rfl, n', rfl⟩)
                  | (go_at_call 75; refine (hH.out _ _).mono ?_; rintro e w' ⟨rfl, rfl⟩; rw [hhx]))
                go_meet
                case rel => exact ⟨_, j, true, rfl, rfl, rfl, hj, Hfin⟩
            · rw [decide_eq_false hlt] at hok
              have Hok := Lib.hid hok
              have hstop : hexEnd s (i + j) = i + j := hexEnd_stop (fun h => hlt h.1)
              have Hfin : Hid (numOf s i = ⟨i + j, loose s (i + j), !true, 16⟩) := by show _ = _; rw [Hnum.out, Hend.out, hstop]; rfl
              clear hok hstop
              go_wp2_with (go_at_call 52; refine (Hok.out _).mono ?_; rintro e w' ⟨rfl, n', rfl⟩)
              go_meet
              case rel => exact ⟨_, j, true, rfl, rfl, rfl, hj, Hfin⟩
        | false =>
          have hx2 : ¬ isHexAt s i := of_decide_eq_false Hhb.out
          have Hnum := Lib.hid (num_dec s i (s.size + 1) (by omega) hx2)
          obtain ⟨R, hR⟩ : ∃ R, nFrom s false (s.size + 1) i true false = R := ⟨_, rfl⟩
          rw [hR] at Hnum
          have HR := Lib.hid hR
          clear hx2 hR
          have hfin : Hid (∀ (j : Nat) (int : Bool), R = (i + j, int) → numOf s i = ⟨i + j, loose s (i + j), !int, if int = true then (if false = true then 16 else 10) else 0⟩) := by
            intro j int h
            rw [Hnum.out, h]
            cases int <;> rfl
          clear Hnum
          go_wp2_with fail
          go_loopw [4, 6, 7] (fun v4 v6 v7 wr => ∃ (n j g : Nat) (int exp : Bool), wr = w.drewN n ∧ v4 = .int .i64 j ∧ v6 = .bool int ∧ v7 = .bool exp ∧ i + j ≤ s.size ∧ s.size - (i + j) < g ∧ Hid (nFrom s false g (i + j) int exp = R)) (fun v4 _ _ _ => s.size - i - (intOf v4).toNat)
          case atStart => exact ⟨n0, 0, s.size + 1, true, false, rfl, rfl, rfl, rfl, by omega, by omega, HR⟩
          case round =>
            obtain ⟨n, j, g0, int, exp, rfl, rfl, rfl, rfl, hj, hg0, HRj⟩ := hrel
            obtain ⟨g, rfl⟩ : ∃ g, g0 = g + 1 := ⟨g0 - 1, by omega⟩
            have hok := fun m => hOk.out m j (by omega)
            by_cases hlt : i + j < s.size
            · rw [decide_eq_true hlt] at hok
              have hpk := fun m => hPk.out m j hlt
              obtain ⟨c, hc⟩ : ∃ c, bt s (i + j) = c := ⟨_, rfl⟩
              rw [hc] at hpk
              have Hok := Lib.hid hok
              have Hpk := Lib.hid hpk
              clear hok hpk
              cases hdg : digitB c with
              | true =>
                have hd1 : digitB (bt s (i + j)) = true := by rw [hc]; exact hdg
                have HR2 : Hid (nFrom s false g (i + (j + 1)) int exp = R) := by show _ = _; rw [← HRj.out]; exact (nFrom_digit hlt (Or.inl ⟨rfl, hd1⟩)).symm
                clear hc hd1
                go_wp2_with (first
                  | (go_at_call 52; refine (Hok.out _).mono ?_; rintro e w' ⟨rfl, n', rfl⟩)
                  | (go_at_call 54; refine (Hpk.out _).mono ?_; rintro e w' ⟨rfl, n', rfl⟩)
                  | (go_at_call 57; refine (hD.out _ _).mono ?_; rintro e w' ⟨rfl, rfl⟩; rw [hdg]))
                exact ⟨⟨_, j + 1, g, int, exp, rfl, by go_num, rfl, rfl, by omega, by omega, HR2⟩, by simp [intOf]; omega⟩
              | false =>
                have hd1 : ¬ digitB (bt s (i + j)) = true := by rw [hc, hdg]; simp
                by_cases hdot : exp = false ∧ int = true ∧ c = 46
                · obtain ⟨rfl, rfl, rfl⟩ := hdot
                  have HR2 : Hid (nFrom s false g (i + (j + 1)) false false = R) := by show _ = _; rw [← HRj.out]; exact (nFrom_dot hlt hd1 hc).symm
                  clear hc hd1
                  go_wp2_with (first
                  | (go_at_call 52; refine (Hok.out _).mono ?_; rintro e w' ⟨rfl, n', rfl⟩)
                  | (go_at_call 54; refine (Hpk.out _).mono ?_; rintro e w' ⟨rfl, n', rfl⟩)
                  | (go_at_call 57; refine (hD.out _ _).mono ?_; rintro e w' ⟨rfl, rfl⟩; rw [hdg]))
                  exact ⟨⟨_, j + 1, g, false, false, rfl, by go_num, rfl, rfl, by omega, by omega, HR2⟩, by simp [intOf]; omega⟩
                · by_cases hex : exp = false ∧ isE c
                  · obtain ⟨rfl, hE⟩ := hex
                    have hE2 : isE (bt s (i + j)) := by rw [hc]; exact hE
                    have hb3 : (c == 46) = false := by simp; intro h; rcases hE with h2 | h2 <;> omega
                    obtain ⟨jj, hjj⟩ : ∃ jj, expAt s (i + j) = i + jj := ⟨expAt s (i + j) - i, by have := expAt_gt s (i + j); omega⟩
                    obtain ⟨pm, hpm⟩ : ∃ pm, pmAt s (i + j + 1) = pm := ⟨_, rfl⟩
                    have hjj2 : jj = if pm = true then j + 2 else j + 1 := by
                      cases pm with
                      | true => have := expAt_pm hpm; simp; omega
                      | false => have := expAt_no hpm; simp; omega
                    have hjs : i + jj ≤ s.size := by
                      cases pm with
                      | true => have := pmAt_lt hpm; simp at hjj2; omega
                      | false => simp at hjj2; omega
                    have Hgood : Hid (expAt s (i + j) < s.size ∧ digitB (bt s (expAt s (i + j))) = true → nFrom s false g (i + jj) false true = R) := by
                      intro h; rw [← HRj.out, ← hjj]; exact (nFrom_exp hlt hd1 hE2 h).symm
                    have Hbad : Hid (¬ (expAt s (i + j) < s.size ∧ digitB (bt s (expAt s (i + j))) = true) → R = (i + j, int)) := by
                      intro h; rw [← HRj.out]; exact nFrom_noexp hlt hd1 hE2 h
                    have Hjj := Lib.hid hjj
                    have hs1 := fun m => hIs.out m (j + 1) 43 (by omega)
                    have hs2 := fun m => hIs.out m (j + 1) 45 (by omega)
                    obtain ⟨d1, hd1e⟩ : ∃ d, decide (i + (j + 1) < s.size ∧ bt s (i + (j + 1)) = 43) = d := ⟨_, rfl⟩
                    obtain ⟨d2, hd2e⟩ : ∃ d, decide (i + (j + 1) < s.size ∧ bt s (i + (j + 1)) = 45) = d := ⟨_, rfl⟩
                    have hpd : pm = (d1 || d2) := by
                      rw [← hpm, ← hd1e, ← hd2e]
                      apply bool_ext
                      unfold pmAt isPM
                      simp only [decide_eq_true_eq, Bool.or_eq_true]
                      rw [Nat.add_assoc]
                      constructor
                      · rintro ⟨h1, h2 | h2⟩
                        · exact Or.inl ⟨h1, h2⟩
                        · exact Or.inr ⟨h1, h2⟩
                      · rintro (⟨h1, h2⟩ | ⟨h1, h2⟩)
                        · exact ⟨h1, Or.inl h2⟩
                        · exact ⟨h1, Or.inr h2⟩
                    simp only [hd1e] at hs1
                    simp only [hd2e] at hs2
                    have ej : ((j + 1 : Nat) : Int) = (j : Int) + 1 := by omega
                    rw [ej] at hs1 hs2
                    have Hs1 := Lib.hid hs1
                    have Hs2 := Lib.hid hs2
                    clear hs1 hs2 hjj hpm hd1e hd2e hE2 hc hd1 hdot
                    have hok2 := fun m => hOk.out m jj (by omega)
                    have hpk2 := fun m h => hPk.out m jj h
                    have Hok2 := Lib.hid hok2
                    have Hpk2 := Lib.hid hpk2
                    clear hok2 hpk2
                    rcases hE with rfl | rfl <;> cases int
                    all_goals
                      go_upto_region 18 with (first
                      | (go_at_call 52; refine (Hok.out _).mono ?_; rintro e w' ⟨rfl, n', rfl⟩)
                      | (go_at_call 54; refine (Hpk.out _).mono ?_; rintro e w' ⟨rfl, n', rfl⟩)
                      | (go_at_call 57; refine (hD.out _ _).mono ?_; rintro e w' ⟨rfl, rfl⟩; rw [hdg]))
                      go_cut [92] (fun v92 wc => ∃ m, wc = w.drewN m ∧ v92 = .bool pm)
                      case first =>
                        subst hpd
                        cases d1 with
                        | true =>
                          go_wp2_with fail
                          refine (Hs1.out _).mono ?_
                          rintro e w' ⟨rfl, n2, rfl⟩
                          go_wp2_with fail
                          go_meet
                          case rel => exact ⟨_, rfl, rfl⟩
                        | false =>
                          go_wp2_with fail
                          refine (Hs1.out _).mono ?_
                          rintro e w' ⟨rfl, n2, rfl⟩
                          go_wp2_with fail
                          refine (Hs2.out _).mono ?_
                          rintro e w' ⟨rfl, n3, rfl⟩
                          go_wp2_with fail
                          go_meet
                          case rel => exact ⟨_, rfl, by simp⟩
                      case rest =>
                        obtain ⟨m, rfl, rfl⟩ := hcut
                        clear hpd
                        go_upto_if 92 with fail
                        go_cut [4] (fun v4 wc => wc = w.drewN m ∧ v4 = .int .i64 jj)
                        case first =>
                          cases pm with
                          | true =>
                            have ejj : (jj : Int) = (j : Int) + 1 + 1 := by simp at hjj2; omega
                            go_wp2_with fail
                            go_meet
                            case rel => exact ⟨rfl, by rw [ejj]⟩
                          | false =>
                            have ejj : (jj : Int) = (j : Int) + 1 := by simp at hjj2; omega
                            go_wp2_with fail
                            go_meet
                            case rel => exact ⟨rfl, by rw [ejj]⟩
                        case rest =>
                          obtain ⟨rfl, rfl⟩ := hcut
                          clear hjj2 Hs1 Hs2 Hok Hpk
                          by_cases hl3 : i + jj < s.size
                          · have hok3 := Hok2.out
                            rw [decide_eq_true hl3] at hok3
                            have hpk3 := fun m => Hpk2.out m hl3
                            obtain ⟨c3, hc3⟩ : ∃ c3, bt s (i + jj) = c3 := ⟨_, rfl⟩
                            rw [hc3] at hpk3
                            have Hok3 := Lib.hid hok3
                            have Hpk3 := Lib.hid hpk3
                            clear hok3 hpk3 Hok2 Hpk2
                            cases hdg2 : digitB c3 with
                            | true =>
                              have HR2 : Hid (nFrom s false g (i + jj) false true = R) := Hgood.out (by rw [Hjj.out]; exact ⟨hl3, by rw [hc3]; exact hdg2⟩)
                              have hjgt : j < jj := by have := expAt_gt s (i + j); rw [Hjj.out] at this; omega
                              clear Hgood Hbad hc3
                              go_wp2_with (first
                              | (go_at_call 52; refine (Hok3.out _).mono ?_; rintro e w' ⟨rfl, n', rfl⟩)
                              | (go_at_call 54; refine (Hpk3.out _).mono ?_; rintro e w' ⟨rfl, n', rfl⟩)
                              | (go_at_call 57; refine (hD.out _ _).mono ?_; rintro e w' ⟨rfl, rfl⟩; rw [hdg2]))
                              exact ⟨⟨_, jj, g, false, true, rfl, rfl, rfl, rfl, by omega, by omega, HR2⟩, by simp [intOf]; omega⟩
                            | false =>
                              have Hfin := Lib.hid (hfin.out j _ (Hbad.out (by rw [Hjj.out]; intro h; have := h.2; rw [hc3, hdg2] at this; cases this)))
                              clear Hgood Hbad hc3
                              go_wp2_with (first
                              | (go_at_call 52; refine (Hok3.out _).mono ?_; rintro e w' ⟨rfl, n', rfl⟩)
                              | (go_at_call 54; refine (Hpk3.out _).mono ?_; rintro e w' ⟨rfl, n', rfl⟩)
                              | (go_at_call 57; refine (hD.out _ _).mono ?_; rintro e w' ⟨rfl, rfl⟩; rw [hdg2]))
                              go_meet
                              case rel => exact ⟨_, j, _, rfl, rfl, rfl, hj, Hfin⟩
                          · have hok3 := Hok2.out
                            rw [decide_eq_false hl3] at hok3
                            have Hok3 := Lib.hid hok3
                            have Hfin := Lib.hid (hfin.out j _ (Hbad.out (by rw [Hjj.out]; intro h; exact hl3 h.1)))
                            clear hok3 Hok2 Hpk2 Hgood Hbad
                            go_wp2_with (go_at_call 52; refine (Hok3.out _).mono ?_; rintro e w' ⟨rfl, n', rfl⟩)
                            go_meet
                            case rel => exact ⟨_, j, _, rfl, rfl, rfl, hj, Hfin⟩
                  · have Hfin : Hid (numOf s i = ⟨i + j, loose s (i + j), !int, if int = true then (if false = true then 16 else 10) else 0⟩) := by
                      refine hfin.out j int ?_
                      rw [← HRj.out]
                      refine nFrom_stop hlt (by simp [hd1]) (fun h => hdot ⟨h.1, h.2.1, by rw [← hc]; exact h.2.2.2⟩) (fun h => hex ⟨h.1, by rw [← hc]; exact h.2.2⟩)
                    clear hd1
                    cases exp with
                    | true =>
                      go_wp2_with (first
                  | (go_at_call 52; refine (Hok.out _).mono ?_; rintro e w' ⟨rfl, n', rfl⟩)
                  | (go_at_call 54; refine (Hpk.out _).mono ?_; rintro e w' ⟨rfl, n', rfl⟩)
                  | (go_at_call 57; refine (hD.out _ _).mono ?_; rintro e w' ⟨rfl, rfl⟩; rw [hdg]))
                      go_meet
                      case rel => exact ⟨_, j, int, rfl, rfl, rfl, hj, Hfin⟩
                    | false =>
                      have hnE : ¬ isE c := fun h => hex ⟨rfl, h⟩
                      have hb1 : (c == 69) = false := by simp; intro h; exact hnE (Or.inr h)
                      have hb2 : (c == 101) = false := by simp; intro h; exact hnE (Or.inl h)
                      cases int with
                      | true =>
                        have hb3 : (c == 46) = false := by simp; intro h; exact hdot ⟨rfl, rfl, h⟩
                        go_wp2_with (first
                  | (go_at_call 52; refine (Hok.out _).mono ?_; rintro e w' ⟨rfl, n', rfl⟩)
                  | (go_at_call 54; refine (Hpk.out _).mono ?_; rintro e w' ⟨rfl, n', rfl⟩)
                  | (go_at_call 57; refine (hD.out _ _).mono ?_; rintro e w' ⟨rfl, rfl⟩; rw [hdg]))
                        go_meet
                        case rel => exact ⟨_, j, true, rfl, rfl, rfl, hj, Hfin⟩
                      | false =>
                        go_wp2_with (first
                  | (go_at_call 52; refine (Hok.out _).mono ?_; rintro e w' ⟨rfl, n', rfl⟩)
                  | (go_at_call 54; refine (Hpk.out _).mono ?_; rintro e w' ⟨rfl, n', rfl⟩)
                  | (go_at_call 57; refine (hD.out _ _).mono ?_; rintro e w' ⟨rfl, rfl⟩; rw [hdg]))
                        go_meet
                        case rel => exact ⟨_, j, false, rfl, rfl, rfl, hj, Hfin⟩
            · rw [decide_eq_false hlt] at hok
              have Hok := Lib.hid hok
              have Hfin : Hid (numOf s i = ⟨i + j, loose s (i + j), !int, if int = true then (if false = true then 16 else 10) else 0⟩) := by
                refine hfin.out j int ?_
                rw [← HRj.out]
                exact nFrom_end hlt
              clear hok
              go_wp2_with (go_at_call 52; refine (Hok.out _).mono ?_; rintro e w' ⟨rfl, n', rfl⟩)
              go_meet
              case rel => exact ⟨_, j, int, rfl, rfl, rfl, hj, Hfin⟩
      case rest =>
        obtain ⟨n, j, int, rfl, rfl, rfl, hj, Hnum⟩ := hcut
        clear hIs hOk hPk hD hH Hhb
        obtain ⟨b5, hb5⟩ : ∃ b5 : Int, (if hb = true then (16 : Int) else 10) = b5 := ⟨_, rfl⟩
        rw [hb5] at Hnum ⊢
        clear hb5
        have hsk := skipN_c (w := w.drewN n) j (by omega) hj (show LxAt (w.drewN n) b f x from HX.out) HP.out
        have hx1 : LxAt ((w.drewN n).setCell ⟨b, 9, none⟩ (.int .i64 ((i + j : Nat) : Int))) b f { x with pos := ((i + j : Nat) : Int) } := (show LxAt (w.drewN n) b f x from HX.out).setPos _
        have ho1 : Only b w ((w.drewN n).setCell ⟨b, 9, none⟩ (.int .i64 ((i + j : Nat) : Int))) := (show Only b w (w.drewN n) from ⟨rfl, rfl, rfl, Nat.le_refl _, fun _ _ _ => rfl⟩).setCell 9 _
        obtain ⟨w1, hw1⟩ : ∃ w1, (w.drewN n).setCell ⟨b, 9, none⟩ (.int .i64 ((i + j : Nat) : Int)) = w1 := ⟨_, rfl⟩
        rw [hw1] at hsk hx1 ho1
        obtain ⟨y, hy⟩ : ∃ y, y = { x with kind := numKind (!int), base := if int = true then b5 else x.base, pos := ((i + j : Nat) : Int) } := ⟨_, rfl⟩
        have Hsk := Lib.hid hsk
        have hne := HF.out.ne HX.out
        have hbl : b < w.heap.size := HX.out.lt
        have Hres : Hid (numStep x (numOf s i) = if loose s (i + j) = true then some y else none) := by
          show _ = _
          rw [Hnum.out, hy]
          unfold numStep
          cases int <;> rfl
        clear hsk hw1 HP
        go_wp2_with fail
        refine Hsk.out.mono ?_
        rintro e w' ⟨rfl, rfl⟩
        clear Hsk
        go_upto_if 110 with fail
        go_cut [110] (fun _ wc => Only b w wc ∧ LxAt wc b f y)
        case first =>
          cases int with
          | true =>
            have q1 := hx1.cell1
            have g1 := hx1.free 1
            have q6 := hx1.cell6
            have g6 := hx1.free 6
            have r1 : LxAt (w'.setCell ⟨b, 1, none⟩ (.string kInt)) b f { x with kind := kInt, pos := ((i + j : Nat) : Int) } := hx1.setKind _
            have r2 : LxAt ((w'.setCell ⟨b, 1, none⟩ (.string kInt)).setCell ⟨b, 6, none⟩ (.int .i64 b5)) b f y := by rw [hy]; exact r1.setBase _
            have ho2 := (ho1.setCell 1 (.string kInt)).setCell 6 (.int .i64 b5)
            clear hx1
            go_wp2_with fail
            go_meet
            case rel => exact ⟨ho2, r2⟩
          | false =>
            have q1 := hx1.cell1
            have g1 := hx1.free 1
            have r1 : LxAt (w'.setCell ⟨b, 1, none⟩ (.string kFloat)) b f y := by rw [hy]; exact hx1.setKind _
            have ho2 := ho1.setCell 1 (.string kFloat)
            clear hx1
            go_wp2_with fail
            go_meet
            case rel => exact ⟨ho2, r1⟩
        case rest =>
          obtain ⟨ho, hyx⟩ := hcut
          have hyp : y.pos = ((i + j : Nat) : Int) := by rw [hy]
          have hfc := HF.out.only ho hne
          have hok := peekOk_c (w := wc) 0 (by omega) (by omega) hj hyx hfc hyp
          rw [Nat.add_zero] at hok
          clear hy
          by_cases hlt : i + j < s.size
          · rw [decide_eq_true hlt] at hok
            have hpk := fun m => peek_c (w := wc.drewN m) 0 (by omega) (show LxAt (wc.drewN m) b f y from hyx) (show FileAt (wc.drewN m) f s (.slice none 0 0) from hfc) hyp hlt
            simp only [Nat.add_zero] at hpk
            have hlo := loose_in hlt
            have Hok := Lib.hid hok
            have Hpk := Lib.hid hpk
            clear hok hpk
            cases hpt : partB (bt s (i + j)) with
            | true =>
              rw [hpt] at hlo
              have hres2 : Hid (numStep x (numOf s i) = none) := by show _ = _; rw [Hres.out, hlo]; rfl
              have hBw : B ≤ wc.heap.size := Nat.le_trans hB ho.size
              have hBlow : RowKit.Below B w wc := ho.below hBb hB
              have hpan := fun msg m => panicf_c s msg b f (i + j) B y (wc.drewN m) hs hj (show LxAt (wc.drewN m) b f y from hyx) hyp (show FileAt (wc.drewN m) f s (.slice none 0 0) from hfc) hBf hBw (fun W hW => HT.out W (hBlow.trans (RowKit.Below.trans (show RowKit.Below B wc (wc.drewN m) from ⟨rfl, rfl, rfl, Nat.le_refl _, fun _ _ => rfl⟩) hW)))
              have Hpan := Lib.hid hpan
              have Hlow := Lib.hid (And.intro hBlow ho)
              clear hpan hyx hfc hlo Hres
              go_wp2_with (first
                | (go_at_call 52; refine Hok.out.mono ?_; rintro e w' ⟨rfl, n', rfl⟩)
                | (go_at_call 54; refine (Hpk.out _).mono ?_; rintro e w' ⟨rfl, n', rfl⟩)
                | (go_at_call 53; refine (hPt.out _ _).mono ?_; rintro e w' ⟨rfl, rfl⟩; rw [hpt]))
              refine (Hpan.out _ _).mono ?_
              rintro e w3 ⟨v, p, rfl, herr, hb3⟩
              refine ⟨rfl, ?_⟩
              rw [hres2.out]
              exact ⟨v, p, rfl, herr, (Hlow.out.1.trans (below_dn B wc _)).trans hb3.below, ((Hlow.out.2.trans (Only.of_below (below_dn _ wc _))).kpL HX.out).trans hb3.kp⟩
            | false =>
              rw [hpt] at hlo
              have hres2 : Hid (numStep x (numOf s i) = some y) := by show _ = _; rw [Hres.out, hlo]; rfl
              have Hyx := Lib.hid hyx
              clear hyx hfc hlo Hres
              go_wp2_with (first
                | (go_at_call 52; refine Hok.out.mono ?_; rintro e w' ⟨rfl, n', rfl⟩)
                | (go_at_call 54; refine (Hpk.out _).mono ?_; rintro e w' ⟨rfl, n', rfl⟩)
                | (go_at_call 53; refine (hPt.out _ _).mono ?_; rintro e w' ⟨rfl, rfl⟩; rw [hpt]))
              go_end0
              rw [hres2.out]
              exact ⟨rfl, Hyx.out, ho.trans ⟨rfl, rfl, rfl, Nat.le_refl _, fun _ _ _ => rfl⟩⟩
          · rw [decide_eq_false hlt] at hok
            have hres2 : Hid (numStep x (numOf s i) = some y) := by show _ = _; rw [Hres.out, loose_end hlt]; rfl
            have Hok := Lib.hid hok
            have Hyx := Lib.hid hyx
            clear hok hyx hfc Hres
            go_wp2_with (go_at_call 52; refine Hok.out.mono ?_; rintro e w' ⟨rfl, n', rfl⟩)
            go_end0
            rw [hres2.out]
            exact ⟨rfl, Hyx.out, ho.trans ⟨rfl, rfl, rfl, Nat.le_refl _, fun _ _ _ => rfl⟩⟩
end Go.Proofs.YtmkkeacbabmaeaaGreatDoor
namespace Go.Proofs.YtmkkeacbabmaeaaGreatDoor
open Go.PlainAid

/-- A comment; a token with the comments ahead of it. -/
structure CmtD where
  space : ByteArray
  raw : ByteArray
  pos : Nat
  stop : Nat
structure TokD where
  kind : ByteArray
  space : ByteArray
  raw : ByteArray
  text : ByteArray
  base : Int
  pos : Nat
  stop : Nat
  comments : List CmtD

/-- The blanks and comments from a place on: the comments, where the last blanks begin, where they end. -/
def gapFrom (s : ByteArray) : Nat → Nat → List CmtD → Option (List CmtD × Nat × Nat)
  | 0, _, _ => none
  | f + 1, i, cs =>
    match commentEnd s (blanksEnd s i) with
    | none => none
    | some e => if e = blanksEnd s i then some (cs, i, e) else gapFrom s f e (cs ++ [⟨s.extract i (blanksEnd s i), s.extract (blanksEnd s i) e, blanksEnd s i, e⟩])
theorem gapFrom_none {s : ByteArray} {f i : Nat} {cs : List CmtD} (h : commentEnd s (blanksEnd s i) = none) : gapFrom s (f + 1) i cs = none := by rw [gapFrom, h]
theorem gapFrom_done {s : ByteArray} {f i : Nat} {cs : List CmtD} (h : commentEnd s (blanksEnd s i) = some (blanksEnd s i)) : gapFrom s (f + 1) i cs = some (cs, i, blanksEnd s i) := by rw [gapFrom, h]; simp
theorem gapFrom_go {s : ByteArray} {f i e : Nat} {cs : List CmtD} (h : commentEnd s (blanksEnd s i) = some e) (hne : ¬ e = blanksEnd s i) : gapFrom s (f + 1) i cs = gapFrom s f e (cs ++ [⟨s.extract i (blanksEnd s i), s.extract (blanksEnd s i) e, blanksEnd s i, e⟩]) := by rw [gapFrom, h]; simp only []; rw [if_neg hne]

def eofB (k : ByteArray) : Bool := k.toList == [60, 101, 111, 102, 62]
def lastKind (ts : List TokD) : ByteArray := (ts.getLast?.map fun t => t.kind).getD ⟨#[]⟩
def kindAt (ts : List TokD) (j : Nat) : ByteArray := (ts[j]?.map fun t => t.kind).getD ⟨#[]⟩
def pathB (ts : List TokD) : Bool := (lastKind ts).toList == [46] && decide (1 < ts.length) && dottedB (kindAt ts (ts.length - 2))
def afterB (ts : List TokD) : Bool := dottedB (lastKind ts)
def mkTok (s : ByteArray) (g : List CmtD × Nat × Nat) (r : TokR) : TokD := ⟨r.kind, s.extract g.2.1 g.2.2, s.extract g.2.2 r.stop, r.text.getD ⟨#[]⟩, r.base.getD 0, g.2.2, r.stop, g.1⟩

/-- The tokens from a place on, behind those read so far; none: a fault. -/
def lexFrom (s : ByteArray) : Nat → Nat → List TokD → Option (List TokD)
  | 0, _, _ => none
  | f + 1, i, ts =>
    match gapFrom s (s.size + 1) i [] with
    | none => none
    | some g =>
      match tokOf s g.2.2 (pathB ts) (afterB ts) with
      | none => none
      | some r => if eofB r.kind = true then some (ts ++ [mkTok s g r]) else lexFrom s f r.stop (ts ++ [mkTok s g r])
def specLex (s : ByteArray) : Option (List TokD) := lexFrom s (s.size + 2) 0 []
section
variable {s : ByteArray} {f i : Nat} {ts : List TokD}
theorem lexFrom_gap (h : gapFrom s (s.size + 1) i [] = none) : lexFrom s (f + 1) i ts = none := by rw [lexFrom, h]
theorem lexFrom_tok {g : List CmtD × Nat × Nat} (h : gapFrom s (s.size + 1) i [] = some g) (ht : tokOf s g.2.2 (pathB ts) (afterB ts) = none) : lexFrom s (f + 1) i ts = none := by rw [lexFrom, h]; simp only []; rw [ht]
theorem lexFrom_eof {g : List CmtD × Nat × Nat} {r : TokR} (h : gapFrom s (s.size + 1) i [] = some g) (ht : tokOf s g.2.2 (pathB ts) (afterB ts) = some r) (he : eofB r.kind = true) : lexFrom s (f + 1) i ts = some (ts ++ [mkTok s g r]) := by rw [lexFrom, h]; simp only []; rw [ht]; simp only []; rw [if_pos he]
theorem lexFrom_go {g : List CmtD × Nat × Nat} {r : TokR} (h : gapFrom s (s.size + 1) i [] = some g) (ht : tokOf s g.2.2 (pathB ts) (afterB ts) = some r) (he : eofB r.kind = false) : lexFrom s (f + 1) i ts = lexFrom s f r.stop (ts ++ [mkTok s g r]) := by rw [lexFrom, h]; simp only []; rw [ht]; simp only []; rw [if_neg (by simp [he])]
end

/-! Where a comment, a token ends. -/
theorem starEnd_le (s : ByteArray) (i e : Nat) : starEnd s i = some e → i + 2 ≤ e ∧ e ≤ s.size := by
  fun_induction starEnd s i with
  | case1 i h hb =>
    intro he
    cases he
    unfold startsB at hb
    simp at hb
    have : (ByteArray.mk #[42, 47]).size = 2 := rfl
    omega
  | case2 i h hb ih =>
    intro he
    have := ih he
    omega
  | case3 i h => intro he; cases he
theorem startsB_le {s p : ByteArray} {i : Nat} (h : startsB s i p = true) : i + p.size ≤ s.size := by
  unfold startsB at h; simp at h; exact h.1
theorem commentEnd_le {s : ByteArray} {i e : Nat} (hi : i ≤ s.size) (h : commentEnd s i = some e) : i ≤ e ∧ e ≤ s.size := by
  unfold commentEnd at h
  have h1 := lineEnd_ge s i
  have h2 := lineEnd_le s i hi
  split at h
  · cases h; omega
  · split at h
    · have := starEnd_le s _ _ h
      omega
    · cases h; omega
theorem quotFrom_gt {s q : ByteArray} {raw bytes : Bool} : ∀ (f i : Nat) (v : List UInt8) (l : List UInt8) (n : Nat), quotFrom s q raw bytes f i v = .good l n → i + q.size ≤ n ∧ n ≤ s.size
  | 0, _, _, _, _, h => by cases h
  | f + 1, i, v, l, n, h => by
    rw [quotFrom] at h
    split at h
    · split at h
      · rename_i hq
        have := startsB_le hq
        cases h; omega
      · split at h
        · cases h
        · split at h
          · split at h
            · cases h
            · have := quotFrom_gt f _ _ _ _ h
              omega
          · split at h
            · split at h
              · cases h
              · rename_i p hp
                have := quotFrom_gt f _ _ _ _ h
                have := escOf_gt hp
                omega
            · have := quotFrom_gt f _ _ _ _ h
              omega
    · cases h
theorem markOf_pos (s : ByteArray) (i : Nat) (h : i < s.size) : 1 ≤ (markOf s i).size := by
  have : (s.extract i (i + 1)).size = 1 := by rw [ByteArray.size_extract]; omega
  unfold markOf
  split
  · simp only [ByteArray.size_append]; omega
  · omega
theorem quotOf_gt {s : ByteArray} {i n : Nat} {raw bytes : Bool} {l : List UInt8} (hi : i < s.size) (h : quotOf s i raw bytes = .good l n) : i < n ∧ n ≤ s.size := by
  have h1 := quotFrom_gt _ _ _ _ _ h
  have h2 := markOf_pos s i hi
  omega
theorem expAt_ge (s : ByteArray) (e : Nat) : e + 1 ≤ expAt s e := by unfold expAt; split <;> omega
theorem expPart_ge {s : ByteArray} {e : Nat} {fl : Bool} {b : Int} (h : e ≤ s.size) : e ≤ (expPart s e fl b).stop ∧ (expPart s e fl b).stop ≤ s.size := by
  unfold expPart
  have h3 := expAt_ge s e
  have h1 := digitsEnd_ge s (expAt s e)
  split
  · split
    · rename_i hx
      have h2 := digitsEnd_le s (expAt s e) (Nat.le_of_lt hx.1)
      exact ⟨by show e ≤ digitsEnd s (expAt s e); omega, h2⟩
    · exact ⟨Nat.le_refl _, h⟩
  · exact ⟨Nat.le_refl _, h⟩
theorem numOf_gt {s : ByteArray} {i : Nat} (hi : i < s.size) (hd : digitB (bt s i) = true ∨ bt s i = 46) : i < (numOf s i).stop ∧ (numOf s i).stop ≤ s.size := by
  unfold numOf
  split
  · rename_i hx
    have : i + 2 ≤ s.size := by
      rcases hx with h | h
      · exact startsB_le h
      · exact startsB_le h
    have h1 := hexEnd_ge s (i + 2)
    have h2 := hexEnd_le s (i + 2) this
    exact ⟨by show i < hexEnd s (i + 2); omega, h2⟩
  · have g1 := digitsEnd_ge s i
    have g2 := digitsEnd_le s i (Nat.le_of_lt hi)
    split
    · rename_i hx
      have g3 := digitsEnd_ge s (digitsEnd s i + 1)
      have g4 := digitsEnd_le s (digitsEnd s i + 1) (by omega)
      have := expPart_ge (fl := true) (b := 0) g4
      omega
    · rename_i hx
      have := expPart_ge (fl := false) (b := 10) g2
      rcases hd with hd | hd
      · have e1 := digitsEnd_go hi hd
        have e2 := digitsEnd_ge s (i + 1)
        omega
      · have : digitsEnd s i = i := digitsEnd_stop (fun h => by rw [hd] at h; exact absurd h.2 (by decide))
        rw [this] at hx
        exact absurd ⟨hi, hd⟩ hx
theorem partsEnd_gt {s : ByteArray} {i : Nat} (hi : i < s.size) (hp : partB (bt s i) = true) : i < partsEnd s i ∧ partsEnd s i ≤ s.size := by
  have h1 := partsEnd_go hi hp
  have h2 := partsEnd_ge s (i + 1)
  have h3 := partsEnd_le s i (Nat.le_of_lt hi)
  omega
theorem symFrom_gt {K s : ByteArray} {i k : Nat} {p : ByteArray × Nat} : symFrom K s i k = some p → (22 ≤ K.size → k % 2 = 0 → i < p.2 ∧ p.2 ≤ s.size) := by
  fun_induction symFrom K s i k with
  | case1 k h hb =>
    intro he hK hk
    cases he
    have := startsB_le hb
    rw [ByteArray.size_extract] at this
    exact ⟨by show i < i + 2; omega, by show i + 2 ≤ s.size; omega⟩
  | case2 k h hb ih => intro he hK hk; exact ih he hK (by omega)
  | case3 k h => intro he; cases he
theorem sigFrom_gt {K s : ByteArray} {i k : Nat} {p : ByteArray × Nat} (hi : i < s.size) : sigFrom K s i k = some p → i < p.2 ∧ p.2 ≤ s.size := by
  fun_induction sigFrom K s i k with
  | case1 k h hb => intro he; cases he; exact ⟨by show i < i + 1; omega, by show i + 1 ≤ s.size; omega⟩
  | case2 k h hb ih => exact ih
  | case3 k h => intro he; cases he
theorem signOf_gt {s : ByteArray} {i : Nat} {p : ByteArray × Nat} (hi : i < s.size) (h : signOf s i = some p) : i < p.2 ∧ p.2 ≤ s.size := by
  unfold signOf at h
  split at h
  · cases h
    rename_i q hq
    exact symFrom_gt hq (by decide) rfl
  · exact sigFrom_gt hi h
theorem letter_part {c : Int} (h : letterB c = true) : partB c = true := by simp [partB, h]
theorem tokOf_gt {s : ByteArray} {i : Nat} {path after : Bool} {r : TokR} (hi : i ≤ s.size) (h : tokOf s i path after = some r) : (i = s.size → r.stop = i ∧ eofB r.kind = true) ∧ (i < s.size → i < r.stop) ∧ r.stop ≤ s.size := by
  unfold tokOf at h
  split at h
  · cases h
    exact ⟨fun _ => ⟨rfl, (by show eofB kEof = true; decide +kernel)⟩, fun h => by omega, hi⟩
  · rename_i hne
    have hlt : i < s.size := by omega
    have key : i < r.stop ∧ r.stop ≤ s.size := by
      split at h
      · rename_i hp
        cases h
        exact partsEnd_gt hlt hp.2
      · split at h
        · unfold backTok at h
          split at h
          · rename_i v n hq
            split at h
            · cases h
            · cases h
              exact quotOf_gt hlt hq
          · cases h
        · split at h
          · rename_i hd
            unfold numTok at h
            split at h
            · cases h
              exact numOf_gt hlt (by rcases hd with hd | hd; exact Or.inl hd; exact Or.inr hd.1)
            · cases h
          · split at h
            · rename_i ha
              cases h
              have := partsEnd_gt ha.2.1 (letter_part ha.2.2)
              exact ⟨by show i < partsEnd s (i + 1); omega, this.2⟩
            · split at h
              · rename_i p hp
                unfold quotTok at h
                split at h
                · rename_i v n hq
                  cases h
                  have := quotOf_gt (prefOf_lt hp) hq
                  exact ⟨by show i < n; omega, this.2⟩
                · cases h
              · split at h
                · rename_i hl
                  cases h
                  unfold wordTok
                  split
                  · exact partsEnd_gt hlt (letter_part hl)
                  · exact partsEnd_gt hlt (letter_part hl)
                · unfold signTok at h
                  cases hs : signOf s i with
                  | none => rw [hs] at h; cases h
                  | some p => rw [hs] at h; cases h; exact signOf_gt hlt hs
    exact ⟨fun e => absurd e hne, fun _ => key.1, key.2⟩
end Go.Proofs.YtmkkeacbabmaeaaGreatDoor
namespace Go.Proofs.YtmkkeacbabmaeaaGreatDoor
open Go.RowKit Go.PlainAid

/-- Where the first p from a place on ends. -/
def untilEnd (s p : ByteArray) (i : Nat) : Option Nat := if i < s.size then (if startsB s i p = true then some (i + p.size) else untilEnd s p (i + 1)) else none
termination_by s.size - i
decreasing_by omega
theorem untilEnd_hit {s p : ByteArray} {i : Nat} (h : i < s.size) (hb : startsB s i p = true) : untilEnd s p i = some (i + p.size) := by rw [untilEnd, if_pos h, if_pos hb]
theorem untilEnd_go {s p : ByteArray} {i : Nat} (h : i < s.size) (hb : startsB s i p = false) : untilEnd s p i = untilEnd s p (i + 1) := by rw [untilEnd, if_pos h, if_neg (by simp [hb])]
theorem untilEnd_end {s p : ByteArray} {i : Nat} (h : ¬ i < s.size) : untilEnd s p i = none := by rw [untilEnd, if_neg h]
theorem until_star (s : ByteArray) (i : Nat) : untilEnd s ⟨#[42, 47]⟩ i = starEnd s i := by
  fun_induction starEnd s i with
  | case1 i h hb => rw [untilEnd_hit h hb]; rfl
  | case2 i h hb ih => rw [untilEnd_go h (by simpa using hb), ih]
  | case3 i h => rw [untilEnd_end h]
theorem starts_one (s : ByteArray) (i : Nat) (c : UInt8) (h : i < s.size) : startsB s i ⟨#[c]⟩ = decide (bt s i = (c.toNat : Int)) := by
  apply bool_ext
  have hb := get_bt s i h
  have hz : (ByteArray.mk #[c]).size = 1 := rfl
  unfold startsB
  rw [hz]
  have he : (s.extract i (i + 1)).toList = [s[i]'h] := by
    rw [ByteArray.toList_eq, ByteArray.data_extract, Array.toList_extract, List.extract_eq_take_drop]
    have hl : i < s.data.toList.length := by rw [Array.length_toList]; exact h
    rw [List.drop_eq_getElem_cons hl]
    simp
    rfl
  rw [he]
  rw [ByteArray.toList_eq]
  simp
  constructor
  · rintro ⟨_, e⟩
    rw [← hb, e]
  · intro e
    refine ⟨h, ?_⟩
    rw [← hb] at e
    apply UInt8.toNat_inj.1
    omega
theorem until_line (s : ByteArray) (i : Nat) (h : i ≤ s.size) : (untilEnd s ⟨#[10]⟩ i).getD s.size = min (lineEnd s i + 1) s.size := by
  fun_induction lineEnd s i with
  | case1 i hlt ih =>
    rw [untilEnd_go hlt.1 (by rw [starts_one s i 10 hlt.1]; exact decide_eq_false hlt.2), ih hlt.1]
  | case2 i hn =>
    by_cases hlt : i < s.size
    · have h10 : bt s i = 10 := Decidable.byContradiction (fun h2 => hn ⟨hlt, h2⟩)
      rw [untilEnd_hit hlt (by rw [starts_one s i 10 hlt]; exact decide_eq_true h10)]
      show i + 1 = _
      omega
    · rw [untilEnd_end hlt]
      show s.size = _
      omega

theorem starts_eq (s p : ByteArray) (i : Nat) (hi : i ≤ s.size) : ((s.extract i (i + p.size)).toList == p.toList) = startsB s i p := by
  apply bool_ext
  unfold startsB
  simp only [beq_iff_eq, Bool.and_eq_true, decide_eq_true_eq]
  constructor
  · intro h
    refine ⟨?_, h⟩
    rw [ByteArray.toList_eq, ByteArray.toList_eq] at h
    have := congrArg ByteArray.size (ByteArray.ext (Array.toList_inj.1 h))
    rw [ByteArray.size_extract] at this
    omega
  · rintro ⟨_, h⟩
    exact h

theorem Only.dn {b : Nat} {w w1 : World} (h : Only b w w1) (n : Nat) : Only b w (w1.drewN n) := h.trans ⟨rfl, rfl, rfl, Nat.le_refl _, fun _ _ _ => rfl⟩
theorem Thrown.from {B b f : Nat} {x : LxS} {w w1 w2 : World} {e : Ending} (h : Only b w w1) (hl : LxAt w b f x) (hb : B ≤ b) (hw : B ≤ w.heap.size) (k : Thrown B w1 e w2) : Thrown B w e w2 := by
  obtain ⟨v, p, h1, h2, h3⟩ := k
  exact ⟨v, p, h1, h2, (h.below hb hw).trans h3.below, (h.kpL hl).trans h3.kp⟩
theorem Thrown.fromB {B : Nat} {w w1 w2 : World} {e : Ending} (h : RowKit.Below w.heap.size w w1) (hw : B ≤ w.heap.size) (k : Thrown B w1 e w2) : Thrown B w e w2 := by
  obtain ⟨v, p, h1, h2, h3⟩ := k
  exact ⟨v, p, h1, h2, (h.mono hw).trans h3.below, (Kp.of_below h).trans h3.kp⟩
/-- What the lexer's functions rest on: the file, the table of powers, that what lies below B stays. -/
structure Env (s : ByteArray) (b f B : Nat) (w : World) : Prop where
  small : s.size ≤ 4096
  file : FileAt w f s (.slice none 0 0)
  ne : f ≠ b
  bf : B ≤ f
  bb : B ≤ b
  bw : B ≤ w.heap.size
  tab : Lib.TabBelow Tryz.prog B w "internal/strconv.uint64pow10" .u64 Lib.pow10Tab
theorem Env.only {s : ByteArray} {b f B : Nat} {w w1 : World} (h : Env s b f B w) (k : Only b w w1) : Env s b f B w1 :=
  ⟨h.small, h.file.only k h.ne, h.ne, h.bf, h.bb, Nat.le_trans h.bw k.size, fun W hW => h.tab W ((k.below h.bb h.bw).trans hW)⟩
theorem Env.low {s : ByteArray} {b f B : Nat} {w w1 : World} (h : Env s b f B w) (k : Only b w w1) : RowKit.Below B w w1 := k.below h.bb h.bw

/-- What skipCommentUntil leaves. -/
def UntilPost (b f : Nat) (x : LxS) (B : Nat) (s : ByteArray) (must : Bool) (o : Option Nat) (w : World) (e : Ending) (w' : World) : Prop :=
  match o with
  | some n => e = .returned (.bool false) ∧ LxAt w' b f { x with pos := (n : Int) } ∧ Only b w w'
  | none => if must = true then Thrown B w e w' else e = .returned (.bool false) ∧ LxAt w' b f { x with pos := (s.size : Int) } ∧ Only b w w'

set_option maxHeartbeats 4000000 in
set_option maxRecDepth 100000 in
theorem skipUntil_c (s p : ByteArray) (must : Bool) (b f i B : Nat) (x : LxS) (w : World) (hs : s.size ≤ 4096) (hps : p.size ≤ 2) (hi : i ≤ s.size) (hx : LxAt w b f x) (hp : x.pos = i) (hE : Env s b f B w) :
    Calls Tryz.prog 51 #[.pointer (some ⟨b, 0, none⟩), .string p, .bool must, .bool false] w (UntilPost b f x B s must (untilEnd s p i) w) := by
  have hne := hE.ne
  have HF := Lib.hid hE.file
  have HE := Lib.hid hE
  have HXw := Lib.hid hx
  have c9 := hx.cell9
  rw [hp] at c9
  clear hE
  go_enter Tryz.func51, Tryz.ntmps51
  go_wp2_with fail
  go_loopw [] (fun wr => ∃ j : Nat, j ≤ s.size ∧ LxAt wr b f { x with pos := (j : Int) } ∧ Only b w wr ∧ Hid (untilEnd s p j = untilEnd s p i)) (fun wr => match wr.cell? ⟨b, 9, none⟩ with | some (.int .i64 p) => s.size - p.toNat | _ => 0)
  case atStart => exact ⟨i, hi, by rw [← hp]; exact hx, Only.refl b w, rfl⟩
  case round =>
    obtain ⟨j, hj, hxj, hoj, Hend⟩ := hrel
    have hfj := HF.out.only hoj hne
    have heof := eof_c hj hxj hfj rfl
    clear c9 hx hp
    by_cases hlt : j < s.size
    · rw [decide_eq_false (show ¬ s.size ≤ j by omega)] at heof
      have Heof := Lib.hid heof
      have Hc9 := Lib.hid hxj.cell9
      have hsl := fun n => slice_c (w := wr.drewN n) 0 p.size (by omega) (by omega) (Nat.zero_le _) (by omega) (show LxAt (wr.drewN n) b f { x with pos := (j : Int) } from hxj) (show FileAt (wr.drewN n) f s (.slice none 0 0) from hfj) rfl
      rw [Nat.add_zero] at hsl
      have Hsl := Lib.hid hsl
      obtain ⟨r, hr⟩ : ∃ r, s.extract j (j + p.size) = r := ⟨_, rfl⟩
      have hst := starts_eq s p j hj
      rw [hr] at hst
      have Hx2 := Lib.hid (fun n => show LxAt (wr.drewN n) b f { x with pos := (j : Int) } from hxj)
      have Hf2 := Lib.hid (fun n => show FileAt (wr.drewN n) f s (.slice none 0 0) from hfj)
      have hoj2 : ∀ n, Only b w (wr.drewN n) := fun n => hoj.trans ⟨rfl, rfl, rfl, Nat.le_refl _, fun _ _ _ => rfl⟩
      clear heof hxj hfj hsl hoj
      cases hsb : startsB s j p with
      | true =>
        have hle := startsB_le hsb
        rw [hsb] at hst
        have Hfin : Hid (untilEnd s p i = some (j + p.size)) := by show _ = _; rw [← Hend.out]; exact untilEnd_hit hlt hsb
        clear hsb Hend
        go_wp2_with (first
          | (go_at_call 46; refine Heof.out.mono ?_; rintro e w' ⟨rfl, n', rfl⟩)
          | (go_at_call 65; refine (Hsl.out _).mono ?_; rintro e w' ⟨rfl, n2, rfl⟩; rw [hr]))
        refine (skipN_c (s := s) p.size (by omega) hle (Hx2.out _) rfl).mono ?_
        rintro e w' ⟨rfl, rfl⟩
        go_wp2_with fail
        go_ret
        rw [Hfin.out]
        show _ ∧ _ ∧ _
        exact ⟨rfl, (Hx2.out _).setPos _, (hoj2 _).setCell 9 _⟩
      | false =>
        rw [hsb] at hst
        have He2 : Hid (untilEnd s p (j + 1) = untilEnd s p i) := by show _ = _; rw [← Hend.out, untilEnd_go hlt hsb]
        clear hsb Hend
        go_wp2_with (first
          | (go_at_call 46; refine Heof.out.mono ?_; rintro e w' ⟨rfl, n', rfl⟩)
          | (go_at_call 65; refine (Hsl.out _).mono ?_; rintro e w' ⟨rfl, n2, rfl⟩; rw [hr]))
        refine (skip_c (by omega) hlt (Hx2.out _) (Hf2.out _) rfl).mono ?_
        rintro e w' ⟨rfl, n3, rfl⟩
        go_wp2_with fail
        have hy := (Hx2.out (n' + n2 + n3)).setPos ((j + 1 : Nat) : Int)
        refine ⟨⟨j + 1, hlt, hy, (hoj2 _).setCell 9 _, He2⟩, ?_⟩
        have m1 := hy.cell9
        simp only [Int.natCast_add, Int.cast_ofNat_Int] at m1
        rw [Hc9.out]
        simp only [m1]
        omega
    · rw [decide_eq_true (show s.size ≤ j by omega)] at heof
      have Heof := Lib.hid heof
      have ej : j = s.size := by omega
      have hxj2 := fun n => show LxAt (wr.drewN n) b f { x with pos := (j : Int) } from hxj
      have Hfin : Hid (untilEnd s p i = none) := by show _ = _; rw [← Hend.out]; exact untilEnd_end hlt
      cases must with
      | true =>
        have hpan := fun m => panicfAt_c s ⟨#[117, 110, 99, 108, 111, 115, 101, 100, 32, 99, 111, 109, 109, 101, 110, 116]⟩ b f i s.size B { x with pos := (j : Int) } (wr.drewN m) HE.out.small hi (Nat.le_refl _) (hxj2 m) (HE.out.only (hoj.dn m)).file HE.out.bf (HE.out.only (hoj.dn m)).bw (HE.out.only (hoj.dn m)).tab
        have Hpan := Lib.hid hpan
        have Hc9 := Lib.hid (fun m => (hxj2 m).cell9)
        have hc9 := hxj.cell9
        have Hlow := Lib.hid (fun m => hoj.dn m)
        clear hpan hxj hxj2 heof hfj
        go_wp2_with (go_at_call 46; refine Heof.out.mono ?_; rintro e w' ⟨rfl, n', rfl⟩)
        refine (Hpan.out _).mono ?_
        rintro e w3 ht
        have ht2 := Thrown.from (Hlow.out n') HXw.out HE.out.bb HE.out.bw ht
        obtain ⟨v, p2, rfl, herr, hb3⟩ := ht2
        refine ⟨rfl, ?_⟩
        rw [Hfin.out]
        exact ⟨v, p2, rfl, herr, hb3⟩
      | false =>
        have Hxj := Lib.hid hxj
        clear heof hxj
        go_wp2_with (go_at_call 46; refine Heof.out.mono ?_; rintro e w' ⟨rfl, n', rfl⟩)
        go_ret
        rw [Hfin.out]
        show _ ∧ _ ∧ _
        rw [← ej]
        exact ⟨rfl, Hxj.out, hoj.trans ⟨rfl, rfl, rfl, Nat.le_refl _, fun _ _ _ => rfl⟩⟩
end Go.Proofs.YtmkkeacbabmaeaaGreatDoor
namespace Go.Proofs.YtmkkeacbabmaeaaGreatDoor
open Go.RowKit Go.PlainAid

theorem starts_three (s : ByteArray) (i : Nat) (a b c : UInt8) : startsB s i ⟨#[a, b, c]⟩ = decide (i + 2 < s.size ∧ bt s i = (a.toNat : Int) ∧ bt s (i + 1) = (b.toNat : Int) ∧ bt s (i + 2) = (c.toNat : Int)) := by
  have hz : (ByteArray.mk #[a, b, c]).size = 3 := rfl
  have hl : (ByteArray.mk #[a, b, c]).toList = [a, b, c] := by rw [ByteArray.toList_eq]
  unfold startsB
  rw [hz, hl]
  by_cases h : i + 2 < s.size
  · have b0 := get_bt s i (by omega)
    have b1 := get_bt s (i + 1) (by omega)
    have b2 := get_bt s (i + 2) h
    have hlen : s.data.toList.length = s.size := Array.length_toList
    have e : (s.extract i (i + 3)).toList = [s[i]'(by omega), s[i + 1]'(by omega), s[i + 2]'h] := by
      rw [ByteArray.toList_eq, ByteArray.data_extract, Array.toList_extract, List.extract_eq_take_drop]
      have e3 : i + 3 - i = 3 := by omega
      rw [e3]
      rw [List.drop_eq_getElem_cons (by omega), List.drop_eq_getElem_cons (by omega), List.drop_eq_getElem_cons (by omega)]
      rfl
    rw [e, ← b0, ← b1, ← b2]
    apply bool_ext
    have nat_eq : ∀ u v : UInt8, ((u.toNat : Int) = (v.toNat : Int)) ↔ u = v := fun u v => ⟨fun k => UInt8.toNat_inj.1 (by omega), fun k => by rw [k]⟩
    simp only [nat_eq, Bool.and_eq_true, decide_eq_true_eq, beq_iff_eq, List.cons.injEq, and_true]
    constructor
    · rintro ⟨_, k⟩; exact ⟨h, k⟩
    · rintro ⟨_, k⟩; exact ⟨by omega, k⟩
  · rw [decide_eq_false (show ¬ i + 3 ≤ s.size by omega), decide_eq_false (fun k => h k.1)]
    rfl
theorem extract_one (s : ByteArray) (i : Nat) (hi : i < s.size) (c : UInt8) (hc : bt s i = (c.toNat : Int)) : s.extract i (i + 1) = ⟨#[c]⟩ := by
  apply ByteArray.ext
  apply Array.toList_inj.1
  have b0 := get_bt s i hi
  have hlen : s.data.toList.length = s.size := Array.length_toList
  rw [ByteArray.data_extract, Array.toList_extract, List.extract_eq_take_drop]
  have e3 : i + 1 - i = 1 := by omega
  rw [e3, List.drop_eq_getElem_cons (by omega)]
  have : s.data.toList[i]'(by omega) = c := UInt8.toNat_inj.1 (by have : ((s.data.toList[i]'(by omega)).toNat : Int) = (c.toNat : Int) := b0.trans hc; omega)
  rw [this]
  rfl
theorem markOf_eq (s : ByteArray) (i : Nat) (hi : i < s.size) (c : UInt8) (hc : bt s i = (c.toNat : Int)) (h96 : c ≠ 96) :
    markOf s i = if i + 2 < s.size ∧ bt s (i + 1) = (c.toNat : Int) ∧ bt s (i + 2) = (c.toNat : Int) then ⟨#[c, c, c]⟩ else ⟨#[c]⟩ := by
  unfold markOf
  rw [extract_one s i hi c hc]
  have h3 : (ByteArray.mk #[c] ++ ByteArray.mk #[c] ++ ByteArray.mk #[c]) = ⟨#[c, c, c]⟩ := by
    apply ByteArray.ext; simp
  have hl : (ByteArray.mk #[c]).toList = [c] := by rw [ByteArray.toList_eq]
  rw [h3, starts_three, hl]
  simp only [decide_eq_true_eq]
  by_cases k : i + 2 < s.size ∧ bt s (i + 1) = (c.toNat : Int) ∧ bt s (i + 2) = (c.toNat : Int)
  · rw [if_pos k, if_pos ⟨by simpa using h96, k.1, hc, k.2⟩]
  · rw [if_neg k, if_neg (fun h => k ⟨h.2.1, h.2.2.2⟩)]

theorem alloc_keeps {b f : Nat} {x : LxS} {w : World} {o : Obj} (h : LxAt w b f x) : LxAt (w.alloc o) b f x :=
  h.kept (RowKit.Below.heap_alloc _ _ _ h.lt)
/-- string([]byte{c}). -/
theorem one_string (w : World) (c : UInt8) :
    (convert 89 9 (.slice (some ⟨w.heap.size, 0, none⟩) 1 1)).run Tryz.prog (w.alloc (.cells #[.int .u8 (c.toNat : Int)] 5)) = .ok (.string ⟨#[c]⟩) (w.alloc (.cells #[.int .u8 (c.toNat : Int)] 5)) :=
  run_convert_bytes_back (w.alloc (.cells #[.int .u8 (c.toNat : Int)] 5)) 89 9 5 ⟨w.heap.size, 0, none⟩ 1 [c] Tryz.underlying89 Tryz.underlying5 Tryz.underlying9 (fun j hj => by
    obtain rfl : j = 0 := by simp at hj; omega
    show (w.alloc (.cells #[.int .u8 (c.toNat : Int)] 5)).cell? ⟨w.heap.size, 0, none⟩ = _
    rw [World.cell?_alloc_mark]; rfl)

set_option maxHeartbeats 4000000 in
set_option maxRecDepth 100000 in
theorem peekDelimiter_c (s : ByteArray) (b f i : Nat) (x : LxS) (w : World) (hs : s.size ≤ 4096) (hi : i < s.size) (hx : LxAt w b f x) (hp : x.pos = i) (hf : FileAt w f s (.slice none 0 0)) (hq : bt s i = 34 ∨ bt s i = 39) :
    Calls Tryz.prog 81 #[.pointer (some ⟨b, 0, none⟩)] w fun e w' => e = .returned (.string (markOf s i)) ∧ Only b w w' ∧ LxAt w' b f x := by
  have hX : ∀ n, LxAt (w.drewN n) b f x := fun n => hx
  have hF : ∀ n, FileAt (w.drewN n) f s (.slice none 0 0) := fun n => hf
  obtain ⟨c, hc⟩ : ∃ c, bt s i = c := ⟨_, rfl⟩
  obtain ⟨d1, hd1⟩ : ∃ d, decide (i + 1 < s.size ∧ bt s (i + 1) = c) = d := ⟨_, rfl⟩
  obtain ⟨d2, hd2⟩ : ∃ d, decide (i + 2 < s.size ∧ bt s (i + 2) = c) = d := ⟨_, rfl⟩
  have hpk := peek_c (w := w) 0 (by omega) hx hf hp hi
  have h1 := fun n => peekIs_c (w := w.drewN n) 1 c (by omega) (by omega) (Nat.le_of_lt hi) (hX n) (hF n) hp
  have h2 := fun n => peekIs_c (w := w.drewN n) 2 c (by omega) (by omega) (Nat.le_of_lt hi) (hX n) (hF n) hp
  rw [Nat.add_zero, hc] at hpk
  simp only [hd1] at h1
  simp only [hd2] at h2
  rw [hc] at hq
  have Hpk := Lib.hid hpk
  have H1 := Lib.hid h1
  have H2 := Lib.hid h2
  have HX := Lib.hid hX
  clear hpk h1 h2 hX hF hx hf hp
  rcases hq with rfl | rfl
  · have Hm : Hid (markOf s i = if (d1 && d2) = true then ⟨#[34, 34, 34]⟩ else ⟨#[34]⟩) := by
      show _ = _
      rw [markOf_eq s i hi 34 hc (by decide), ← hd1, ← hd2]
      simp only [Bool.and_eq_true, decide_eq_true_eq]
      exact ite_congr (propext ⟨fun k => ⟨⟨by omega, k.2.1⟩, k.1, k.2.2⟩, fun k => ⟨k.2.1, k.1.2, k.2.2⟩⟩) (fun _ => rfl) (fun _ => rfl)
    have hcv : ∀ n, (convert 89 9 (.slice (some ⟨w.heap.size, 0, none⟩) 1 1)).run Tryz.prog ((w.drewN n).alloc (.cells #[.int .u8 34] 5)) = .ok (.string ⟨#[34]⟩) ((w.drewN n).alloc (.cells #[.int .u8 34] 5)) := fun n => one_string (w.drewN n) 34
    clear  hc hd1 hd2
    go_enter Tryz.func81, Tryz.ntmps81
    go_wp2_with (go_at_call 54; refine Hpk.out.mono ?_; rintro e w' ⟨rfl, n', rfl⟩)
    go_loopw [3, 5] (fun v3 v5 wr => ∃ n k : Nat, wr = w.drewN n ∧ v3 = .int .i64 k ∧ v5 = .bool true ∧ Hid (k = 1 ∨ (k = 2 ∧ d1 = true) ∨ (k = 3 ∧ d1 = true ∧ d2 = true))) (fun v3 _ _ => 3 - (intOf v3).toNat)
    case atStart => exact ⟨n', 1, rfl, rfl, rfl, Or.inl rfl⟩
    case round =>
      obtain ⟨n, k, rfl, rfl, rfl, hk⟩ := hrel
      rcases hk.out with rfl | ⟨rfl, e1⟩ | ⟨rfl, e1, e2⟩
      · cases d1 with
        | true =>
          go_wp2_with (go_at_call 50; refine (H1.out _).mono ?_; rintro e w' ⟨rfl, n', rfl⟩)
          exact ⟨⟨_, 2, rfl, rfl, rfl, (show _ ∨ _ from by simp)⟩, by simp [intOf]⟩
        | false =>
          go_wp2_with (go_at_call 50; refine (H1.out _).mono ?_; rintro e w' ⟨rfl, n', rfl⟩)
          go_ret
          rw [Hm.out]
          exact ⟨rfl, ((Only.refl b w).dn _).alloc _, alloc_keeps (HX.out _)⟩
      · subst e1
        cases d2 with
        | true =>
          go_wp2_with (go_at_call 50; refine (H2.out _).mono ?_; rintro e w' ⟨rfl, n', rfl⟩)
          exact ⟨⟨_, 3, rfl, rfl, rfl, (show _ ∨ _ from by simp)⟩, by simp [intOf]⟩
        | false =>
          go_wp2_with (go_at_call 50; refine (H2.out _).mono ?_; rintro e w' ⟨rfl, n', rfl⟩)
          go_ret
          rw [Hm.out]
          exact ⟨rfl, ((Only.refl b w).dn _).alloc _, alloc_keeps (HX.out _)⟩
      · subst e1
        subst e2
        go_wp2_with fail
        go_ret
        rw [Hm.out]
        exact ⟨rfl, (Only.refl b w).dn _, HX.out _⟩
  · have Hm : Hid (markOf s i = if (d1 && d2) = true then ⟨#[39, 39, 39]⟩ else ⟨#[39]⟩) := by
      show _ = _
      rw [markOf_eq s i hi 39 hc (by decide), ← hd1, ← hd2]
      simp only [Bool.and_eq_true, decide_eq_true_eq]
      exact ite_congr (propext ⟨fun k => ⟨⟨by omega, k.2.1⟩, k.1, k.2.2⟩, fun k => ⟨k.2.1, k.1.2, k.2.2⟩⟩) (fun _ => rfl) (fun _ => rfl)
    have hcv : ∀ n, (convert 89 9 (.slice (some ⟨w.heap.size, 0, none⟩) 1 1)).run Tryz.prog ((w.drewN n).alloc (.cells #[.int .u8 39] 5)) = .ok (.string ⟨#[39]⟩) ((w.drewN n).alloc (.cells #[.int .u8 39] 5)) := fun n => one_string (w.drewN n) 39
    clear  hc hd1 hd2
    go_enter Tryz.func81, Tryz.ntmps81
    go_wp2_with (go_at_call 54; refine Hpk.out.mono ?_; rintro e w' ⟨rfl, n', rfl⟩)
    go_loopw [3, 5] (fun v3 v5 wr => ∃ n k : Nat, wr = w.drewN n ∧ v3 = .int .i64 k ∧ v5 = .bool true ∧ Hid (k = 1 ∨ (k = 2 ∧ d1 = true) ∨ (k = 3 ∧ d1 = true ∧ d2 = true))) (fun v3 _ _ => 3 - (intOf v3).toNat)
    case atStart => exact ⟨n', 1, rfl, rfl, rfl, Or.inl rfl⟩
    case round =>
      obtain ⟨n, k, rfl, rfl, rfl, hk⟩ := hrel
      rcases hk.out with rfl | ⟨rfl, e1⟩ | ⟨rfl, e1, e2⟩
      · cases d1 with
        | true =>
          go_wp2_with (go_at_call 50; refine (H1.out _).mono ?_; rintro e w' ⟨rfl, n', rfl⟩)
          exact ⟨⟨_, 2, rfl, rfl, rfl, (show _ ∨ _ from by simp)⟩, by simp [intOf]⟩
        | false =>
          go_wp2_with (go_at_call 50; refine (H1.out _).mono ?_; rintro e w' ⟨rfl, n', rfl⟩)
          go_ret
          rw [Hm.out]
          exact ⟨rfl, ((Only.refl b w).dn _).alloc _, alloc_keeps (HX.out _)⟩
      · subst e1
        cases d2 with
        | true =>
          go_wp2_with (go_at_call 50; refine (H2.out _).mono ?_; rintro e w' ⟨rfl, n', rfl⟩)
          exact ⟨⟨_, 3, rfl, rfl, rfl, (show _ ∨ _ from by simp)⟩, by simp [intOf]⟩
        | false =>
          go_wp2_with (go_at_call 50; refine (H2.out _).mono ?_; rintro e w' ⟨rfl, n', rfl⟩)
          go_ret
          rw [Hm.out]
          exact ⟨rfl, ((Only.refl b w).dn _).alloc _, alloc_keeps (HX.out _)⟩
      · subst e1
        subst e2
        go_wp2_with fail
        go_ret
        rw [Hm.out]
        exact ⟨rfl, (Only.refl b w).dn _, HX.out _⟩
end Go.Proofs.YtmkkeacbabmaeaaGreatDoor
namespace Go.Proofs.YtmkkeacbabmaeaaGreatDoor
open Go.RowKit Go.PlainAid

theorem lSpaced_c (s : ByteArray) (w : World) (hs : s.size ≤ 2305843009213693952) :
    Calls Tryz.prog 45 #[.string s] w fun e w' => e = .returned (.bool (spacedFrom s 0)) ∧ w = w' := by
  have hb := get_bt s
  go_enter Tryz.func45, Tryz.ntmps45
  go_wp2
  go_loop [3] (fun v => ∃ k : Nat, k ≤ s.size ∧ v = .int .i64 k ∧ Hid (spacedFrom s k = spacedFrom s 0)) (fun v => s.size - (intOf v).toNat)
  case atStart => exact ⟨0, by omega, rfl, rfl⟩
  case round =>
    obtain ⟨k, hk, rfl, hr⟩ := hrel
    by_cases hlt : k < s.size
    · by_cases hbl : bt s k = 32
      · have hb1 : (bt s k == 32) = true := by simp [hbl]
        have Hbl := Lib.hid hbl
        clear hbl
        go_wp2
        go_ret
        exact ⟨ret_bool (by rw [← hr.out, spacedFrom_hit hlt Hbl.out]), rfl⟩
      · have hb1 : (bt s k == 32) = false := by simp [hbl]
        go_wp2
        go_round
        case rel => exact ⟨k + 1, by omega, by go_num, by show spacedFrom s (k + 1) = _; rw [← hr.out, spacedFrom_go hlt hbl]⟩
        case measure => simp [intOf]; omega
    · go_wp2
      go_ret
      exact ⟨ret_bool (by rw [← hr.out, spacedFrom_end hlt]), rfl⟩

theorem kw_const : (({ data := ((((([32, 65, 76, 76, 32, 65, 78, 68, 32, 65, 78, 89, 32, 65, 82, 82, 65, 89, 32, 65, 83, 32, 65, 83, 67, 32, 65, 83, 83, 69, 82, 84, 95, 82, 79, 87, 83].append [95, 77, 79, 68, 73, 70, 73, 69, 68, 32, 65, 84, 32, 66, 69, 84, 87, 69, 69, 78, 32, 66, 89, 32, 67, 65, 83, 69, 32, 67, 65, 83, 84, 32, 67, 79, 76, 76]).append ([65, 84, 69, 32, 67, 79, 78, 84, 65, 73, 78, 83, 32, 67, 82, 69, 65, 84, 69, 32, 67, 82, 79, 83, 83, 32, 67, 85, 66, 69, 32, 67, 85, 82, 82, 69, 78].append [84, 32, 68, 69, 70, 65, 85, 76, 84, 32, 68, 69, 70, 73, 78, 69, 32, 68, 69, 83, 67, 32, 68, 73, 83, 84, 73, 78, 67, 84, 32, 69, 76, 83, 69, 32, 69, 78])).append (([68, 32, 69, 78, 85, 77, 32, 69, 83, 67, 65, 80, 69, 32, 69, 88, 67, 69, 80, 84, 32, 69, 88, 67, 76, 85, 68, 69, 32, 69, 88, 73, 83, 84, 83, 32, 69].append [88, 84, 82, 65, 67, 84, 32, 70, 65, 76, 83, 69, 32, 70, 69, 84, 67, 72, 32, 70, 79, 76, 76, 79, 87, 73, 78, 71, 32, 70, 79, 82, 32, 70, 82, 79, 77, 32]).append ([70, 85, 76, 76, 32, 71, 82, 65, 80, 72, 95, 84, 65, 66, 76, 69, 32, 71, 82, 79, 85, 80, 32, 71, 82, 79, 85, 80, 73, 78, 71, 32, 71, 82, 79, 85, 80].append [83, 32, 72, 65, 83, 72, 32, 72, 65, 86, 73, 78, 71, 32, 73, 70, 32, 73, 71, 78, 79, 82, 69, 32, 73, 78, 32, 73, 78, 78, 69, 82, 32, 73, 78, 84, 69, 82]))).append ((([83, 69, 67, 84, 32, 73, 78, 84, 69, 82, 86, 65, 76, 32, 73, 78, 84, 79, 32, 73, 83, 32, 74, 79, 73, 78, 32, 76, 65, 84, 69, 82, 65, 76, 32, 76, 69].append [70, 84, 32, 76, 73, 75, 69, 32, 76, 73, 77, 73, 84, 32, 76, 79, 79, 75, 85, 80, 32, 77, 69, 82, 71, 69, 32, 78, 65, 84, 85, 82, 65, 76, 32, 78, 69, 87]).append ([32, 78, 79, 32, 78, 79, 84, 32, 78, 85, 76, 76, 32, 78, 85, 76, 76, 83, 32, 79, 70, 32, 79, 78, 32, 79, 82, 32, 79, 82, 68, 69, 82, 32, 79, 85, 84].append [69, 82, 32, 79, 86, 69, 82, 32, 80, 65, 82, 84, 73, 84, 73, 79, 78, 32, 80, 82, 69, 67, 69, 68, 73, 78, 71, 32, 80, 82, 79, 84, 79, 32, 82, 65, 78, 71])).append (([69, 32, 82, 69, 67, 85, 82, 83, 73, 86, 69, 32, 82, 69, 83, 80, 69, 67, 84, 32, 82, 73, 71, 72, 84, 32, 82, 79, 76, 76, 85, 80, 32, 82, 79, 87, 83].append [32, 83, 69, 76, 69, 67, 84, 32, 83, 69, 84, 32, 83, 79, 77, 69, 32, 83, 84, 82, 85, 67, 84, 32, 84, 65, 66, 76, 69, 83, 65, 77, 80, 76, 69, 32, 84, 72]).append ([69, 78, 32, 84, 79, 32, 84, 82, 69, 65, 84, 32, 84, 82, 85, 69, 32, 85, 78, 66, 79, 85, 78, 68, 69, 68, 32, 85, 78, 73, 79, 78, 32, 85, 78, 78, 69, 83].append [84, 32, 85, 83, 73, 78, 71, 32, 87, 72, 69, 78, 32, 87, 72, 69, 82, 69, 32, 87, 73, 78, 68, 79, 87, 32, 87, 73, 84, 72, 32, 87, 73, 84, 72, 73, 78, 32]))))).toArray } : ByteArray)) = kwText := rfl

theorem kwHit_yes {K s : ByteArray} {k : Nat} (h1 : bt K k = 32) (h2 : ((K.extract (k + 1) (k + 1 + s.size)).toList == s.toList) = true) (h3 : bt K (k + 1 + s.size) = 32) : kwHit K s k = true := by simp [kwHit, h1, h3] at *; exact h2
theorem kwHit_no1 {K s : ByteArray} {k : Nat} (h1 : ¬ bt K k = 32) : kwHit K s k = false := by simp [kwHit, h1]
theorem kwHit_no2 {K s : ByteArray} {k : Nat} (h2 : ((K.extract (k + 1) (k + 1 + s.size)).toList == s.toList) = false) : kwHit K s k = false := by simp only [kwHit, h2, Bool.and_false, Bool.false_and]
theorem kwHit_no3 {K s : ByteArray} {k : Nat} (h1 : ¬ bt K (k + 1 + s.size) = 32) : kwHit K s k = false := by simp [kwHit, h1]

set_option maxHeartbeats 800000 in
set_option maxRecDepth 20000 in
theorem Keyword_c (s : ByteArray) (w : World) (hs : s.size ≤ 2305843009213693952) :
    Calls Tryz.prog 33 #[.string s] w fun e w' => e = .returned (.bool (kwB s)) ∧ w = w' := by
  go_enter Tryz.func33, Tryz.ntmps33
  rw [kw_const]
  obtain ⟨K, hKe⟩ : ∃ K, K = kwText := ⟨_, rfl⟩
  rw [← hKe]
  have hz1 : K.size ≤ 601 := by rw [hKe, kwText_size]; exact Nat.le_refl _
  have hz2 : 601 ≤ K.size := by rw [hKe, kwText_size]; exact Nat.le_refl _
  have hfin0 : kwB s = (!spacedFrom s 0 && kwFind K s 0) := by rw [hKe]; rfl
  clear hKe
  have hK := get_bt K
  cases hsp : spacedFrom s 0
  case true =>
    have hfin : Hid (kwB s = false) := by show kwB s = _; rw [hfin0, hsp]; rfl
    clear hfin0
    go_wp2
    refine wp_loop_rounds 1 ?_
    rw [rounds_succ]
    go_wp2_with (go_at_call 45; refine (lSpaced_c _ _ hs).mono ?_; rintro e w' ⟨rfl, rfl⟩)
    go_ret
    exact ⟨ret_bool (by rw [hfin.out]), rfl⟩
  case false =>
    have hfin : Hid (kwB s = kwFind K s 0) := by show kwB s = kwFind K s 0; rw [hfin0, hsp]; rfl
    clear hfin0
    go_wp2
    go_loop [3] (fun v => ∃ k : Nat, k ≤ 601 ∧ v = .int .i64 k ∧ Hid (kwFind K s k = kwFind K s 0)) (fun v => 601 - (intOf v).toNat)
    case atStart => exact ⟨0, by omega, rfl, rfl⟩
    case round =>
      obtain ⟨k, hk, rfl, hr⟩ := hrel
      by_cases hlt : k + s.size + 1 < 601
      · by_cases h1 : bt K k = 32
        · have h1b : (bt K k == 32) = true := by simp [h1]
          have H1 := Lib.hid h1
          clear h1
          cases h2 : ((K.extract (k + 1) (k + 1 + s.size)).toList == s.toList)
          · go_wp2_with (go_at_call 45; refine (lSpaced_c _ _ hs).mono ?_; rintro e w' ⟨rfl, rfl⟩)
            go_round
            case rel => exact ⟨k + 1, by omega, by go_num, by show kwFind K s (k + 1) = _; rw [← hr.out, kwFind_go hlt (kwHit_no2 h2)]⟩
            case measure => simp [intOf]; omega
          · by_cases h3 : bt K (k + 1 + s.size) = 32
            · have h3b : (bt K (k + 1 + s.size) == 32) = true := by simp [h3]
              have H3 := Lib.hid h3
              clear h3
              go_wp2_with (go_at_call 45; refine (lSpaced_c _ _ hs).mono ?_; rintro e w' ⟨rfl, rfl⟩)
              go_ret
              refine ⟨ret_bool ?_, rfl⟩
              rw [hfin.out, ← hr.out, kwFind_hit hlt (kwHit_yes H1.out h2 H3.out)]
            · have h3b : (bt K (k + 1 + s.size) == 32) = false := by simp [h3]
              go_wp2_with (go_at_call 45; refine (lSpaced_c _ _ hs).mono ?_; rintro e w' ⟨rfl, rfl⟩)
              go_round
              case rel => exact ⟨k + 1, by omega, by go_num, by show kwFind K s (k + 1) = _; rw [← hr.out, kwFind_go hlt (kwHit_no3 h3)]⟩
              case measure => simp [intOf]; omega
        · have h1b : (bt K k == 32) = false := by simp [h1]
          go_wp2_with (go_at_call 45; refine (lSpaced_c _ _ hs).mono ?_; rintro e w' ⟨rfl, rfl⟩)
          go_round
          case rel => exact ⟨k + 1, by omega, by go_num, by show kwFind K s (k + 1) = _; rw [← hr.out, kwFind_go hlt (kwHit_no1 h1)]⟩
          case measure => simp [intOf]; omega
      · go_wp2_with (go_at_call 45; refine (lSpaced_c _ _ hs).mono ?_; rintro e w' ⟨rfl, rfl⟩)
        go_ret
        exact ⟨ret_bool (by rw [hfin.out, ← hr.out, kwFind_end hlt]), rfl⟩
end Go.Proofs.YtmkkeacbabmaeaaGreatDoor
namespace Go.Proofs.YtmkkeacbabmaeaaGreatDoor
open Go.RowKit Go.PlainAid

set_option maxHeartbeats 800000 in
set_option maxRecDepth 20000 in
theorem Upper_c (s : ByteArray) (w : World) (hs : s.size ≤ 2305843009213693952) :
    Calls Tryz.prog 32 #[.string s] w fun e w' => e = .returned (.string ⟨(upperL s.data.toList).toArray⟩) ∧ Below w.heap.size w w' := by
  have hcv := run_bytes_of w s
  have hbl0 := below_bytesWorld w s
  have hBA0 := bytesAt_new w s
  obtain ⟨cap, hcap⟩ : ∃ cap, grownCap w s.size 0 5 = cap := ⟨_, rfl⟩
  rw [hcap] at hcv
  clear hcap
  obtain ⟨W0, hW0⟩ : ∃ W0, Lib.bytesWorld w 5 s = W0 := ⟨_, rfl⟩
  rw [hW0] at hcv hbl0 hBA0
  clear hW0
  obtain ⟨g, hg⟩ : ∃ g, w.heap.size = g := ⟨_, rfl⟩
  rw [hg] at hcv hBA0
  have hsz : s.data.toList.length = s.size := by simp
  obtain ⟨l, hl⟩ : ∃ l, s.data.toList = l := ⟨_, rfl⟩
  rw [hl] at hBA0 hsz
  rw [hl]
  have Hl := Lib.hid hsz
  have hsz1 : l.length ≤ s.size := by omega
  have hsz2 : s.size ≤ l.length := by omega
  have Hg := Lib.hid hg
  clear hl hsz hg
  go_enter Tryz.func32, Tryz.ntmps32
  go_wp2
  go_loopw [4] (fun v wr => ∃ k : Nat, k ≤ s.size ∧ v = .int .i64 k ∧ BytesAt wr g (upTo l k) ∧ Below g W0 wr) (fun v _ => s.size - (intOf v).toNat)
  case atStart => exact ⟨0, by omega, rfl, by rw [upTo_zero]; exact hBA0, Below.refl _ _⟩
  case round =>
    obtain ⟨k, hk, rfl, hBA, hbw⟩ := hrel
    by_cases hlt : k < s.size
    · have hkl : k < l.length := by omega
      have hcell := hBA.cell k (by rw [upTo_length]; exact hkl)
      rw [upTo_get l k hkl] at hcell
      have hfz := hBA.notFrozen k (by rw [upTo_length]; exact hkl)
      have hx1 : ((l[k].toNat : Nat) : Int) ≤ 255 := by have := l[k].toNat_lt; omega
      have hx0 : 0 ≤ ((l[k].toNat : Nat) : Int) := by omega
      by_cases hup : 97 ≤ ((l[k].toNat : Nat) : Int) ∧ ((l[k].toNat : Nat) : Int) ≤ 122
      · obtain ⟨hu1, hu2⟩ := hup
        have hset := hBA.set k (upB l[k])
        rw [upB_yes hu1 hu2, ← upTo_succ l k hkl] at hset
        obtain ⟨x, hx⟩ : ∃ x : Int, ((l[k].toNat : Nat) : Int) = x := ⟨_, rfl⟩
        rw [hx] at hcell hx1 hx0 hu1 hu2 hset
        clear hx
        go_wp2
        go_roundw
        case rel => exact ⟨k + 1, by omega, by go_num, hset, hbw.setCell (Nat.le_refl _) _⟩
        case measure => simp [intOf]; omega
      · have hset : upTo l (k + 1) = upTo l k := by rw [upTo_succ l k hkl, upB_no hup]; exact (List.ext_getElem (by simp) (fun i h1 h2 => by by_cases e : k = i <;> simp [e]; subst e; exact (upTo_get l k hkl).symm))
        rw [← hset] at hBA
        clear hset
        obtain ⟨x, hx⟩ : ∃ x : Int, ((l[k].toNat : Nat) : Int) = x := ⟨_, rfl⟩
        rw [hx] at hcell hx1 hx0 hup
        clear hx
        by_cases hu1 : 97 ≤ x
        all_goals
          go_wp2
          go_roundw
          case rel => exact ⟨k + 1, by omega, by go_num, hBA, hbw⟩
          case measure => simp [intOf]; omega
    · have hBA2 := hBA
      rw [upTo_all l k (by omega)] at hBA2
      have hcv2 := fun c => run_bytes_back hBA2 c
      have hll : (upperL l).length = s.size := by simp [upperL]; exact Hl.out
      rw [hll] at hcv2
      clear hll
      go_wp2
      go_ret
      exact ⟨rfl, hbl0.trans (by rw [Hg.out]; exact hbw)⟩
end Go.Proofs.YtmkkeacbabmaeaaGreatDoor
namespace Go.Proofs.YtmkkeacbabmaeaaGreatDoor
open Go.RowKit Go.PlainAid

theorem ret_pref {n : Int} {r b : Bool} {o : Option (Nat × Bool × Bool)} (h1 : n = prefNum o) (h2 : r = prefRaw o) (h3 : b = prefBytes o) : Ending.returned (.tuple #[.int .i64 n, .bool r, .bool b]) = .returned (prefVal o) := by rw [h1, h2, h3]; rfl

set_option maxHeartbeats 1600000 in
set_option maxRecDepth 20000 in
theorem Prefix_c (s : ByteArray) (i : Nat) (w : World) (hs : s.size ≤ 2305843009213693952) (hi : i ≤ s.size) :
    Calls Tryz.prog 31 #[.string s, .int .i64 i] w fun e w' => e = .returned (prefVal (prefOf s i)) ∧ w = w' := by
  have hb := get_bt s
  go_enter Tryz.func31, Tryz.ntmps31
  go_wp2
  go_loop [7, 8, 9] (fun r b v => ∃ (raw bytes : Bool) (n f : Nat), n + f = 3 ∧ r = .bool raw ∧ b = .bool bytes ∧ v = .int .i64 n ∧ Hid (prefFrom s i f raw bytes n = prefOf s i)) (fun _ _ v => 3 - (intOf v).toNat)
  case atStart => exact ⟨false, false, 0, 3, rfl, rfl, rfl, rfl, rfl⟩
  case round =>
    obtain ⟨raw, bytes, n, f, hf, rfl, rfl, rfl, hr⟩ := hrel
    by_cases h3 : n < 3
    · obtain ⟨f, rfl⟩ : ∃ g, f = g + 1 := ⟨f - 1, by omega⟩
      have hf1 : n + f ≤ 2 := by omega
      have hf2 : 2 ≤ n + f := by omega
      clear hf
      by_cases hlt : i + n < s.size
      · obtain ⟨c, hc⟩ : ∃ c, bt s (i + n) = c := ⟨_, rfl⟩
        have hb2 : ((s[i + n]'hlt).toNat : Int) = c := by rw [hb, hc]
        have Hc := Lib.hid hc
        clear hc hb
        by_cases hq : c = 34 ∨ c = 39
        · have hfin : Hid (prefOf s i = some (n, raw, bytes)) := by show _ = _; rw [← hr.out, prefFrom_quote hlt (by rw [Hc.out]; exact hq)]
          by_cases h1 : c = 34
          · have h1b : (c == 34) = true := by simp [h1]
            clear hq h1
            go_wp2
            go_ret3
            exact ⟨ret_pref (by rw [hfin.out]; rfl) (by rw [hfin.out]; rfl) (by rw [hfin.out]; rfl), rfl⟩
          · have h1b : (c == 34) = false := by simp [h1]
            have h2b : (c == 39) = true := by simp; omega
            clear hq h1
            go_wp2
            go_ret3
            exact ⟨ret_pref (by rw [hfin.out]; rfl) (by rw [hfin.out]; rfl) (by rw [hfin.out]; rfl), rfl⟩
        · have q1 : (c == 34) = false := by simp; omega
          have q2 : (c == 39) = false := by simp; omega
          by_cases hra : (c = 114 ∨ c = 82) ∧ raw = false
          · obtain ⟨hra, rfl⟩ := hra
            have hstep : Hid (prefFrom s i f true bytes (n + 1) = prefOf s i) := by show _ = _; rw [← hr.out, prefFrom_raw hlt (by rw [Hc.out]; exact hra)]
            by_cases h1 : c = 114
            · have h1b : (c == 114) = true := by simp [h1]
              clear hra h1 hq hr
              go_wp2
              go_round
              case rel => exact ⟨true, bytes, n + 1, f, by omega, rfl, rfl, by go_num, hstep⟩
              case measure => simp [intOf]; omega
            · have h1b : (c == 114) = false := by simp [h1]
              have h2b : (c == 82) = true := by simp; omega
              clear hra h1 hq hr
              go_wp2
              go_round
              case rel => exact ⟨true, bytes, n + 1, f, by omega, rfl, rfl, by go_num, hstep⟩
              case measure => simp [intOf]; omega
          · by_cases hby : (c = 98 ∨ c = 66) ∧ bytes = false
            · obtain ⟨hby, rfl⟩ := hby
              have hstep : Hid (prefFrom s i f raw true (n + 1) = prefOf s i) := by show _ = _; rw [← hr.out, prefFrom_bytes hlt (by rw [Hc.out]; exact hby)]
              have r1 : (c == 114) = false := by simp; omega
              have r2 : (c == 82) = false := by simp; omega
              by_cases h1 : c = 98
              · have h1b : (c == 98) = true := by simp [h1]
                clear hby h1 hra hq hr
                go_wp2
                go_round
                case rel => exact ⟨raw, true, n + 1, f, by omega, rfl, rfl, by go_num, hstep⟩
                case measure => simp [intOf]; omega
              · have h1b : (c == 98) = false := by simp [h1]
                have h2b : (c == 66) = true := by simp; omega
                clear hby h1 hra hq hr
                go_wp2
                go_round
                case rel => exact ⟨raw, true, n + 1, f, by omega, rfl, rfl, by go_num, hstep⟩
                case measure => simp [intOf]; omega
            · have hfin : Hid (prefOf s i = none) := by show _ = _; rw [← hr.out, prefFrom_none hlt (by rw [Hc.out]; exact hq) (by rw [Hc.out]; exact hra) (by rw [Hc.out]; exact hby)]
              cases raw <;> cases bytes <;> simp at hra hby
              all_goals
                go_wp2
                all_goals
                  go_ret3
                  exact ⟨ret_pref (by rw [hfin.out]; rfl) (by rw [hfin.out]; rfl) (by rw [hfin.out]; rfl), rfl⟩
      · have hfin : Hid (prefOf s i = none) := by show _ = _; rw [← hr.out, prefFrom_end hlt]
        go_wp2
        go_ret3
        exact ⟨ret_pref (by rw [hfin.out]; rfl) (by rw [hfin.out]; rfl) (by rw [hfin.out]; rfl), rfl⟩
    · obtain rfl : f = 0 := by omega
      have hfin : Hid (prefOf s i = none) := by show _ = _; rw [← hr.out]; rfl
      go_wp2
      go_ret3
      exact ⟨ret_pref (by rw [hfin.out]; rfl) (by rw [hfin.out]; rfl) (by rw [hfin.out]; rfl), rfl⟩
end Go.Proofs.YtmkkeacbabmaeaaGreatDoor
namespace Go.Proofs.YtmkkeacbabmaeaaGreatDoor
open Go.RowKit Go.PlainAid

theorem ret_ib {a b : Int} {c d : Bool} (h : a = b) (h2 : c = d) : Ending.returned (.tuple #[.int .i64 a, .bool c]) = .returned (.tuple #[.int .i64 b, .bool d]) := by rw [h, h2]

/-- What a number leaves: the end, whether it is one; the token's kind and base. -/
def NumPost (s : ByteArray) (i b : Nat) (x : TokS) (w : World) (e : Ending) (w' : World) : Prop :=
  e = .returned (.tuple #[.int .i64 (numOf s i).stop, .bool (numOf s i).ok]) ∧ TokAt w' b { x with kind := numKind (numOf s i).float, base := (numOf s i).base } ∧ Only b w w'

set_option maxHeartbeats 3200000 in
set_option maxRecDepth 100000 in
theorem lNumber_hex (s : ByteArray) (i b : Nat) (x : TokS) (w : World) (hs : s.size ≤ 2305843009213693952) (ht : TokAt w b x) (hx : isHexAt s i) :
    Calls Tryz.prog 29 #[.string s, .int .i64 i, .pointer (some ⟨b, 0, none⟩)] w (NumPost s i b x w) := by
  have hb := get_bt s
  have hbn := bt_nonneg s
  have hbl := bt_le s
  have hi2 : i + 2 ≤ s.size := by
    rcases hx with h | h
    · exact startsB_two h
    · exact startsB_two h
  have hfin := Lib.hid (numOf_hex hx)
  have hf0 := ht.free 0
  have hf4 := ht.free 4
  have hc0 := ht.cell0
  have hc4 := ht.cell4
  unfold isHexAt at hx
  cases h1 : startsB s i ⟨#[48, 120]⟩ <;> cases h2 : startsB s i ⟨#[48, 88]⟩
  · simp [h1, h2] at hx
  all_goals
    clear hx
    go_enter Tryz.func29, Tryz.ntmps29
    go_wp2_with (go_at_call 11; refine (lStarts_c _ _ _ _ (by omega) (by decide) (by omega)).mono ?_; rintro e w' ⟨rfl, rfl⟩)
    go_loop [8] (fun v => ∃ k : Nat, k ≤ s.size ∧ v = .int .i64 k ∧ Hid (hexEnd s k = hexEnd s (i + 2))) (fun v => s.size - (intOf v).toNat)
    case atStart => exact ⟨i + 2, hi2, by go_num, rfl⟩
    case round =>
      obtain ⟨k, hk, rfl, hr⟩ := hrel
      have hn0 := hbn k
      have hn1 := hbl k
      clear hbn hbl
      by_cases hlt : k < s.size
      · by_cases hv : 0 ≤ hexV (bt s k)
        · go_wp2_with (go_at_call 44; refine (Hex_c _ _ hn0 hn1).mono ?_; rintro e w' ⟨rfl, rfl⟩)
          go_round
          case rel => exact ⟨k + 1, by omega, by go_num, by show hexEnd s (k + 1) = _; rw [← hr.out, hexEnd_go hlt hv]⟩
          case measure => simp [intOf]; omega
        · have hst := Lib.hid (hexEnd_stop (s := s) (i := k) (fun h => hv h.2))
          go_wp2_with (first | (go_at_call 44; refine (Hex_c _ _ hn0 hn1).mono ?_; rintro e w' ⟨rfl, rfl⟩) | (go_at_call 25; refine (IdentPart_c _ _).mono ?_; rintro e w' ⟨rfl, rfl⟩))
          go_ret2
          refine ⟨?_, ?_, ?_⟩
          · exact ret_ib (by rw [hfin.out, ← hr.out, hst.out]) (by rw [hfin.out, ← hr.out, hst.out]; show _ = loose s k; rw [loose_in hlt])
          · rw [hfin.out]; exact (ht.setKind kInt).setBase 16
          · exact ((Only.refl b w).setCell 0 _).setCell 4 _
      · have hst := Lib.hid (hexEnd_stop (s := s) (i := k) (fun h => hlt h.1))
        go_wp2
        go_ret2
        refine ⟨?_, ?_, ?_⟩
        · exact ret_ib (by rw [hfin.out, ← hr.out, hst.out]) (by rw [hfin.out, ← hr.out, hst.out]; show _ = loose s k; rw [loose_end hlt])
        · rw [hfin.out]; exact (ht.setKind kInt).setBase 16
        · exact ((Only.refl b w).setCell 0 _).setCell 4 _

end Go.Proofs.YtmkkeacbabmaeaaGreatDoor
