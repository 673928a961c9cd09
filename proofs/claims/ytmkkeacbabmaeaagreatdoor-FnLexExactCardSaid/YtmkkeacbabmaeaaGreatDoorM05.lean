/- The reference's token at a place is the plain one: quoted texts, words, signs, and all of it together. Condition: the text is at most 2^45 bytes long. · What the parser's one token is, plain; signs by lists. No condition. · What a token is to the parser, plain. No condition. · strconv.ParseUint of digits in base 16 and 8: their number. Condition: the text is of at most eight digits, and its number fits. · strconv.ParseUint of three digits in base 8, and as package strconv hands them on. Condition: the text is of at most eight digits, and its number fits. · The parser's quoted literals: the loop's body, its relation, what the calls answer. No condition. · A round of the loop over a literal: its end. No condition. · A round of the loop over a literal: the text's end, plain bytes, a newline, a raw backslash. No condition. · Escapes of one letter, plain. No condition. -/
import Derived.Test.YtmkkeacbabmaeaaGreatDoorM04
import Derived.Test.YtmkkeacbabmaeaaGreatDoorM03
import Derived.Test.YtmkkeacbabmaeaaGreatDoorM02
import Derived.Test.YtmkkeacbabmaeaaGreatDoorM01
import Derived.StillTailTactics
namespace Go.Proofs.YtmkkeacbabmaeaaGreatDoor
open Go.RowKit Go.PlainAid

theorem prefOf_first {s : ByteArray} {i : Nat} {p : Nat × Bool × Bool} (h : prefOf s i = some p) : bt s i = 34 ∨ bt s i = 39 ∨ bt s i = 114 ∨ bt s i = 82 ∨ bt s i = 98 ∨ bt s i = 66 := by
  rw [prefOf, prefFrom] at h
  simp only [Nat.add_zero] at h
  split at h
  · split at h
    · omega
    · split at h
      · omega
      · split at h
        · omega
        · cases h
  · cases h
theorem upperS_size (s : ByteArray) : (upperS s).size = s.size := by
  show (upperL s.data.toList).toArray.size = s.size
  simp [upperL]

set_option maxHeartbeats 1600000 in
set_option maxRecDepth 100000 in
theorem lTok_quot (s : ByteArray) (i b : Nat) (x : TokS) (path : Bool) (after : Bool) (w : World) (hs : s.size ≤ 35184372088832) (ht : TokAt w b x) (hi : i < s.size) (hp : (path && partB (bt s i)) = false) (p : Nat × Bool × Bool) (hq : prefOf s i = some p) :
    Calls Tryz.prog 19 #[.string s, .int .i64 i, .bool path, .bool after, .pointer (some ⟨b, 0, none⟩)] w (TokPost b x (tokOf s i path after) w) := by
  have hfirst := prefOf_first hq
  have n96 : ¬ bt s i = 96 := by omega
  have n46 : ¬ bt s i = 46 := by omega
  have n64 : ¬ bt s i = 64 := by omega
  have ndg : digitB (bt s i) = false := bool_false (digitB_iff _) (by omega)
  have ho : Hid (tokOf s i path after = quotTok s (i + p.1) p.2.1 p.2.2) := by show _ = _; rw [tokOf, if_neg (by omega), if_neg (fun h => by simp [h.1, h.2] at hp), if_neg n96, if_neg (by intro h; rcases h with h | h; rw [ndg] at h; cases h; exact n46 h.1), if_neg (fun h => n64 h.1), hq]
  obtain ⟨O, hO⟩ : ∃ O, tokOf s i path after = O := ⟨_, rfl⟩
  rw [hO] at ho
  rw [hO]
  clear hO
  have hf0 := ht.free 0
  have hc0 := ht.cell0
  have hf3 := ht.free 3
  have hc3 := ht.cell3
  have hib : ((i : Int) == (s.size : Int)) = false := by simp; omega
  have hb := get_bt s
  obtain ⟨c, hc⟩ : ∃ c, bt s i = c := ⟨_, rfl⟩
  have hb0 : ((s[i]'hi).toNat : Int) = c := by rw [hb i hi]; exact hc
  have hc0' : 0 ≤ c := by rw [← hc]; exact bt_nonneg s i
  have hc1' : c ≤ 255 := by rw [← hc]; exact bt_le s i
  have hlt := prefOf_lt hq
  have hpv : prefVal (prefOf s i) = .tuple #[.int .i64 (p.1 : Int), .bool p.2.1, .bool p.2.2] := by rw [hq]; rfl
  have hpre0 := Prefix_c s i w (by omega) (by omega)
  rw [hpv] at hpre0
  have hpre := Lib.hid hpre0
  rw [hc] at hp n96 n46 n64 ndg
  have e96 : (c == 96) = false := by simp [n96]
  have e46 : (c == 46) = false := by simp [n46]
  have e64 : (c == 64) = false := by simp [n64]
  have hquo0 := Quoted_c s (i + p.1) p.2.1 p.2.2 w hs hlt
  rw [Int.natCast_add] at hquo0
  have hquo := Lib.hid hquo0
  clear hb hc hfirst hq hpv hpre0 hquo0 n96 n46 n64
  obtain ⟨n, raw, bytes⟩ := p
  cases path
  all_goals
    simp only [Bool.true_and, Bool.false_and] at hp
    go_enter Tryz.func19, Tryz.ntmps19
    go_wp2_with (first | (go_at_call 25; refine (IdentPart_c _ _).mono ?_; rintro e w' ⟨rfl, rfl⟩) | (go_at_call 28; refine (Digit_c _ _).mono ?_; rintro e w' ⟨rfl, rfl⟩) | (go_at_call 30; refine (Letter_c _ _).mono ?_; rintro e w' ⟨rfl, rfl⟩) | (go_at_call 31; refine hpre.out.mono ?_; rintro e w' ⟨rfl, rfl⟩))
    refine hquo.out.mono ?_
    intro e w' hq
    unfold quotTok at ho
    obtain ⟨r, hr⟩ : ∃ r, quotOf s (i + n) raw bytes = r := ⟨_, rfl⟩
    rw [hr] at ho hq
    clear hr hquo hpre
    cases r with
    | good v m =>
      obtain ⟨rfl, hb1⟩ := hq
      have ht1 := ht.below hb1
      have hf01 := ht1.free 0
      have hc01 := ht1.cell0
      have hf31 := ht1.free 3
      have hc31 := ht1.cell3
      cases bytes
      · go_wp2_with fail
        go_ret2
        exact tokPost_some ho.out ((ht1.setKind kString).setText _) (((Only.of_below hb1).setCell 0 _).setCell 3 _)
      · go_wp2_with fail
        go_ret2
        exact tokPost_some ho.out (((ht1.setKind kString).setText _).setKind kBytes) ((((Only.of_below hb1).setCell 0 _).setCell 3 _).setCell 0 _)
    | bad m =>
      obtain ⟨rfl, hb1⟩ := hq
      have ht1 := ht.below hb1
      have hf01 := ht1.free 0
      have hc01 := ht1.cell0
      have hf31 := ht1.free 3
      have hc31 := ht1.cell3
      cases bytes
      · go_wp2_with fail
        go_ret2
        exact tokPost_none ho.out (((Only.of_below hb1).setCell 0 _).setCell 3 _)
      · go_wp2_with fail
        go_ret2
        exact tokPost_none ho.out ((((Only.of_below hb1).setCell 0 _).setCell 3 _).setCell 0 _)

set_option maxHeartbeats 1600000 in
set_option maxRecDepth 100000 in
theorem lTok_word (s : ByteArray) (i b : Nat) (x : TokS) (path : Bool) (after : Bool) (w : World) (hs : s.size ≤ 35184372088832) (ht : TokAt w b x) (hi : i < s.size) (hp : (path && partB (bt s i)) = false) (hq : prefOf s i = none) (hlet : letterB (bt s i) = true) :
    Calls Tryz.prog 19 #[.string s, .int .i64 i, .bool path, .bool after, .pointer (some ⟨b, 0, none⟩)] w (TokPost b x (tokOf s i path after) w) := by
  have hl := (letterB_iff _).1 hlet
  have n96 : ¬ bt s i = 96 := by omega
  have n46 : ¬ bt s i = 46 := by omega
  have n64 : ¬ bt s i = 64 := by omega
  have ndg : digitB (bt s i) = false := bool_false (digitB_iff _) (by omega)
  have ho : Hid (tokOf s i path after = some (wordTok s i)) := by show _ = _; rw [tokOf, if_neg (by omega), if_neg (fun h => by simp [h.1, h.2] at hp), if_neg n96, if_neg (by intro h; rcases h with h | h; rw [ndg] at h; cases h; exact n46 h.1), if_neg (fun h => n64 h.1), hq]; simp only []; rw [if_pos hlet]
  obtain ⟨O, hO⟩ : ∃ O, tokOf s i path after = O := ⟨_, rfl⟩
  rw [hO] at ho
  rw [hO]
  clear hO
  have hf0 := ht.free 0
  have hc0 := ht.cell0
  have hf3 := ht.free 3
  have hc3 := ht.cell3
  have hib : ((i : Int) == (s.size : Int)) = false := by simp; omega
  have hb := get_bt s
  obtain ⟨c, hc⟩ : ∃ c, bt s i = c := ⟨_, rfl⟩
  have hb0 : ((s[i]'hi).toNat : Int) = c := by rw [hb i hi]; exact hc
  have hc0' : 0 ≤ c := by rw [← hc]; exact bt_nonneg s i
  have hc1' : c ≤ 255 := by rw [← hc]; exact bt_le s i
  have hpv : prefVal (prefOf s i) = .tuple #[.int .i64 (-1), .bool false, .bool false] := by rw [hq]; rfl
  have hpre0 := Prefix_c s i w (by omega) (by omega)
  rw [hpv] at hpre0
  have hpre := Lib.hid hpre0
  rw [hc] at hp n96 n46 n64 ndg hlet
  have e96 : (c == 96) = false := by simp [n96]
  have e46 : (c == 46) = false := by simp [n46]
  have e64 : (c == 64) = false := by simp [n64]
  have hp1 := partsEnd_ge s i
  have hp2 := partsEnd_le s i (by omega)
  have hpe := lParts_c s i w (by omega) (by omega)
  unfold wordTok at ho
  obtain ⟨e0, he0⟩ : ∃ e0, partsEnd s i = e0 := ⟨_, rfl⟩
  rw [he0] at hp1 hp2 ho hpe
  have Hpe := Lib.hid hpe
  clear hb hc hl hq hpv hpre0 n96 n46 n64 he0 hpe
  have hwz : (s.extract i e0).size ≤ s.size := by rw [ByteArray.size_extract]; omega
  have hup0 := Upper_c (s.extract i e0) w (by omega)
  have hkw0 := fun W => Keyword_c (upperS (s.extract i e0)) W (by rw [upperS_size]; omega)
  have hup := Lib.hid hup0
  have hkw := Lib.hid hkw0
  clear hup0 hkw0
  cases path
  all_goals
    simp only [Bool.true_and, Bool.false_and] at hp
    go_enter Tryz.func19, Tryz.ntmps19
    go_wp2_with (first | (go_at_call 25; refine (IdentPart_c _ _).mono ?_; rintro e w' ⟨rfl, rfl⟩) | (go_at_call 28; refine (Digit_c _ _).mono ?_; rintro e w' ⟨rfl, rfl⟩) | (go_at_call 30; refine (Letter_c _ _).mono ?_; rintro e w' ⟨rfl, rfl⟩) | (go_at_call 31; refine hpre.out.mono ?_; rintro e w' ⟨rfl, rfl⟩) | (go_at_call 26; refine Hpe.out.mono ?_; rintro e w' ⟨rfl, rfl⟩))
    refine hup.out.mono ?_
    rintro e w' ⟨rfl, hb1⟩
    have ht1 := ht.below hb1
    have hf01 := ht1.free 0
    have hc01 := ht1.cell0
    have hf31 := ht1.free 3
    have hc31 := ht1.cell3
    clear hpre Hpe
    have hus : (⟨(upperL (s.extract i e0).data.toList).toArray⟩ : ByteArray) = upperS (s.extract i e0) := rfl
    rw [hus]
    obtain ⟨u, hu⟩ : ∃ u, upperS (s.extract i e0) = u := ⟨_, rfl⟩
    rw [hu] at ho hkw
    rw [hu]
    clear hu hus hup
    go_wp2_with fail
    refine (hkw.out _).mono ?_
    rintro e w'' ⟨rfl, rfl⟩
    cases hk : kwB u
    · have ho2 : Hid (O = some ⟨kIdent, some (s.extract i e0), none, e0⟩) := by show _ = _; rw [ho.out, hk]; rfl
      go_wp2_with fail
      go_ret2
      exact tokPost_some ho2.out ((ht1.setKind kIdent).setText _) (((Only.of_below hb1).setCell 0 _).setCell 3 _)
    · have ho2 : Hid (O = some ⟨u, none, none, e0⟩) := by show _ = _; rw [ho.out, hk]; rfl
      go_wp2_with fail
      go_ret2
      exact tokPost_some ho2.out (ht1.setKind u) ((Only.of_below hb1).setCell 0 _)

set_option maxHeartbeats 1600000 in
set_option maxRecDepth 100000 in
theorem lTok_sign (s : ByteArray) (i b : Nat) (x : TokS) (path : Bool) (after : Bool) (w : World) (hs : s.size ≤ 35184372088832) (ht : TokAt w b x) (hi : i < s.size) (hp : (path && partB (bt s i)) = false) (hq : prefOf s i = none) (hlet : letterB (bt s i) = false) (n96 : ¬ bt s i = 96) (ndg : digitB (bt s i) = false) (ndot : ¬ dotNum s i after) (nat : ¬ atName s i) :
    Calls Tryz.prog 19 #[.string s, .int .i64 i, .bool path, .bool after, .pointer (some ⟨b, 0, none⟩)] w (TokPost b x (tokOf s i path after) w) := by
  have ho : Hid (tokOf s i path after = signTok s i) := by show _ = _; rw [tokOf, if_neg (by omega), if_neg (fun h => by simp [h.1, h.2] at hp), if_neg n96, if_neg (by intro h; rcases h with h | h; rw [ndg] at h; cases h; exact ndot h), if_neg nat, hq]; simp only []; rw [if_neg (by simp [hlet])]
  obtain ⟨O, hO⟩ : ∃ O, tokOf s i path after = O := ⟨_, rfl⟩
  rw [hO] at ho
  rw [hO]
  clear hO
  have hf0 := ht.free 0
  have hc0 := ht.cell0
  have hf3 := ht.free 3
  have hc3 := ht.cell3
  have hib : ((i : Int) == (s.size : Int)) = false := by simp; omega
  have hb := get_bt s
  obtain ⟨c, hc⟩ : ∃ c, bt s i = c := ⟨_, rfl⟩
  have hb0 : ((s[i]'hi).toNat : Int) = c := by rw [hb i hi]; exact hc
  have hc0' : 0 ≤ c := by rw [← hc]; exact bt_nonneg s i
  have hc1' : c ≤ 255 := by rw [← hc]; exact bt_le s i
  have hpv : prefVal (prefOf s i) = .tuple #[.int .i64 (-1), .bool false, .bool false] := by rw [hq]; rfl
  have hpre0 := Prefix_c s i w (by omega) (by omega)
  rw [hpv] at hpre0
  have hpre := Lib.hid hpre0
  have hsg := Lib.hid (lSign_c s i b x w (by omega) hi ht)
  have hways : ((c == 46) = false ∧ (c == 64) = false) ∨ ((c == 46) = true ∧ (c == 64) = false ∧ (after = true ∨ (after = false ∧ ¬ i + 1 < s.size) ∨ (after = false ∧ i + 1 < s.size ∧ digitB (bt s (i + 1)) = false))) ∨
      ((c == 46) = false ∧ (c == 64) = true ∧ (¬ i + 1 < s.size ∨ (i + 1 < s.size ∧ letterB (bt s (i + 1)) = false))) := by
    by_cases e : c = 46
    · right; left
      refine ⟨by simp [e], by simp [e], ?_⟩
      cases after
      · right
        by_cases h1 : i + 1 < s.size
        · right
          refine ⟨rfl, h1, ?_⟩
          cases h2 : digitB (bt s (i + 1))
          · rfl
          · exact absurd ⟨by rw [hc, e], rfl, h1, h2⟩ ndot
        · left; exact ⟨rfl, h1⟩
      · left; rfl
    · by_cases e2 : c = 64
      · right; right
        refine ⟨by simp [e], by simp [e2], ?_⟩
        by_cases h1 : i + 1 < s.size
        · right
          refine ⟨h1, ?_⟩
          cases h2 : letterB (bt s (i + 1))
          · rfl
          · exact absurd ⟨by rw [hc, e2], h1, h2⟩ nat
        · left; exact h1
      · left; exact ⟨by simp [e], by simp [e2]⟩
  unfold signTok at ho
  obtain ⟨sg, hsgo⟩ : ∃ sg, signOf s i = sg := ⟨_, rfl⟩
  rw [hsgo] at ho hsg
  rw [hc] at hp n96 ndg hlet
  have e96 : (c == 96) = false := by simp [n96]
  have hnx : ∀ (d : Int), bt s (i + 1) = d → ∀ h : i + 1 < s.size, ((s[i + 1]'h).toNat : Int) = d := fun d hd h => by rw [hb (i + 1) h]; exact hd
  obtain ⟨d, hd⟩ : ∃ d, bt s (i + 1) = d := ⟨_, rfl⟩
  have Hnx := Lib.hid (hnx d hd)
  rw [hd] at hways
  clear ndot nat hc hq hpv hpre0 n96 hb hsgo hnx hd
  rcases hways with ⟨h46, h64⟩ | ⟨h46, h64, ha | ⟨ha, hn⟩ | ⟨ha, hl1, hn⟩⟩ | ⟨h46, h64, hn | ⟨hl1, hn⟩⟩
  · cases path
    all_goals
      simp only [Bool.true_and, Bool.false_and] at hp
      go_enter Tryz.func19, Tryz.ntmps19
      go_wp2_with (first | (go_at_call 25; refine (IdentPart_c _ _).mono ?_; rintro e w' ⟨rfl, rfl⟩) | (go_at_call 28; refine (Digit_c _ _).mono ?_; rintro e w' ⟨rfl, rfl⟩) | (go_at_call 30; refine (Letter_c _ _).mono ?_; rintro e w' ⟨rfl, rfl⟩) | (go_at_call 31; refine hpre.out.mono ?_; rintro e w' ⟨rfl, rfl⟩))
      refine hsg.out.mono ?_
      intro e w' hp2
      clear hpre hsg Hnx
      cases sg with
      | none =>
        obtain ⟨rfl, _, hw2⟩ := hp2
        go_wp2_with fail
        go_ret2
        exact tokPost_none ho.out hw2
      | some p =>
        obtain ⟨rfl, ht2, hw2⟩ := hp2
        go_wp2_with fail
        go_ret2
        exact tokPost_some ho.out ht2 hw2
  · subst ha
    cases path
    all_goals
      simp only [Bool.true_and, Bool.false_and] at hp
      go_enter Tryz.func19, Tryz.ntmps19
      go_wp2_with (first | (go_at_call 25; refine (IdentPart_c _ _).mono ?_; rintro e w' ⟨rfl, rfl⟩) | (go_at_call 28; refine (Digit_c _ _).mono ?_; rintro e w' ⟨rfl, rfl⟩) | (go_at_call 30; refine (Letter_c _ _).mono ?_; rintro e w' ⟨rfl, rfl⟩) | (go_at_call 31; refine hpre.out.mono ?_; rintro e w' ⟨rfl, rfl⟩))
      refine hsg.out.mono ?_
      intro e w' hp2
      clear hpre hsg Hnx
      cases sg with
      | none =>
        obtain ⟨rfl, _, hw2⟩ := hp2
        go_wp2_with fail
        go_ret2
        exact tokPost_none ho.out hw2
      | some p =>
        obtain ⟨rfl, ht2, hw2⟩ := hp2
        go_wp2_with fail
        go_ret2
        exact tokPost_some ho.out ht2 hw2
  · subst ha
    cases path
    all_goals
      simp only [Bool.true_and, Bool.false_and] at hp
      go_enter Tryz.func19, Tryz.ntmps19
      go_wp2_with (first | (go_at_call 25; refine (IdentPart_c _ _).mono ?_; rintro e w' ⟨rfl, rfl⟩) | (go_at_call 28; refine (Digit_c _ _).mono ?_; rintro e w' ⟨rfl, rfl⟩) | (go_at_call 30; refine (Letter_c _ _).mono ?_; rintro e w' ⟨rfl, rfl⟩) | (go_at_call 31; refine hpre.out.mono ?_; rintro e w' ⟨rfl, rfl⟩))
      refine hsg.out.mono ?_
      intro e w' hp2
      clear hpre hsg Hnx
      cases sg with
      | none =>
        obtain ⟨rfl, _, hw2⟩ := hp2
        go_wp2_with fail
        go_ret2
        exact tokPost_none ho.out hw2
      | some p =>
        obtain ⟨rfl, ht2, hw2⟩ := hp2
        go_wp2_with fail
        go_ret2
        exact tokPost_some ho.out ht2 hw2
  · subst ha
    have hb1 := Hnx.out hl1
    cases path
    all_goals
      simp only [Bool.true_and, Bool.false_and] at hp
      go_enter Tryz.func19, Tryz.ntmps19
      go_wp2_with (first | (go_at_call 25; refine (IdentPart_c _ _).mono ?_; rintro e w' ⟨rfl, rfl⟩) | (go_at_call 28; refine (Digit_c _ _).mono ?_; rintro e w' ⟨rfl, rfl⟩) | (go_at_call 30; refine (Letter_c _ _).mono ?_; rintro e w' ⟨rfl, rfl⟩) | (go_at_call 31; refine hpre.out.mono ?_; rintro e w' ⟨rfl, rfl⟩))
      refine hsg.out.mono ?_
      intro e w' hp2
      clear hpre hsg Hnx
      cases sg with
      | none =>
        obtain ⟨rfl, _, hw2⟩ := hp2
        go_wp2_with fail
        go_ret2
        exact tokPost_none ho.out hw2
      | some p =>
        obtain ⟨rfl, ht2, hw2⟩ := hp2
        go_wp2_with fail
        go_ret2
        exact tokPost_some ho.out ht2 hw2
  · cases path
    all_goals
      simp only [Bool.true_and, Bool.false_and] at hp
      go_enter Tryz.func19, Tryz.ntmps19
      go_wp2_with (first | (go_at_call 25; refine (IdentPart_c _ _).mono ?_; rintro e w' ⟨rfl, rfl⟩) | (go_at_call 28; refine (Digit_c _ _).mono ?_; rintro e w' ⟨rfl, rfl⟩) | (go_at_call 30; refine (Letter_c _ _).mono ?_; rintro e w' ⟨rfl, rfl⟩) | (go_at_call 31; refine hpre.out.mono ?_; rintro e w' ⟨rfl, rfl⟩))
      refine hsg.out.mono ?_
      intro e w' hp2
      clear hpre hsg Hnx
      cases sg with
      | none =>
        obtain ⟨rfl, _, hw2⟩ := hp2
        go_wp2_with fail
        go_ret2
        exact tokPost_none ho.out hw2
      | some p =>
        obtain ⟨rfl, ht2, hw2⟩ := hp2
        go_wp2_with fail
        go_ret2
        exact tokPost_some ho.out ht2 hw2
  · have hb1 := Hnx.out hl1
    cases path
    all_goals
      simp only [Bool.true_and, Bool.false_and] at hp
      go_enter Tryz.func19, Tryz.ntmps19
      go_wp2_with (first | (go_at_call 25; refine (IdentPart_c _ _).mono ?_; rintro e w' ⟨rfl, rfl⟩) | (go_at_call 28; refine (Digit_c _ _).mono ?_; rintro e w' ⟨rfl, rfl⟩) | (go_at_call 30; refine (Letter_c _ _).mono ?_; rintro e w' ⟨rfl, rfl⟩) | (go_at_call 31; refine hpre.out.mono ?_; rintro e w' ⟨rfl, rfl⟩))
      refine hsg.out.mono ?_
      intro e w' hp2
      clear hpre hsg Hnx
      cases sg with
      | none =>
        obtain ⟨rfl, _, hw2⟩ := hp2
        go_wp2_with fail
        go_ret2
        exact tokPost_none ho.out hw2
      | some p =>
        obtain ⟨rfl, ht2, hw2⟩ := hp2
        go_wp2_with fail
        go_ret2
        exact tokPost_some ho.out ht2 hw2

/-- One token at a place. -/
theorem lToken_c (s : ByteArray) (i b : Nat) (x : TokS) (path after : Bool) (w : World) (hs : s.size ≤ 35184372088832) (ht : TokAt w b x) (hi : i ≤ s.size) :
    Calls Tryz.prog 19 #[.string s, .int .i64 i, .bool path, .bool after, .pointer (some ⟨b, 0, none⟩)] w (TokPost b x (tokOf s i path after) w) := by
  by_cases he : i = s.size
  · exact lTok_eof s i b x path after w ht he
  · have hlt : i < s.size := by omega
    cases hp : (path && partB (bt s i))
    · by_cases h96 : bt s i = 96
      · exact lTok_back s i b x path after w hs ht hlt hp h96
      · cases hd : digitB (bt s i)
        · by_cases hdot : dotNum s i after
          · have ha : after = false := hdot.2.1
            subst ha
            exact lTok_dot s i b x path w hs ht hlt hp hdot
          · by_cases hat : atName s i
            · exact lTok_at s i b x path after w hs ht hlt hp hat
            · cases hq : prefOf s i with
              | some p => exact lTok_quot s i b x path after w hs ht hlt hp p hq
              | none =>
                cases hl : letterB (bt s i)
                · exact lTok_sign s i b x path after w hs ht hlt hp hq hl h96 hd hdot hat
                · exact lTok_word s i b x path after w hs ht hlt hp hq hl
        · exact lTok_digit s i b x path after w hs ht hlt hp hd
    · simp only [Bool.and_eq_true] at hp
      obtain ⟨rfl, hp2⟩ := hp
      exact lTok_path s i b x after w hs ht hlt hp2

end Go.Proofs.YtmkkeacbabmaeaaGreatDoor
namespace Go.Proofs.YtmkkeacbabmaeaaGreatDoor
open Go.RowKit Go.PlainAid

def isDot (k : ByteArray) : Bool := k.data.toList == [46]
/-- The lexer behind a token. -/
def tokNext (x : LxS) (after : Bool) (r : TokR) : LxS := { x with kind := r.kind, text := r.text.getD x.text, base := r.base.getD x.base, pos := r.stop, dot := if isDot r.kind = true then after else x.dot }
def tokStep (x : LxS) (after : Bool) (o : Option TokR) : Option LxS := o.map (tokNext x after)
/-- What holds where a token is read. -/
structure THead (s : ByteArray) (b f i B : Nat) (x : LxS) (w : World) : Prop where
  env : Env s b f B w
  lx : LxAt w b f x
  pos : x.pos = i
  le : i ≤ s.size
  ok : ∀ k, k < s.size → okB (bt s k) = true
  esc : ∀ k, k < s.size → bt s k = 92 → k + 10 ≤ s.size ∧ bt s (k + 1) ≠ 10
section
variable {s : ByteArray} {b f i B : Nat} {x : LxS} {w : World}
theorem THead.dn (h : THead s b f i B x w) (n : Nat) : THead s b f i B x (w.drewN n) := ⟨h.env.only ((Only.refl b w).dn n), h.lx.below (below_dn _ _ _), h.pos, h.le, h.ok, h.esc⟩
theorem THead.eof (h : THead s b f i B x w) (n : Nat) :
    Calls Tryz.prog 46 #[.pointer (some ⟨b, 0, none⟩)] (w.drewN n) fun e w' => e = .returned (.bool (decide (s.size ≤ i))) ∧ ∃ m, w' = w.drewN m :=
  (eof_c (h.dn n).le (h.dn n).lx (h.dn n).env.file h.pos).mono fun e w' k => ⟨k.1, by obtain ⟨m, hm⟩ := k.2; exact ⟨n + m, hm.trans (World.drewN_drewN _ _ _)⟩⟩
theorem THead.peekOk (h : THead s b f i B x w) (n k : Nat) (K : Int) (hK : K = k) (hk : k ≤ 35184372088832) :
    Calls Tryz.prog 52 #[.pointer (some ⟨b, 0, none⟩), .int .i64 K] (w.drewN n) fun e w' => e = .returned (.bool (decide (i + k < s.size))) ∧ ∃ m, w' = w.drewN m := by
  subst hK
  have := h.env.small
  exact (peekOk_c k (by omega) hk h.le (h.dn n).lx (h.dn n).env.file h.pos).mono fun e w' k => ⟨k.1, by obtain ⟨m, hm⟩ := k.2; exact ⟨n + m, hm.trans (World.drewN_drewN _ _ _)⟩⟩
theorem THead.peekIs (h : THead s b f i B x w) (n k : Nat) (K c : Int) (hK : K = k) (hk : k ≤ 35184372088832) :
    Calls Tryz.prog 50 #[.pointer (some ⟨b, 0, none⟩), .int .i64 K, .int .u8 c] (w.drewN n) fun e w' => e = .returned (.bool (decide (i + k < s.size ∧ bt s (i + k) = c))) ∧ ∃ m, w' = w.drewN m := by
  subst hK
  have := h.env.small
  exact (peekIs_c k c (by omega) hk h.le (h.dn n).lx (h.dn n).env.file h.pos).mono fun e w' k => ⟨k.1, by obtain ⟨m, hm⟩ := k.2; exact ⟨n + m, hm.trans (World.drewN_drewN _ _ _)⟩⟩
theorem THead.peek (h : THead s b f i B x w) (n k : Nat) (K : Int) (hK : K = k) (hk : i + k < s.size) :
    Calls Tryz.prog 54 #[.pointer (some ⟨b, 0, none⟩), .int .i64 K] (w.drewN n) fun e w' => e = .returned (.int .u8 (bt s (i + k))) ∧ ∃ m, w' = w.drewN m := by
  subst hK
  have := h.env.small
  exact (peek_c k (by omega) (h.dn n).lx (h.dn n).env.file h.pos hk).mono fun e w' k => ⟨k.1, by obtain ⟨m, hm⟩ := k.2; exact ⟨n + m, hm.trans (World.drewN_drewN _ _ _)⟩⟩
theorem THead.slice (h : THead s b f i B x w) (n a e : Nat) (A E : Int) (hA : A = a) (hE : E = e) (ha : i + a ≤ s.size) (hae : a ≤ e) (he : e ≤ 35184372088832) :
    Calls Tryz.prog 65 #[.pointer (some ⟨b, 0, none⟩), .int .i64 A, .int .i64 E] (w.drewN n) fun r w' => r = .returned (.string (s.extract (i + a) (i + e))) ∧ ∃ m, w' = w.drewN m := by
  subst hA; subst hE
  have := h.env.small
  exact (slice_c a e (by omega) ha hae he (h.dn n).lx (h.dn n).env.file h.pos).mono fun e w' k => ⟨k.1, by obtain ⟨m, hm⟩ := k.2; exact ⟨n + m, hm.trans (World.drewN_drewN _ _ _)⟩⟩
theorem THead.skipN (h : THead s b f i B x w) (n k : Nat) (K : Int) (hK : K = k) (hk : i + k ≤ s.size) :
    Calls Tryz.prog 49 #[.pointer (some ⟨b, 0, none⟩), .int .i64 K] (w.drewN n) fun e w' => e = .returned (.tuple #[]) ∧ w' = (w.drewN n).setCell ⟨b, 9, none⟩ (.int .i64 ((i + k : Nat) : Int)) := by
  subst hK
  have := h.env.small
  exact skipN_c (s := s) k (by omega) hk (h.dn n).lx h.pos
theorem THead.skip (h : THead s b f i B x w) (n : Nat) (hi : i < s.size) :
    Calls Tryz.prog 55 #[.pointer (some ⟨b, 0, none⟩)] (w.drewN n) fun e w' => e = .returned (.int .u8 (bt s i)) ∧ ∃ m, w' = (w.drewN m).setCell ⟨b, 9, none⟩ (.int .i64 ((i + 1 : Nat) : Int)) := by
  have := h.env.small
  exact (skip_c (by omega) hi (h.dn n).lx (h.dn n).env.file h.pos).mono fun e w' k => ⟨k.1, by obtain ⟨m, hm⟩ := k.2; exact ⟨n + m, by rw [hm, World.drewN_drewN]⟩⟩
theorem THead.number (h : THead s b f i B x w) (n : Nat) (hi : i < s.size) :
    Calls Tryz.prog 58 #[.pointer (some ⟨b, 0, none⟩), .bool false] (w.drewN n) (Step b f x B (numStep x (numOf s i)) (w.drewN n)) :=
  have hd := (h.dn n).env
  consumeNumber_c s b f i B x _ h.env.small hi (h.dn n).lx h.pos hd.file hd.bf hd.bb hd.bw hd.tab
theorem Step.shape {b f : Nat} {x : LxS} {B : Nat} {o : Option LxS} {w : World} {e : Ending} {w' : World} (h : Step b f x B o w e w') :
    e = .returned (.tuple #[]) ∨ ∃ v, e = .panicked [{ v := .iface 57 v, recovered := false }] := by
  cases o with
  | some y => exact Or.inl h.1
  | none => obtain ⟨v, p, h1, _⟩ := h; exact Or.inr ⟨v, h1⟩
theorem Step.low {b f : Nat} {x y : LxS} {B : Nat} {o : Option LxS} {w w1 : World} {e : Ending} {w' : World} (h : Step b f x B o w1 e w') (hO : Only b w w1) {f2 : Nat} {x2 : LxS} (hl : LxAt w b f2 x2) (hb : B ≤ b) (hw : B ≤ w.heap.size) : Step b f y B o w e w' := by
  cases o with
  | some z => exact ⟨h.1, h.2.1, hO.trans h.2.2⟩
  | none => exact Thrown.from hO hl hb hw h
theorem step_tok {after : Bool} {o : Option TokR} {r : TokR} {y : LxS} {w' : World} (ho : o = some r) (hy : tokNext x after r = y) (hl : LxAt w' b f y) (hO : Only b w w') : Step b f x B (tokStep x after o) w (.returned (.tuple #[])) w' := by
  subst ho; subst hy
  exact ⟨rfl, hl, hO⟩
end

/-! Signs. -/
def symL (s : ByteArray) (i : Nat) : List (UInt8 × UInt8) → Option (ByteArray × Nat)
  | [] => none
  | (a, b) :: r => if i + 1 < s.size ∧ bt s i = (a.toNat : Int) ∧ bt s (i + 1) = (b.toNat : Int) then some (⟨#[a, b]⟩, i + 2) else symL s i r
def sigL (s : ByteArray) (i : Nat) : List UInt8 → Option (ByteArray × Nat)
  | [] => none
  | a :: r => if (a.toNat : Int) = bt s i then some (⟨#[a]⟩, i + 1) else sigL s i r
theorem symL_eq (s : ByteArray) (i : Nat) : symFrom symText s i 0 = symL s i [(60, 60), (62, 62), (60, 61), (62, 61), (60, 62), (33, 61), (124, 124), (61, 62), (45, 62), (124, 62), (64, 64)] := by
  have key : ∀ (k : Nat) (r : List (UInt8 × UInt8)) (a b : UInt8), k < 22 → symText.extract k (k + 2) = ⟨#[a, b]⟩ → symFrom symText s i (k + 2) = symL s i r → symFrom symText s i k = symL s i ((a, b) :: r) := by
    intro k r a b hk he hr
    have hst := starts_two s i a b
    rw [symL]
    by_cases h : i + 1 < s.size ∧ bt s i = (a.toNat : Int) ∧ bt s (i + 1) = (b.toNat : Int)
    · rw [if_pos h, symFrom_hit hk (by rw [he, hst]; exact decide_eq_true h), he]
    · rw [if_neg h, symFrom_go hk (by rw [he, hst]; exact decide_eq_false h), hr]
  exact key 0 _ 60 60 (by decide) rfl (key 2 _ 62 62 (by decide) rfl (key 4 _ 60 61 (by decide) rfl (key 6 _ 62 61 (by decide) rfl (key 8 _ 60 62 (by decide) rfl (key 10 _ 33 61 (by decide) rfl (key 12 _ 124 124 (by decide) rfl (key 14 _ 61 62 (by decide) rfl (key 16 _ 45 62 (by decide) rfl (key 18 _ 124 62 (by decide) rfl (key 20 [] 64 64 (by decide) rfl (symFrom_end (by decide))))))))))))
theorem sigL_eq (s : ByteArray) (i : Nat) : sigFrom sigText s i 0 = sigL s i [40, 41, 91, 93, 123, 125, 44, 59, 58, 46, 64, 61, 60, 62, 43, 45, 42, 47, 38, 94, 37, 124, 126, 36, 63, 92] := by
  have key : ∀ (k : Nat) (r : List UInt8) (a : UInt8), k < 26 → sigText.extract k (k + 1) = ⟨#[a]⟩ → bt sigText k = (a.toNat : Int) → sigFrom sigText s i (k + 1) = sigL s i r → sigFrom sigText s i k = sigL s i (a :: r) := by
    intro k r a hk he hb hr
    rw [sigL]
    by_cases h : (a.toNat : Int) = bt s i
    · rw [if_pos h, sigFrom_hit hk (by rw [hb]; exact h), he]
    · rw [if_neg h, sigFrom_go hk (by rw [hb]; exact h), hr]
  exact key 0 _ 40 (by decide) rfl (by decide) (key 1 _ 41 (by decide) rfl (by decide) (key 2 _ 91 (by decide) rfl (by decide) (key 3 _ 93 (by decide) rfl (by decide) (key 4 _ 123 (by decide) rfl (by decide) (key 5 _ 125 (by decide) rfl (by decide) (key 6 _ 44 (by decide) rfl (by decide) (key 7 _ 59 (by decide) rfl (by decide) (key 8 _ 58 (by decide) rfl (by decide) (key 9 _ 46 (by decide) rfl (by decide) (key 10 _ 64 (by decide) rfl (by decide) (key 11 _ 61 (by decide) rfl (by decide) (key 12 _ 60 (by decide) rfl (by decide) (key 13 _ 62 (by decide) rfl (by decide) (key 14 _ 43 (by decide) rfl (by decide) (key 15 _ 45 (by decide) rfl (by decide) (key 16 _ 42 (by decide) rfl (by decide) (key 17 _ 47 (by decide) rfl (by decide) (key 18 _ 38 (by decide) rfl (by decide) (key 19 _ 94 (by decide) rfl (by decide) (key 20 _ 37 (by decide) rfl (by decide) (key 21 _ 124 (by decide) rfl (by decide) (key 22 _ 126 (by decide) rfl (by decide) (key 23 _ 36 (by decide) rfl (by decide) (key 24 _ 63 (by decide) rfl (by decide) (key 25 _ 92 (by decide) rfl (by decide) (sigFrom_end (by decide)))))))))))))))))))))))))))
/-- A sign where nothing else can stand. -/
theorem tok_sign {s : ByteArray} {i : Nat} {after : Bool} (hi : i < s.size) (h96 : bt s i ≠ 96) (hd : digitB (bt s i) = false) (hdot : ¬ dotNum s i after) (hat : ¬ atName s i) (hp : ¬ (bt s i = 34 ∨ bt s i = 39 ∨ bt s i = 114 ∨ bt s i = 82 ∨ bt s i = 98 ∨ bt s i = 66)) (hl : letterB (bt s i) = false) :
    tokOf s i false after = (signOf s i).map fun p => ⟨p.1, none, none, p.2⟩ := by
  unfold tokOf
  rw [if_neg (by omega), if_neg (fun k => by cases k.1), if_neg h96, if_neg (by rw [hd]; simp [hdot]), if_neg hat]
  have hpn : prefOf s i = none := by
    cases e : prefOf s i with
    | none => rfl
    | some p => exact absurd (prefOf_first e) hp
  rw [hpn]
  simp only []
  rw [if_neg (by simp [hl])]
  rfl
theorem signOf_eq (s : ByteArray) (i : Nat) : signOf s i = match symL s i [(60, 60), (62, 62), (60, 61), (62, 61), (60, 62), (33, 61), (124, 124), (61, 62), (45, 62), (124, 62), (64, 64)] with
    | some p => some p
    | none => sigL s i [40, 41, 91, 93, 123, 125, 44, 59, 58, 46, 64, 61, 60, 62, 43, 45, 42, 47, 38, 94, 37, 124, 126, 36, 63, 92] := by
  rw [← symL_eq, ← sigL_eq]
  rfl
end Go.Proofs.YtmkkeacbabmaeaaGreatDoor
namespace Go.Proofs.YtmkkeacbabmaeaaGreatDoor
open Go.RowKit Go.PlainAid

theorem one_kind (w : World) (c : UInt8) :
    (convert 89 41 (.slice (some ⟨w.heap.size, 0, none⟩) 1 1)).run Tryz.prog (w.alloc (.cells #[.int .u8 (c.toNat : Int)] 5)) = .ok (.string ⟨#[c]⟩) (w.alloc (.cells #[.int .u8 (c.toNat : Int)] 5)) :=
  run_convert_bytes_back (w.alloc (.cells #[.int .u8 (c.toNat : Int)] 5)) 89 41 5 ⟨w.heap.size, 0, none⟩ 1 [c] Tryz.underlying89 Tryz.underlying5 Tryz.underlying41 (fun j hj => by
    obtain rfl : j = 0 := by simp at hj; omega
    show (w.alloc (.cells #[.int .u8 (c.toNat : Int)] 5)).cell? ⟨w.heap.size, 0, none⟩ = _
    rw [World.cell?_alloc_mark]; rfl)
theorem THead.eof0 {s : ByteArray} {b f i B : Nat} {x : LxS} {w : World} (h : THead s b f i B x w) :
    Calls Tryz.prog 46 #[.pointer (some ⟨b, 0, none⟩)] w fun e w' => e = .returned (.bool (decide (s.size ≤ i))) ∧ ∃ m, w' = w.drewN m :=
  eof_c h.le h.lx h.env.file h.pos
theorem expPart_base {s : ByteArray} {e : Nat} {fl : Bool} {b : Int} (hb : fl = true → b = 0) (h : (expPart s e fl b).float = true) : (expPart s e fl b).base = 0 := by
  unfold expPart at *
  split at h
  · split at h
    · rename_i h1 h2
      rw [if_pos h1, if_pos h2]
    · rename_i h1 h2
      rw [if_pos h1, if_neg h2]
      exact hb h
  · rename_i h1
    rw [if_neg h1]
    exact hb h
theorem numOf_base {s : ByteArray} {i : Nat} (h : (numOf s i).float = true) : (numOf s i).base = 0 := by
  unfold numOf at *
  split at h
  · cases h
  · rename_i h1
    rw [if_neg h1]
    split at h
    · rename_i h2
      rw [if_pos h2]
      exact expPart_base (fun _ => rfl) h
    · rename_i h2
      rw [if_neg h2]
      exact expPart_base (fun h => by cases h) h
theorem tok_num {s : ByteArray} {i : Nat} {after : Bool} (hi : i < s.size) (h96 : bt s i ≠ 96) (hd : digitB (bt s i) = true ∨ dotNum s i after) : tokOf s i false after = numTok s i := by
  unfold tokOf
  rw [if_neg (by omega), if_neg (fun k => by cases k.1), if_neg h96, if_pos hd]
theorem num_step {s : ByteArray} {i : Nat} {x : LxS} {after : Bool} (hb : x.base = 0) : tokStep x after (numTok s i) = numStep x (numOf s i) := by
  unfold numTok numStep
  split
  · cases hf : (numOf s i).float with
    | true => simp [tokStep, tokNext, numKind, kFloat, isDot, numOf_base hf, hb]
    | false => simp [tokStep, tokNext, numKind, kInt, isDot]
  · rfl
end Go.Proofs.YtmkkeacbabmaeaaGreatDoor
namespace Go.Proofs.YtmkkeacbabmaeaaGreatDoor
open Go.RowKit Go.PlainAid

theorem or32 : ∀ n : Nat, n < 256 → ((97 ≤ n ∧ n ≤ 102) → (n ||| 32) = n) ∧ ((65 ≤ n ∧ n ≤ 70) → (n ||| 32) = n + 32) := by decide +kernel
theorem lower_c (c : Int) (w : World) (h : (97 ≤ c ∧ c ≤ 102) ∨ (65 ≤ c ∧ c ≤ 70)) :
    Calls Tryz.prog 94 #[.int .u8 c] w fun e w' => e = .returned (.int .u8 (87 + hexV c)) ∧ w = w' := by
  obtain ⟨n, rfl⟩ : ∃ n : Nat, c = n := ⟨c.toNat, by omega⟩
  have ho := u8_or (n : Int) 32 (by omega) (by omega) (by decide) (by decide)
  have h32 := or32 n (by omega)
  have e1 : ((n : Int).toNat ||| (32 : Int).toNat) = n ||| 32 := rfl
  rw [e1] at ho
  have hv : ((n ||| 32 : Nat) : Int) = 87 + hexV (n : Int) := by
    unfold hexV
    rcases h with h | h
    · rw [h32.1 (by omega), if_neg (by omega), if_pos h]; omega
    · rw [h32.2 (by omega), if_neg (by omega), if_neg (by omega), if_pos h]; omega
  rw [hv] at ho
  clear hv h32 e1 h
  go_enter Tryz.func94, Tryz.ntmps94
  go_wp2
  go_ret
  exact ⟨rfl, rfl⟩

theorem hexVal_ge (s : ByteArray) : ∀ (n i : Nat) (a v : Int), hexVal s n i a = some v → 0 ≤ a → a ≤ v
  | 0, i, a, v, h, _ => by cases h; exact Int.le_refl _
  | n + 1, i, a, v, h, h0 => by
    rw [hexVal] at h
    split at h
    · rename_i hd
      have := hexVal_ge s n (i + 1) _ v h (by omega)
      omega
    · cases h
theorem hexVal_digit {s : ByteArray} {n i : Nat} {a v : Int} (h : hexVal s (n + 1) i a = some v) : 0 ≤ hexV (bt s i) ∧ hexVal s n (i + 1) (16 * a + hexV (bt s i)) = some v := by
  rw [hexVal] at h
  split at h
  · exact ⟨by assumption, h⟩
  · cases h
theorem hexV_cases (c : Int) (h : 0 ≤ hexV c) : (48 ≤ c ∧ c ≤ 57 ∧ hexV c = c - 48) ∨ (((97 ≤ c ∧ c ≤ 102) ∨ (65 ≤ c ∧ c ≤ 70)) ∧ 10 ≤ hexV c ∧ hexV c ≤ 15 ∧ 65 ≤ c ∧ c ≤ 102) := by
  unfold hexV at *
  split at h
  · rename_i h1; left; rw [if_pos h1]; omega
  · rename_i h1
    right
    split at h
    · rename_i h2; rw [if_neg h1, if_pos h2]; omega
    · rename_i h2
      split at h
      · rename_i h3; rw [if_neg h1, if_neg h2, if_pos h3]; omega
      · omega

set_option maxHeartbeats 4000000 in
set_option maxRecDepth 100000 in
theorem parse16_c (t : ByteArray) (bits v : Int) (w : World) (hbits : bits = 8 ∧ v ≤ 255 ∨ bits = 32 ∧ v ≤ 4294967295) (h0 : 0 < t.size) (ht : t.size ≤ 8) (hv : hexVal t t.size 0 0 = some v) :
    Calls Tryz.prog 85 #[.string t, .int .i64 16, .int .i64 bits] w fun e w' => e = .returned (.tuple #[.int .u64 v, .nilIface]) ∧ Below w.heap.size w w' := by
  have hcv := run_bytes_of w t
  have hne : t.toList.isEmpty = false := by
    rw [ByteArray.toList_eq]
    have e : t.size = t.data.toList.length := (Array.length_toList).symm
    cases hq : t.data.toList with
    | nil => rw [hq] at e; have e2 : t.size = 0 := e; omega
    | cons a l => rfl
  have hBA := Lib.hid (bytesAt_new w t)
  have hbw := below_bytesWorld w t
  have Hv := Lib.hid hv
  clear hv
  obtain ⟨w1, hw1⟩ : ∃ w1, Lib.bytesWorld w 5 t = w1 := ⟨_, rfl⟩
  rw [hw1] at hcv hBA hbw
  have hcell : Hid (∀ k, k < t.size → w1.cell? ⟨w.heap.size, k, none⟩ = some (.int .u8 (bt t k))) := by
    intro k hk
    have hk2 : k < t.data.toList.length := by rw [Array.length_toList]; exact hk
    rw [hBA.out.cell k hk2, ← get_bt t k hk]
    rfl
  obtain ⟨g, hg⟩ : ∃ g, w.heap.size = g := ⟨_, rfl⟩
  rw [hg] at hcv hcell
  have hL := Lib.hid (fun c W h => lower_c c W h)
  clear hBA hw1
  rcases hbits with ⟨rfl, hvm⟩ | ⟨rfl, hvm⟩
  all_goals
    go_enter Tryz.func85, Tryz.ntmps85
    go_wp2_with fail
    go_loopw [12, 13, 101] (fun v12 v13 v101 wr => ∃ (k : Nat) (n : Int), v101 = .int .i64 k ∧ k ≤ t.size ∧ v13 = .int .u64 n ∧ 0 ≤ n ∧ Hid (hexVal t (t.size - k) k n = some v) ∧ v12 = .bool false ∧ wr = w1) (fun _ _ v101 _ => t.size - (intOf v101).toNat)
    case atStart => exact ⟨0, 0, rfl, Nat.zero_le _, rfl, Int.le_refl _, Hv, rfl, rfl⟩
    case round =>
      obtain ⟨k, n, rfl, hk, rfl, hn0, Hn, rfl, rfl⟩ := hrel
      by_cases hlt : k < t.size
      · have hc := hcell.out k hlt
        obtain ⟨m, hm⟩ : ∃ m, t.size - k = m + 1 := ⟨t.size - k - 1, by omega⟩
        have h1 := Hn.out
        rw [hm] at h1
        obtain ⟨hd0, hnext⟩ := hexVal_digit h1
        have hge := hexVal_ge t m (k + 1) _ v hnext (by omega)
        have em : m = t.size - (k + 1) := by omega
        rw [em] at hnext
        obtain ⟨c, hce⟩ : ∃ c, bt t k = c := ⟨_, rfl⟩
        rw [hce] at hc hd0 hnext hge
        have hcs := hexV_cases c hd0
        obtain ⟨d, hde⟩ : ∃ d, hexV c = d := ⟨_, rfl⟩
        rw [hde] at hd0 hnext hge hcs
        have Hnext := Lib.hid hnext
        have Hde := Lib.hid hde
        clear hnext hde hce h1 em
        rcases hcs with ⟨c1, c2, c3⟩ | ⟨cc, d1, d2, c1, c2⟩
        · subst c3
          go_wp2_with fail
          refine ⟨⟨k + 1, 16 * n + (c - 48), by go_num, hlt, ?_, by omega, Hnext, rfl, trivial⟩, by simp [intOf]; omega⟩
          have e : n * 16 + (c - 48) = 16 * n + (c - 48) := by omega
          rw [e]
        · have hc95 : (c == 95) = false := by simp; omega
          have Hcc := Lib.hid cc
          clear cc
          go_wp2_with (go_at_call 94; refine (hL.out _ _ Hcc.out).mono ?_; rintro e w' ⟨rfl, rfl⟩; rw [Hde.out])
          refine ⟨⟨k + 1, 16 * n + d, by go_num, hlt, ?_, by omega, Hnext, rfl, trivial⟩, by simp [intOf]; omega⟩
          have e : n * 16 + (87 + d - 97 + 10) = 16 * n + d := by omega
          rw [e]
      · have hkz : t.size - k = 0 := by omega
        have hv2 := Hn.out
        rw [hkz] at hv2
        have hnv : n = v := Option.some.inj hv2
        subst hnv
        clear hv2
        go_wp2_with fail
        go_ret2
        exact ⟨rfl, by rw [← hg] at *; exact hbw⟩
end Go.Proofs.YtmkkeacbabmaeaaGreatDoor
namespace Go.Proofs.YtmkkeacbabmaeaaGreatDoor
open Go.RowKit Go.PlainAid

theorem octVal_ge (s : ByteArray) : ∀ (n i : Nat) (a v : Int), octVal s n i a = some v → 0 ≤ a → a ≤ v
  | 0, i, a, v, h, _ => by cases h; exact Int.le_refl _
  | n + 1, i, a, v, h, h0 => by
    rw [octVal] at h
    split at h
    · rename_i hd
      have := octVal_ge s n (i + 1) _ v h (by omega)
      omega
    · cases h
theorem octVal_digit {s : ByteArray} {n i : Nat} {a v : Int} (h : octVal s (n + 1) i a = some v) : (48 ≤ bt s i ∧ bt s i ≤ 55) ∧ octVal s n (i + 1) (8 * a + (bt s i - 48)) = some v := by
  rw [octVal] at h
  split at h
  · exact ⟨by assumption, h⟩
  · cases h

set_option maxHeartbeats 4000000 in
set_option maxRecDepth 100000 in
theorem parse8_c (t : ByteArray) (v : Int) (w : World) (hvm : v ≤ 255) (h0 : 0 < t.size) (ht : t.size ≤ 8) (hv : octVal t t.size 0 0 = some v) :
    Calls Tryz.prog 85 #[.string t, .int .i64 8, .int .i64 8] w fun e w' => e = .returned (.tuple #[.int .u64 v, .nilIface]) ∧ Below w.heap.size w w' := by
  have hcv := run_bytes_of w t
  have hne : t.toList.isEmpty = false := by
    rw [ByteArray.toList_eq]
    have e : t.size = t.data.toList.length := (Array.length_toList).symm
    cases hq : t.data.toList with
    | nil => rw [hq] at e; have e2 : t.size = 0 := e; omega
    | cons a l => rfl
  have hBA := Lib.hid (bytesAt_new w t)
  have hbw := below_bytesWorld w t
  have Hv := Lib.hid hv
  clear hv
  obtain ⟨w1, hw1⟩ : ∃ w1, Lib.bytesWorld w 5 t = w1 := ⟨_, rfl⟩
  rw [hw1] at hcv hBA hbw
  have hcell : Hid (∀ k, k < t.size → w1.cell? ⟨w.heap.size, k, none⟩ = some (.int .u8 (bt t k))) := by
    intro k hk
    have hk2 : k < t.data.toList.length := by rw [Array.length_toList]; exact hk
    rw [hBA.out.cell k hk2, ← get_bt t k hk]
    rfl
  obtain ⟨g, hg⟩ : ∃ g, w.heap.size = g := ⟨_, rfl⟩
  rw [hg] at hcv hcell
  clear hBA hw1
  go_enter Tryz.func85, Tryz.ntmps85
  go_wp2_with fail
  go_loopw [12, 13, 101] (fun v12 v13 v101 wr => ∃ (k : Nat) (n : Int), v101 = .int .i64 k ∧ k ≤ t.size ∧ v13 = .int .u64 n ∧ 0 ≤ n ∧ Hid (octVal t (t.size - k) k n = some v) ∧ v12 = .bool false ∧ wr = w1) (fun _ _ v101 _ => t.size - (intOf v101).toNat)
  case atStart => exact ⟨0, 0, rfl, Nat.zero_le _, rfl, Int.le_refl _, Hv, rfl, rfl⟩
  case round =>
    obtain ⟨k, n, rfl, hk, rfl, hn0, Hn, rfl, rfl⟩ := hrel
    by_cases hlt : k < t.size
    · have hc := hcell.out k hlt
      obtain ⟨m, hm⟩ : ∃ m, t.size - k = m + 1 := ⟨t.size - k - 1, by omega⟩
      have h1 := Hn.out
      rw [hm] at h1
      obtain ⟨⟨c1, c2⟩, hnext⟩ := octVal_digit h1
      have hge := octVal_ge t m (k + 1) _ v hnext (by omega)
      have em : m = t.size - (k + 1) := by omega
      rw [em] at hnext
      obtain ⟨c, hce⟩ : ∃ c, bt t k = c := ⟨_, rfl⟩
      rw [hce] at hc c1 c2 hnext hge
      have Hnext := Lib.hid hnext
      clear hnext hce h1 em
      go_wp2_with fail
      refine ⟨⟨k + 1, 8 * n + (c - 48), by go_num, hlt, ?_, by omega, Hnext, rfl, trivial⟩, by simp [intOf]; omega⟩
      have e : n * 8 + (c - 48) = 8 * n + (c - 48) := by omega
      rw [e]
    · have hkz : t.size - k = 0 := by omega
      have hv2 := Hn.out
      rw [hkz] at hv2
      have hnv : n = v := Option.some.inj hv2
      subst hnv
      clear hv2
      go_wp2_with fail
      go_ret2
      exact ⟨rfl, by rw [← hg] at *; exact hbw⟩

/-- As package strconv hands it on. -/
theorem parse_c (t : ByteArray) (base bits v : Int) (w : World) (h : Calls Tryz.prog 85 #[.string t, .int .i64 base, .int .i64 bits] w fun e w' => e = .returned (.tuple #[.int .u64 v, .nilIface]) ∧ Below w.heap.size w w') :
    Calls Tryz.prog 77 #[.string t, .int .i64 base, .int .i64 bits] w fun e w' => e = .returned (.tuple #[.int .u64 v, .nilIface]) ∧ Below w.heap.size w w' := by
  have H := Lib.hid h
  clear h
  go_enter Tryz.func77, Tryz.ntmps77
  go_wp2_with fail
  refine H.out.mono ?_
  rintro e w' ⟨rfl, hb⟩
  go_wp2_with fail
  go_ret2
  exact ⟨rfl, hb⟩
end Go.Proofs.YtmkkeacbabmaeaaGreatDoor
namespace Go.Proofs.YtmkkeacbabmaeaaGreatDoor
open Go.RowKit Go.PlainAid

def firstLoop : Code → Option Code
  | .loop c => some c
  | .seq a b => match firstLoop a with
    | some c => some c
    | none => firstLoop b
  | .block _ c => firstLoop c
  | .scope c => firstLoop c
  | .cond _ a b => match firstLoop a with
    | some c => some c
    | none => firstLoop b
  | _ => none
noncomputable def qBody : Code := ((Tryz.f60.body.bind firstLoop).getD .skip)

/-- The k-th of a list. -/
def nth : List Value → Nat → Value
  | [], _ => undef
  | v :: _, 0 => v
  | _ :: l, k + 1 => nth l k
/-- Slot k. -/
def sl (a : Act) (k : Nat) : Value := nth a.tmps.toList k
theorem nth_get (l : List Value) (k : Nat) : nth l k = l[k]?.getD undef := by
  induction l generalizing k with
  | nil => rfl
  | cons v l ih => cases k with
    | zero => rfl
    | succ k => exact ih k
theorem frame_eta (l : List Value) (n : Nat) (h : l.length = n) : l = (List.range n).map (nth l) := by
  apply List.ext_getElem
  · simp [h]
  · intro k h1 h2
    rw [List.getElem_map, List.getElem_range, nth_get, List.getElem?_eq_getElem h1]
    rfl

theorem okB_13 {c : Int} (h : okB c = true) : c ≠ 13 := by
  have h2 : c = 9 ∨ c = 10 ∨ (32 ≤ c ∧ c ≤ 126) := of_decide_eq_true h
  omega
/-- What holds at a round's head: the text, the lexer's block, the place, what has been gathered. -/
structure QHead (s q : ByteArray) (raw uni : Bool) (b f i B : Nat) (x : LxS) (w0 : World) (R0 : QRes) (j : Nat) (v15 : Value) (l : List UInt8) (fu : Nat) (w : World) : Prop where
  env : Env s b f B w0
  lx : LxAt w0 b f x
  pos : x.pos = i
  q13 : q.size = 1 ∨ q.size = 3
  le : i + j ≤ s.size
  own : w.ownsRow w0.heap.size 5 1 v15 l.length (Lib.byteCells l)
  len : l.length ≤ 4 * (i + j)
  low : RowKit.Below w0.heap.size w0 w
  fuel : s.size ≤ i + j + fu
  res : quotFrom s q raw (!uni) fu (i + j) l = R0
  ok : ∀ k, k < s.size → okB (bt s k) = true
  esc : ∀ k, k < s.size → bt s k = 92 → k + 10 ≤ s.size ∧ bt s (k + 1) ≠ 10

section
variable {s q : ByteArray} {raw uni : Bool} {b f i B : Nat} {x : LxS} {w0 : World} {R0 : QRes} {j : Nat} {v15 : Value} {l : List UInt8} {fu : Nat} {w : World}
theorem QHead.peekOk (h : QHead s q raw uni b f i B x w0 R0 j v15 l fu w) (W : World) (hW : RowKit.Below w0.heap.size w0 W) (k : Nat) (K : Int) (hK : K = k) (hk : k ≤ 35184372088832) :
    Calls Tryz.prog 52 #[.pointer (some ⟨b, 0, none⟩), .int .i64 K] W fun e w' => e = .returned (.bool (decide (i + k < s.size))) ∧ ∃ n, w' = W.drewN n := by
  subst hK
  have := h.env.small
  have := h.le
  exact peekOk_c k (by omega) hk (by omega) (h.lx.below hW) ((h.env.only (Only.of_below hW)).file) h.pos
theorem QHead.peek (h : QHead s q raw uni b f i B x w0 R0 j v15 l fu w) (W : World) (hW : RowKit.Below w0.heap.size w0 W) (k : Nat) (K : Int) (hK : K = k) (hk : i + k < s.size) :
    Calls Tryz.prog 54 #[.pointer (some ⟨b, 0, none⟩), .int .i64 K] W fun e w' => e = .returned (.int .u8 (bt s (i + k))) ∧ ∃ n, w' = W.drewN n := by
  subst hK
  have := h.env.small
  exact peek_c k (by omega) (h.lx.below hW) ((h.env.only (Only.of_below hW)).file) h.pos hk
theorem QHead.slice (h : QHead s q raw uni b f i B x w0 R0 j v15 l fu w) (W : World) (hW : RowKit.Below w0.heap.size w0 W) (a e : Nat) (A E : Int) (hA : A = a) (hE : E = e) (ha : i + a ≤ s.size) (hae : a ≤ e) (he : e ≤ 35184372088832) :
    Calls Tryz.prog 65 #[.pointer (some ⟨b, 0, none⟩), .int .i64 A, .int .i64 E] W fun r w' => r = .returned (.string (s.extract (i + a) (i + e))) ∧ ∃ n, w' = W.drewN n := by
  subst hA; subst hE
  have := h.env.small
  exact slice_c a e (by omega) ha hae he (h.lx.below hW) ((h.env.only (Only.of_below hW)).file) h.pos
theorem QHead.skipN (h : QHead s q raw uni b f i B x w0 R0 j v15 l fu w) (W : World) (hW : RowKit.Below w0.heap.size w0 W) (k : Nat) (K : Int) (hK : K = k) (hk : i + k ≤ s.size) :
    Calls Tryz.prog 49 #[.pointer (some ⟨b, 0, none⟩), .int .i64 K] W fun e w' => e = .returned (.tuple #[]) ∧ w' = W.setCell ⟨b, 9, none⟩ (.int .i64 ((i + k : Nat) : Int)) := by
  subst hK
  have := h.env.small
  exact skipN_c (s := s) k (by omega) hk (h.lx.below hW) h.pos
theorem QHead.cell9d (h : QHead s q raw uni b f i B x w0 R0 j v15 l fu w) (n : Nat) : World.cell? { heap := (w.drewN n).heap, tape := (w.drewN n).tape, drawn := (w.drewN n).drawn + 1, os := (w.drewN n).os, output := (w.drewN n).output } ⟨b, 9, none⟩ = some (.int .i64 i) := by
  have k := (h.lx.below (h.low.trans (below_dn _ w n))).cell9
  rw [h.pos] at k
  exact k
theorem QHead.cell9w (h : QHead s q raw uni b f i B x w0 R0 j v15 l fu w) (W : World) (hW : RowKit.Below w0.heap.size w0 W) : W.cell? ⟨b, 9, none⟩ = some (.int .i64 i) := by
  have k := (h.lx.below hW).cell9
  rw [h.pos] at k
  exact k
theorem drew_below (B : Nat) (w : World) : RowKit.Below B w { heap := w.heap, tape := w.tape, drawn := w.drawn + 1, os := w.os, output := w.output } := ⟨rfl, rfl, rfl, Nat.le_refl _, fun _ _ => rfl⟩
theorem QHead.panics (h : QHead s q raw uni b f i B x w0 R0 j v15 l fu w) (W : World) (hW : RowKit.Below w0.heap.size w0 W) (m : ByteArray) (p r : Nat) (P R : Int) (hP : P = p) (hR : R = r) (hp : p ≤ s.size) (hr : r ≤ s.size) :
    Calls Tryz.prog 74 #[.pointer (some ⟨b, 0, none⟩), .int .i64 P, .int .i64 R, .string m] W (Thrown B w0) := by
  subst hP; subst hR
  have hO := Only.of_below (b := b) hW
  have hE := h.env.only hO
  exact (panicfAt_c s m b f p r B x W h.env.small hp hr (h.lx.below hW) hE.file hE.bf hE.bw hE.tab).mono fun e w' k => k.fromB hW h.env.bw
end

/-- The loop's relation. -/
def QInv (s q name : ByteArray) (raw uni : Bool) (b f i B : Nat) (x : LxS) (w0 : World) (R0 : QRes) (a : Act) (w : World) : Prop :=
  a.tmps.toList.length = 512 ∧ a.defers = [] ∧ sl a 0 = .pointer (some ⟨b, 0, none⟩) ∧ sl a 1 = .string q ∧ sl a 2 = .bool raw ∧ sl a 3 = .bool uni ∧ sl a 4 = .string name ∧ sl a 5 = .bool false ∧ sl a 16 = .bool false ∧
    ∃ (j : Nat) (l : List UInt8) (fu : Nat), sl a 14 = .int .i64 j ∧ QHead s q raw uni b f i B x w0 R0 j (sl a 15) l fu w
def qMu (s : ByteArray) (i : Nat) (a : Act) : Nat := s.size - i - (intOf (sl a 14)).toNat

/-- What the call leaves: the literal's value, and the place behind it; or a fault. -/
def QuotPost (ident : Bool) (b f B : Nat) (x : LxS) (R0 : QRes) (w : World) (e : Ending) (w' : World) : Prop :=
  match R0 with
  | .good v n => if (ident && v.isEmpty) = true then Thrown B w e w' else e = .returned (.tuple #[.string ⟨v.toArray⟩, .bool false]) ∧ LxAt w' b f { x with pos := (n : Int) } ∧ Only b w w'
  | .bad _ => Thrown B w e w'
end Go.Proofs.YtmkkeacbabmaeaaGreatDoor
namespace Go.Proofs.YtmkkeacbabmaeaaGreatDoor
open Go.RowKit Go.PlainAid

theorem own_set_low {w : World} {B b j n : Nat} {e : TypeId} {v y : Value} {xs : List Value} (h : w.ownsRow B e 1 v n xs) (hb : b < B) : (w.setCell ⟨b, j, none⟩ y).ownsRow B e 1 v n xs :=
  h.kept (row := some b) ⟨rfl, rfl, rfl, by simp [World.setCell], fun k _ hk => RowKit.Below.heap_setCell _ _ _ _ (fun e => hk (by rw [e]))⟩ (Or.inr (fun e => by have := (h.lt b e).1; omega))
set_option maxHeartbeats 8000000 in
set_option maxRecDepth 1000000 in
theorem q_stopnil (g : Nat → Value) (s q name : ByteArray) (raw uni : Bool) (b f i j B fu : Nat) (v15 : Value) (l : List UInt8) (x : LxS) (w w0 : World) (R0 : QRes) (Q0 : Exit → Act → World → Prop) (h : QHead s q raw uni b f i B x w0 R0 j v15 l fu w)
    (hlt : i + j < s.size) (hst : startsB s (i + j) q = true) (ident : Bool) (hid : (name.toList == [105, 100, 101, 110, 116, 105, 102, 105, 101, 114]) = ident) (hv : v15 = .slice none 0 0) (hl : l = []) (hi : ident = false) (hret : ∀ a' w', a'.defers = [] → sl a' 12 = .string ⟨l.toArray⟩ → sl a' 13 = .bool false → LxAt w' b f { x with pos := ((i + (j + q.size) : Nat) : Int) } → Only b w0 w' → Q0 .ret a' w') :
    Code.wp Tryz.prog qBody (Exit.then (fun a' w' => QInv s q name raw uni b f i B x w0 R0 a' w' ∧ qMu s i a' < s.size - i - j) Q0) ⟨#[.pointer (some ⟨b, 0, none⟩), .string q, .bool raw, .bool uni, .string name, .bool false, g 6, g 7, g 8, g 9, g 10, g 11, g 12, g 13, .int .i64 (j : Int), v15, .bool false, g 17, g 18, g 19, g 20, g 21, g 22, g 23, g 24, g 25, g 26, g 27, g 28, g 29, g 30, g 31, g 32, g 33, g 34, g 35, g 36, g 37, g 38, g 39, g 40, g 41, g 42, g 43, g 44, g 45, g 46, g 47, g 48, g 49, g 50, g 51, g 52, g 53, g 54, g 55, g 56, g 57, g 58, g 59, g 60, g 61, g 62, g 63, g 64, g 65, g 66, g 67, g 68, g 69, g 70, g 71, g 72, g 73, g 74, g 75, g 76, g 77, g 78, g 79, g 80, g 81, g 82, g 83, g 84, g 85, g 86, g 87, g 88, g 89, g 90, g 91, g 92, g 93, g 94, g 95, g 96, g 97, g 98, g 99, g 100, g 101, g 102, g 103, g 104, g 105, g 106, g 107, g 108, g 109, g 110, g 111, g 112, g 113, g 114, g 115, g 116, g 117, g 118, g 119, g 120, g 121, g 122, g 123, g 124, g 125, g 126, g 127, g 128, g 129, g 130, g 131, g 132, g 133, g 134, g 135, g 136, g 137, g 138, g 139, g 140, g 141, g 142, g 143, g 144, g 145, g 146, g 147, g 148, g 149, g 150, g 151, g 152, g 153, g 154, g 155, g 156, g 157, g 158, g 159, g 160, g 161, g 162, g 163, g 164, g 165, g 166, g 167, g 168, g 169, g 170, g 171, g 172, g 173, g 174, g 175, g 176, g 177, g 178, g 179, g 180, g 181, g 182, g 183, g 184, g 185, g 186, g 187, g 188, g 189, g 190, g 191, g 192, g 193, g 194, g 195, g 196, g 197, g 198, g 199, g 200, g 201, g 202, g 203, g 204, g 205, g 206, g 207, g 208, g 209, g 210, g 211, g 212, g 213, g 214, g 215, g 216, g 217, g 218, g 219, g 220, g 221, g 222, g 223, g 224, g 225, g 226, g 227, g 228, g 229, g 230, g 231, g 232, g 233, g 234, g 235, g 236, g 237, g 238, g 239, g 240, g 241, g 242, g 243, g 244, g 245, g 246, g 247, g 248, g 249, g 250, g 251, g 252, g 253, g 254, g 255, g 256, g 257, g 258, g 259, g 260, g 261, g 262, g 263, g 264, g 265, g 266, g 267, g 268, g 269, g 270, g 271, g 272, g 273, g 274, g 275, g 276, g 277, g 278, g 279, g 280, g 281, g 282, g 283, g 284, g 285, g 286, g 287, g 288, g 289, g 290, g 291, g 292, g 293, g 294, g 295, g 296, g 297, g 298, g 299, g 300, g 301, g 302, g 303, g 304, g 305, g 306, g 307, g 308, g 309, g 310, g 311, g 312, g 313, g 314, g 315, g 316, g 317, g 318, g 319, g 320, g 321, g 322, g 323, g 324, g 325, g 326, g 327, g 328, g 329, g 330, g 331, g 332, g 333, g 334, g 335, g 336, g 337, g 338, g 339, g 340, g 341, g 342, g 343, g 344, g 345, g 346, g 347, g 348, g 349, g 350, g 351, g 352, g 353, g 354, g 355, g 356, g 357, g 358, g 359, g 360, g 361, g 362, g 363, g 364, g 365, g 366, g 367, g 368, g 369, g 370, g 371, g 372, g 373, g 374, g 375, g 376, g 377, g 378, g 379, g 380, g 381, g 382, g 383, g 384, g 385, g 386, g 387, g 388, g 389, g 390, g 391, g 392, g 393, g 394, g 395, g 396, g 397, g 398, g 399, g 400, g 401, g 402, g 403, g 404, g 405, g 406, g 407, g 408, g 409, g 410, g 411, g 412, g 413, g 414, g 415, g 416, g 417, g 418, g 419, g 420, g 421, g 422, g 423, g 424, g 425, g 426, g 427, g 428, g 429, g 430, g 431, g 432, g 433, g 434, g 435, g 436, g 437, g 438, g 439, g 440, g 441, g 442, g 443, g 444, g 445, g 446, g 447, g 448, g 449, g 450, g 451, g 452, g 453, g 454, g 455, g 456, g 457, g 458, g 459, g 460, g 461, g 462, g 463, g 464, g 465, g 466, g 467, g 468, g 469, g 470, g 471, g 472, g 473, g 474, g 475, g 476, g 477, g 478, g 479, g 480, g 481, g 482, g 483, g 484, g 485, g 486, g 487, g 488, g 489, g 490, g 491, g 492, g 493, g 494, g 495, g 496, g 497, g 498, g 499, g 500, g 501, g 502, g 503, g 504, g 505, g 506, g 507, g 508, g 509, g 510, g 511], []⟩ w := by
  conv => arg 2; whnf
  have hs := h.env.small
  have hj := h.le
  have hq3 : 1 ≤ q.size ∧ q.size ≤ 3 := by have := h.q13; omega
  subst hv
  subst hl
  subst hi
  have hsz := startsB_le hst
  have hst2 := (starts_eq s q (i + j) hj).trans hst
  clear hst
  go_wp2_with fail
  refine (h.peekOk _ h.low j _ rfl (by omega)).mono ?_
  rintro e w' ⟨rfl, n1, rfl⟩
  rw [decide_eq_true hlt]
  go_wp2_with fail
  refine (h.slice _ (h.low.trans (below_dn _ _ _)) j (j + q.size) _ _ rfl (by omega) (by omega) (by omega) (by omega)).mono ?_
  rintro e w' ⟨rfl, n2, rfl⟩
  rw [show i + (j + q.size) = i + j + q.size by omega]
  go_wp2_with fail
  refine (h.skipN _ (h.low.trans (below_dn _ _ _)) (j + q.size) _ (by omega) (by omega)).mono ?_
  rintro e w' ⟨rfl, rfl⟩
  have hx5 := (h.lx.below (h.low.trans (below_dn _ w (n1 + n2)))).setPos ((i + (j + q.size) : Nat) : Int)
  have ho5 := (Only.of_below (b := b) (h.low.trans (below_dn _ w (n1 + n2)))).setCell 9 (.int .i64 ((i + (j + q.size) : Nat) : Int))
  have own5 := own_below h.own (below_dn w.heap.size w (n1 + n2))
  have hbl := h.lx.lt
  have own6 : ((w.drewN (n1 + n2)).setCell ⟨b, 9, none⟩ (.int .i64 ((i + (j + q.size) : Nat) : Int))).ownsRow w0.heap.size 5 1 (.slice none 0 0) 0 (Lib.byteCells []) := own_set_low own5 hbl
  obtain ⟨w6, hw6⟩ : ∃ w6, (w.drewN (n1 + n2)).setCell ⟨b, 9, none⟩ (.int .i64 ((i + (j + q.size) : Nat) : Int)) = w6 := ⟨_, rfl⟩
  rw [hw6] at hx5 ho5 own6 ⊢
  clear hw6
  have hcv := own_string own6
  have Hx5 := Lib.hid hx5
  have Hret := Lib.hid hret
  clear hx5 hret own5 own6
  go_wp2_with fail
  exact Hret.out _ _ rfl rfl rfl Hx5.out ho5
set_option maxHeartbeats 8000000 in
set_option maxRecDepth 1000000 in
theorem q_stop (g : Nat → Value) (s q name : ByteArray) (raw uni : Bool) (b f i j B fu : Nat) (v15 : Value) (l : List UInt8) (x : LxS) (w w0 : World) (R0 : QRes) (Q0 : Exit → Act → World → Prop) (h : QHead s q raw uni b f i B x w0 R0 j v15 l fu w)
    (hlt : i + j < s.size) (hst : startsB s (i + j) q = true) (ident : Bool) (hid : (name.toList == [105, 100, 101, 110, 116, 105, 102, 105, 101, 114]) = ident) (gb cap : Nat) (hv : v15 = .slice (some ⟨gb, 0, none⟩) l.length cap) (hi : l.length = 0 → ident = false) (hret : ∀ a' w', a'.defers = [] → sl a' 12 = .string ⟨l.toArray⟩ → sl a' 13 = .bool false → LxAt w' b f { x with pos := ((i + (j + q.size) : Nat) : Int) } → Only b w0 w' → Q0 .ret a' w') :
    Code.wp Tryz.prog qBody (Exit.then (fun a' w' => QInv s q name raw uni b f i B x w0 R0 a' w' ∧ qMu s i a' < s.size - i - j) Q0) ⟨#[.pointer (some ⟨b, 0, none⟩), .string q, .bool raw, .bool uni, .string name, .bool false, g 6, g 7, g 8, g 9, g 10, g 11, g 12, g 13, .int .i64 (j : Int), v15, .bool false, g 17, g 18, g 19, g 20, g 21, g 22, g 23, g 24, g 25, g 26, g 27, g 28, g 29, g 30, g 31, g 32, g 33, g 34, g 35, g 36, g 37, g 38, g 39, g 40, g 41, g 42, g 43, g 44, g 45, g 46, g 47, g 48, g 49, g 50, g 51, g 52, g 53, g 54, g 55, g 56, g 57, g 58, g 59, g 60, g 61, g 62, g 63, g 64, g 65, g 66, g 67, g 68, g 69, g 70, g 71, g 72, g 73, g 74, g 75, g 76, g 77, g 78, g 79, g 80, g 81, g 82, g 83, g 84, g 85, g 86, g 87, g 88, g 89, g 90, g 91, g 92, g 93, g 94, g 95, g 96, g 97, g 98, g 99, g 100, g 101, g 102, g 103, g 104, g 105, g 106, g 107, g 108, g 109, g 110, g 111, g 112, g 113, g 114, g 115, g 116, g 117, g 118, g 119, g 120, g 121, g 122, g 123, g 124, g 125, g 126, g 127, g 128, g 129, g 130, g 131, g 132, g 133, g 134, g 135, g 136, g 137, g 138, g 139, g 140, g 141, g 142, g 143, g 144, g 145, g 146, g 147, g 148, g 149, g 150, g 151, g 152, g 153, g 154, g 155, g 156, g 157, g 158, g 159, g 160, g 161, g 162, g 163, g 164, g 165, g 166, g 167, g 168, g 169, g 170, g 171, g 172, g 173, g 174, g 175, g 176, g 177, g 178, g 179, g 180, g 181, g 182, g 183, g 184, g 185, g 186, g 187, g 188, g 189, g 190, g 191, g 192, g 193, g 194, g 195, g 196, g 197, g 198, g 199, g 200, g 201, g 202, g 203, g 204, g 205, g 206, g 207, g 208, g 209, g 210, g 211, g 212, g 213, g 214, g 215, g 216, g 217, g 218, g 219, g 220, g 221, g 222, g 223, g 224, g 225, g 226, g 227, g 228, g 229, g 230, g 231, g 232, g 233, g 234, g 235, g 236, g 237, g 238, g 239, g 240, g 241, g 242, g 243, g 244, g 245, g 246, g 247, g 248, g 249, g 250, g 251, g 252, g 253, g 254, g 255, g 256, g 257, g 258, g 259, g 260, g 261, g 262, g 263, g 264, g 265, g 266, g 267, g 268, g 269, g 270, g 271, g 272, g 273, g 274, g 275, g 276, g 277, g 278, g 279, g 280, g 281, g 282, g 283, g 284, g 285, g 286, g 287, g 288, g 289, g 290, g 291, g 292, g 293, g 294, g 295, g 296, g 297, g 298, g 299, g 300, g 301, g 302, g 303, g 304, g 305, g 306, g 307, g 308, g 309, g 310, g 311, g 312, g 313, g 314, g 315, g 316, g 317, g 318, g 319, g 320, g 321, g 322, g 323, g 324, g 325, g 326, g 327, g 328, g 329, g 330, g 331, g 332, g 333, g 334, g 335, g 336, g 337, g 338, g 339, g 340, g 341, g 342, g 343, g 344, g 345, g 346, g 347, g 348, g 349, g 350, g 351, g 352, g 353, g 354, g 355, g 356, g 357, g 358, g 359, g 360, g 361, g 362, g 363, g 364, g 365, g 366, g 367, g 368, g 369, g 370, g 371, g 372, g 373, g 374, g 375, g 376, g 377, g 378, g 379, g 380, g 381, g 382, g 383, g 384, g 385, g 386, g 387, g 388, g 389, g 390, g 391, g 392, g 393, g 394, g 395, g 396, g 397, g 398, g 399, g 400, g 401, g 402, g 403, g 404, g 405, g 406, g 407, g 408, g 409, g 410, g 411, g 412, g 413, g 414, g 415, g 416, g 417, g 418, g 419, g 420, g 421, g 422, g 423, g 424, g 425, g 426, g 427, g 428, g 429, g 430, g 431, g 432, g 433, g 434, g 435, g 436, g 437, g 438, g 439, g 440, g 441, g 442, g 443, g 444, g 445, g 446, g 447, g 448, g 449, g 450, g 451, g 452, g 453, g 454, g 455, g 456, g 457, g 458, g 459, g 460, g 461, g 462, g 463, g 464, g 465, g 466, g 467, g 468, g 469, g 470, g 471, g 472, g 473, g 474, g 475, g 476, g 477, g 478, g 479, g 480, g 481, g 482, g 483, g 484, g 485, g 486, g 487, g 488, g 489, g 490, g 491, g 492, g 493, g 494, g 495, g 496, g 497, g 498, g 499, g 500, g 501, g 502, g 503, g 504, g 505, g 506, g 507, g 508, g 509, g 510, g 511], []⟩ w := by
  conv => arg 2; whnf
  have hs := h.env.small
  have hj := h.le
  have hq3 : 1 ≤ q.size ∧ q.size ≤ 3 := by have := h.q13; omega
  subst hv
  by_cases hz0 : l.length = 0
  · have hi0 := hi hz0
    subst hi0
    obtain rfl : l = [] := List.length_eq_zero_iff.1 hz0
    clear hz0 hi
    have hsz := startsB_le hst
    have hst2 := (starts_eq s q (i + j) hj).trans hst
    clear hst
    go_wp2_with fail
    refine (h.peekOk _ h.low j _ rfl (by omega)).mono ?_
    rintro e w' ⟨rfl, n1, rfl⟩
    rw [decide_eq_true hlt]
    go_wp2_with fail
    refine (h.slice _ (h.low.trans (below_dn _ _ _)) j (j + q.size) _ _ rfl (by omega) (by omega) (by omega) (by omega)).mono ?_
    rintro e w' ⟨rfl, n2, rfl⟩
    rw [show i + (j + q.size) = i + j + q.size by omega]
    go_wp2_with fail
    refine (h.skipN _ (h.low.trans (below_dn _ _ _)) (j + q.size) _ (by omega) (by omega)).mono ?_
    rintro e w' ⟨rfl, rfl⟩
    have hx5 := (h.lx.below (h.low.trans (below_dn _ w (n1 + n2)))).setPos ((i + (j + q.size) : Nat) : Int)
    have ho5 := (Only.of_below (b := b) (h.low.trans (below_dn _ w (n1 + n2)))).setCell 9 (.int .i64 ((i + (j + q.size) : Nat) : Int))
    have own5 := own_below h.own (below_dn w.heap.size w (n1 + n2))
    have hbl := h.lx.lt
    have own6 : ((w.drewN (n1 + n2)).setCell ⟨b, 9, none⟩ (.int .i64 ((i + (j + q.size) : Nat) : Int))).ownsRow w0.heap.size 5 1 (.slice (some ⟨gb, 0, none⟩) 0 cap) 0 (Lib.byteCells []) := own_set_low own5 hbl
    obtain ⟨w6, hw6⟩ : ∃ w6, (w.drewN (n1 + n2)).setCell ⟨b, 9, none⟩ (.int .i64 ((i + (j + q.size) : Nat) : Int)) = w6 := ⟨_, rfl⟩
    rw [hw6] at hx5 ho5 own6 ⊢
    clear hw6
    have hcv := own_string own6
    have Hx5 := Lib.hid hx5
    have Hret := Lib.hid hret
    clear hx5 hret own5 own6
    go_wp2_with fail
    exact Hret.out _ _ rfl rfl rfl Hx5.out ho5
  · obtain ⟨ln, hln⟩ : ∃ ln : Nat, l.length = ln := ⟨_, rfl⟩
    rw [hln] at hi hz0
    clear hi
    have hsz := startsB_le hst
    have hst2 := (starts_eq s q (i + j) hj).trans hst
    clear hst
    go_wp2_with fail
    refine (h.peekOk _ h.low j _ rfl (by omega)).mono ?_
    rintro e w' ⟨rfl, n1, rfl⟩
    rw [decide_eq_true hlt]
    go_wp2_with fail
    refine (h.slice _ (h.low.trans (below_dn _ _ _)) j (j + q.size) _ _ rfl (by omega) (by omega) (by omega) (by omega)).mono ?_
    rintro e w' ⟨rfl, n2, rfl⟩
    rw [show i + (j + q.size) = i + j + q.size by omega]
    cases ident
    all_goals
      go_wp2_with fail
      refine (h.skipN _ (h.low.trans (below_dn _ _ _)) (j + q.size) _ (by omega) (by omega)).mono ?_
      rintro e w' ⟨rfl, rfl⟩
      have hx5 := (h.lx.below (h.low.trans (below_dn _ w (n1 + n2)))).setPos ((i + (j + q.size) : Nat) : Int)
      have ho5 := (Only.of_below (b := b) (h.low.trans (below_dn _ w (n1 + n2)))).setCell 9 (.int .i64 ((i + (j + q.size) : Nat) : Int))
      have own5 := own_below h.own (below_dn w.heap.size w (n1 + n2))
      have hbl := h.lx.lt
      have own6 : ((w.drewN (n1 + n2)).setCell ⟨b, 9, none⟩ (.int .i64 ((i + (j + q.size) : Nat) : Int))).ownsRow w0.heap.size 5 1 (.slice (some ⟨gb, 0, none⟩) l.length cap) l.length (Lib.byteCells l) := own_set_low own5 hbl
      obtain ⟨w6, hw6⟩ : ∃ w6, (w.drewN (n1 + n2)).setCell ⟨b, 9, none⟩ (.int .i64 ((i + (j + q.size) : Nat) : Int)) = w6 := ⟨_, rfl⟩
      rw [hw6] at hx5 ho5 own6 ⊢
      clear hw6
      have hcv := own_string own6
      rw [hln] at hcv
      have Hx5 := Lib.hid hx5
      have Hret := Lib.hid hret
      clear hx5 hret own5 own6
      go_wp2_with fail
      exact Hret.out _ _ rfl rfl rfl Hx5.out ho5
set_option maxHeartbeats 8000000 in
set_option maxRecDepth 1000000 in
theorem q_emptynil (g : Nat → Value) (s q name : ByteArray) (raw uni : Bool) (b f i j B fu : Nat) (v15 : Value) (l : List UInt8) (x : LxS) (w w0 : World) (R0 : QRes) (Q0 : Exit → Act → World → Prop) (h : QHead s q raw uni b f i B x w0 R0 j v15 l fu w)
    (hlt : i + j < s.size) (hst : startsB s (i + j) q = true) (ident : Bool) (hid : (name.toList == [105, 100, 101, 110, 116, 105, 102, 105, 101, 114]) = ident) (hv : v15 = .slice none 0 0) (hi : ident = true) (hpan : ∀ a' w' ch, a'.defers = [] → Thrown B w0 (.panicked ch) w' → Q0 (.panic ch) a' w') :
    Code.wp Tryz.prog qBody (Exit.then (fun a' w' => QInv s q name raw uni b f i B x w0 R0 a' w' ∧ qMu s i a' < s.size - i - j) Q0) ⟨#[.pointer (some ⟨b, 0, none⟩), .string q, .bool raw, .bool uni, .string name, .bool false, g 6, g 7, g 8, g 9, g 10, g 11, g 12, g 13, .int .i64 (j : Int), v15, .bool false, g 17, g 18, g 19, g 20, g 21, g 22, g 23, g 24, g 25, g 26, g 27, g 28, g 29, g 30, g 31, g 32, g 33, g 34, g 35, g 36, g 37, g 38, g 39, g 40, g 41, g 42, g 43, g 44, g 45, g 46, g 47, g 48, g 49, g 50, g 51, g 52, g 53, g 54, g 55, g 56, g 57, g 58, g 59, g 60, g 61, g 62, g 63, g 64, g 65, g 66, g 67, g 68, g 69, g 70, g 71, g 72, g 73, g 74, g 75, g 76, g 77, g 78, g 79, g 80, g 81, g 82, g 83, g 84, g 85, g 86, g 87, g 88, g 89, g 90, g 91, g 92, g 93, g 94, g 95, g 96, g 97, g 98, g 99, g 100, g 101, g 102, g 103, g 104, g 105, g 106, g 107, g 108, g 109, g 110, g 111, g 112, g 113, g 114, g 115, g 116, g 117, g 118, g 119, g 120, g 121, g 122, g 123, g 124, g 125, g 126, g 127, g 128, g 129, g 130, g 131, g 132, g 133, g 134, g 135, g 136, g 137, g 138, g 139, g 140, g 141, g 142, g 143, g 144, g 145, g 146, g 147, g 148, g 149, g 150, g 151, g 152, g 153, g 154, g 155, g 156, g 157, g 158, g 159, g 160, g 161, g 162, g 163, g 164, g 165, g 166, g 167, g 168, g 169, g 170, g 171, g 172, g 173, g 174, g 175, g 176, g 177, g 178, g 179, g 180, g 181, g 182, g 183, g 184, g 185, g 186, g 187, g 188, g 189, g 190, g 191, g 192, g 193, g 194, g 195, g 196, g 197, g 198, g 199, g 200, g 201, g 202, g 203, g 204, g 205, g 206, g 207, g 208, g 209, g 210, g 211, g 212, g 213, g 214, g 215, g 216, g 217, g 218, g 219, g 220, g 221, g 222, g 223, g 224, g 225, g 226, g 227, g 228, g 229, g 230, g 231, g 232, g 233, g 234, g 235, g 236, g 237, g 238, g 239, g 240, g 241, g 242, g 243, g 244, g 245, g 246, g 247, g 248, g 249, g 250, g 251, g 252, g 253, g 254, g 255, g 256, g 257, g 258, g 259, g 260, g 261, g 262, g 263, g 264, g 265, g 266, g 267, g 268, g 269, g 270, g 271, g 272, g 273, g 274, g 275, g 276, g 277, g 278, g 279, g 280, g 281, g 282, g 283, g 284, g 285, g 286, g 287, g 288, g 289, g 290, g 291, g 292, g 293, g 294, g 295, g 296, g 297, g 298, g 299, g 300, g 301, g 302, g 303, g 304, g 305, g 306, g 307, g 308, g 309, g 310, g 311, g 312, g 313, g 314, g 315, g 316, g 317, g 318, g 319, g 320, g 321, g 322, g 323, g 324, g 325, g 326, g 327, g 328, g 329, g 330, g 331, g 332, g 333, g 334, g 335, g 336, g 337, g 338, g 339, g 340, g 341, g 342, g 343, g 344, g 345, g 346, g 347, g 348, g 349, g 350, g 351, g 352, g 353, g 354, g 355, g 356, g 357, g 358, g 359, g 360, g 361, g 362, g 363, g 364, g 365, g 366, g 367, g 368, g 369, g 370, g 371, g 372, g 373, g 374, g 375, g 376, g 377, g 378, g 379, g 380, g 381, g 382, g 383, g 384, g 385, g 386, g 387, g 388, g 389, g 390, g 391, g 392, g 393, g 394, g 395, g 396, g 397, g 398, g 399, g 400, g 401, g 402, g 403, g 404, g 405, g 406, g 407, g 408, g 409, g 410, g 411, g 412, g 413, g 414, g 415, g 416, g 417, g 418, g 419, g 420, g 421, g 422, g 423, g 424, g 425, g 426, g 427, g 428, g 429, g 430, g 431, g 432, g 433, g 434, g 435, g 436, g 437, g 438, g 439, g 440, g 441, g 442, g 443, g 444, g 445, g 446, g 447, g 448, g 449, g 450, g 451, g 452, g 453, g 454, g 455, g 456, g 457, g 458, g 459, g 460, g 461, g 462, g 463, g 464, g 465, g 466, g 467, g 468, g 469, g 470, g 471, g 472, g 473, g 474, g 475, g 476, g 477, g 478, g 479, g 480, g 481, g 482, g 483, g 484, g 485, g 486, g 487, g 488, g 489, g 490, g 491, g 492, g 493, g 494, g 495, g 496, g 497, g 498, g 499, g 500, g 501, g 502, g 503, g 504, g 505, g 506, g 507, g 508, g 509, g 510, g 511], []⟩ w := by
  conv => arg 2; whnf
  have hs := h.env.small
  have hj := h.le
  have hq3 : 1 ≤ q.size ∧ q.size ≤ 3 := by have := h.q13; omega
  subst hv
  subst hi
  have hsz := startsB_le hst
  have hst2 := (starts_eq s q (i + j) hj).trans hst
  clear hst
  go_wp2_with fail
  refine (h.peekOk _ h.low j _ rfl (by omega)).mono ?_
  rintro e w' ⟨rfl, n1, rfl⟩
  rw [decide_eq_true hlt]
  go_wp2_with fail
  refine (h.slice _ (h.low.trans (below_dn _ _ _)) j (j + q.size) _ _ rfl (by omega) (by omega) (by omega) (by omega)).mono ?_
  rintro e w' ⟨rfl, n2, rfl⟩
  rw [show i + (j + q.size) = i + j + q.size by omega]
  go_wp2_with fail
  refine wp_region_still_tail 14 (by kernel_rfl) (by kernel_rfl) ?_
  simp only [List.take_succ_cons, List.take_zero, List.drop_succ_cons, List.drop_zero]
  have hV := (h.low.trans (below_dn _ w (n1 + n2))).trans (drew_below w0.heap.size (w.drewN (n1 + n2)))
  generalize ({ heap := (w.drewN (n1 + n2)).heap, tape := (w.drewN (n1 + n2)).tape, drawn := (w.drewN (n1 + n2)).drawn + 1, os := (w.drewN (n1 + n2)).os, output := (w.drewN (n1 + n2)).output } : World) = V at hV ⊢
  have c9 := h.cell9w V hV
  repeat still_step
  refine wpStill_nil ?_
  go_wp2_with fail
  refine (h.panics V hV _ (i) (i + (j + q.size)) _ _ (by omega) (by omega) (by omega) (by omega)).mono ?_
  rintro e w1 k
  obtain ⟨v, p, rfl, herr, hlow⟩ := k
  exact hpan _ _ _ rfl ⟨v, p, rfl, herr, hlow⟩
set_option maxHeartbeats 8000000 in
set_option maxRecDepth 1000000 in
theorem q_empty (g : Nat → Value) (s q name : ByteArray) (raw uni : Bool) (b f i j B fu : Nat) (v15 : Value) (l : List UInt8) (x : LxS) (w w0 : World) (R0 : QRes) (Q0 : Exit → Act → World → Prop) (h : QHead s q raw uni b f i B x w0 R0 j v15 l fu w)
    (hlt : i + j < s.size) (hst : startsB s (i + j) q = true) (ident : Bool) (hid : (name.toList == [105, 100, 101, 110, 116, 105, 102, 105, 101, 114]) = ident) (gb cap : Nat) (hv : v15 = .slice (some ⟨gb, 0, none⟩) 0 cap) (hi : ident = true) (hpan : ∀ a' w' ch, a'.defers = [] → Thrown B w0 (.panicked ch) w' → Q0 (.panic ch) a' w') :
    Code.wp Tryz.prog qBody (Exit.then (fun a' w' => QInv s q name raw uni b f i B x w0 R0 a' w' ∧ qMu s i a' < s.size - i - j) Q0) ⟨#[.pointer (some ⟨b, 0, none⟩), .string q, .bool raw, .bool uni, .string name, .bool false, g 6, g 7, g 8, g 9, g 10, g 11, g 12, g 13, .int .i64 (j : Int), v15, .bool false, g 17, g 18, g 19, g 20, g 21, g 22, g 23, g 24, g 25, g 26, g 27, g 28, g 29, g 30, g 31, g 32, g 33, g 34, g 35, g 36, g 37, g 38, g 39, g 40, g 41, g 42, g 43, g 44, g 45, g 46, g 47, g 48, g 49, g 50, g 51, g 52, g 53, g 54, g 55, g 56, g 57, g 58, g 59, g 60, g 61, g 62, g 63, g 64, g 65, g 66, g 67, g 68, g 69, g 70, g 71, g 72, g 73, g 74, g 75, g 76, g 77, g 78, g 79, g 80, g 81, g 82, g 83, g 84, g 85, g 86, g 87, g 88, g 89, g 90, g 91, g 92, g 93, g 94, g 95, g 96, g 97, g 98, g 99, g 100, g 101, g 102, g 103, g 104, g 105, g 106, g 107, g 108, g 109, g 110, g 111, g 112, g 113, g 114, g 115, g 116, g 117, g 118, g 119, g 120, g 121, g 122, g 123, g 124, g 125, g 126, g 127, g 128, g 129, g 130, g 131, g 132, g 133, g 134, g 135, g 136, g 137, g 138, g 139, g 140, g 141, g 142, g 143, g 144, g 145, g 146, g 147, g 148, g 149, g 150, g 151, g 152, g 153, g 154, g 155, g 156, g 157, g 158, g 159, g 160, g 161, g 162, g 163, g 164, g 165, g 166, g 167, g 168, g 169, g 170, g 171, g 172, g 173, g 174, g 175, g 176, g 177, g 178, g 179, g 180, g 181, g 182, g 183, g 184, g 185, g 186, g 187, g 188, g 189, g 190, g 191, g 192, g 193, g 194, g 195, g 196, g 197, g 198, g 199, g 200, g 201, g 202, g 203, g 204, g 205, g 206, g 207, g 208, g 209, g 210, g 211, g 212, g 213, g 214, g 215, g 216, g 217, g 218, g 219, g 220, g 221, g 222, g 223, g 224, g 225, g 226, g 227, g 228, g 229, g 230, g 231, g 232, g 233, g 234, g 235, g 236, g 237, g 238, g 239, g 240, g 241, g 242, g 243, g 244, g 245, g 246, g 247, g 248, g 249, g 250, g 251, g 252, g 253, g 254, g 255, g 256, g 257, g 258, g 259, g 260, g 261, g 262, g 263, g 264, g 265, g 266, g 267, g 268, g 269, g 270, g 271, g 272, g 273, g 274, g 275, g 276, g 277, g 278, g 279, g 280, g 281, g 282, g 283, g 284, g 285, g 286, g 287, g 288, g 289, g 290, g 291, g 292, g 293, g 294, g 295, g 296, g 297, g 298, g 299, g 300, g 301, g 302, g 303, g 304, g 305, g 306, g 307, g 308, g 309, g 310, g 311, g 312, g 313, g 314, g 315, g 316, g 317, g 318, g 319, g 320, g 321, g 322, g 323, g 324, g 325, g 326, g 327, g 328, g 329, g 330, g 331, g 332, g 333, g 334, g 335, g 336, g 337, g 338, g 339, g 340, g 341, g 342, g 343, g 344, g 345, g 346, g 347, g 348, g 349, g 350, g 351, g 352, g 353, g 354, g 355, g 356, g 357, g 358, g 359, g 360, g 361, g 362, g 363, g 364, g 365, g 366, g 367, g 368, g 369, g 370, g 371, g 372, g 373, g 374, g 375, g 376, g 377, g 378, g 379, g 380, g 381, g 382, g 383, g 384, g 385, g 386, g 387, g 388, g 389, g 390, g 391, g 392, g 393, g 394, g 395, g 396, g 397, g 398, g 399, g 400, g 401, g 402, g 403, g 404, g 405, g 406, g 407, g 408, g 409, g 410, g 411, g 412, g 413, g 414, g 415, g 416, g 417, g 418, g 419, g 420, g 421, g 422, g 423, g 424, g 425, g 426, g 427, g 428, g 429, g 430, g 431, g 432, g 433, g 434, g 435, g 436, g 437, g 438, g 439, g 440, g 441, g 442, g 443, g 444, g 445, g 446, g 447, g 448, g 449, g 450, g 451, g 452, g 453, g 454, g 455, g 456, g 457, g 458, g 459, g 460, g 461, g 462, g 463, g 464, g 465, g 466, g 467, g 468, g 469, g 470, g 471, g 472, g 473, g 474, g 475, g 476, g 477, g 478, g 479, g 480, g 481, g 482, g 483, g 484, g 485, g 486, g 487, g 488, g 489, g 490, g 491, g 492, g 493, g 494, g 495, g 496, g 497, g 498, g 499, g 500, g 501, g 502, g 503, g 504, g 505, g 506, g 507, g 508, g 509, g 510, g 511], []⟩ w := by
  conv => arg 2; whnf
  have hs := h.env.small
  have hj := h.le
  have hq3 : 1 ≤ q.size ∧ q.size ≤ 3 := by have := h.q13; omega
  subst hv
  subst hi
  have hsz := startsB_le hst
  have hst2 := (starts_eq s q (i + j) hj).trans hst
  clear hst
  go_wp2_with fail
  refine (h.peekOk _ h.low j _ rfl (by omega)).mono ?_
  rintro e w' ⟨rfl, n1, rfl⟩
  rw [decide_eq_true hlt]
  go_wp2_with fail
  refine (h.slice _ (h.low.trans (below_dn _ _ _)) j (j + q.size) _ _ rfl (by omega) (by omega) (by omega) (by omega)).mono ?_
  rintro e w' ⟨rfl, n2, rfl⟩
  rw [show i + (j + q.size) = i + j + q.size by omega]
  go_wp2_with fail
  refine wp_region_still_tail 14 (by kernel_rfl) (by kernel_rfl) ?_
  simp only [List.take_succ_cons, List.take_zero, List.drop_succ_cons, List.drop_zero]
  have hV := (h.low.trans (below_dn _ w (n1 + n2))).trans (drew_below w0.heap.size (w.drewN (n1 + n2)))
  generalize ({ heap := (w.drewN (n1 + n2)).heap, tape := (w.drewN (n1 + n2)).tape, drawn := (w.drewN (n1 + n2)).drawn + 1, os := (w.drewN (n1 + n2)).os, output := (w.drewN (n1 + n2)).output } : World) = V at hV ⊢
  have c9 := h.cell9w V hV
  repeat still_step
  refine wpStill_nil ?_
  go_wp2_with fail
  refine (h.panics V hV _ (i) (i + (j + q.size)) _ _ (by omega) (by omega) (by omega) (by omega)).mono ?_
  rintro e w1 k
  obtain ⟨v, p, rfl, herr, hlow⟩ := k
  exact hpan _ _ _ rfl ⟨v, p, rfl, herr, hlow⟩
end Go.Proofs.YtmkkeacbabmaeaaGreatDoor
namespace Go.Proofs.YtmkkeacbabmaeaaGreatDoor
open Go.RowKit Go.PlainAid

set_option maxHeartbeats 8000000 in
set_option maxRecDepth 1000000 in
theorem q_end (g : Nat → Value) (s q name : ByteArray) (raw uni : Bool) (b f i j B fu : Nat) (v15 : Value) (l : List UInt8) (x : LxS) (w w0 : World) (R0 : QRes) (Q0 : Exit → Act → World → Prop) (h : QHead s q raw uni b f i B x w0 R0 j v15 l fu w)
    (hlt : ¬ i + j < s.size) (hexit : ∀ a' w', a'.tmps.toList.length = 512 → a'.defers = [] → sl a' 0 = .pointer (some ⟨b, 0, none⟩) → sl a' 5 = .bool false → sl a' 14 = .int .i64 j → RowKit.Below w0.heap.size w0 w' → Q0 (.exit 0) a' w') :
    Code.wp Tryz.prog qBody (Exit.then (fun a' w' => QInv s q name raw uni b f i B x w0 R0 a' w' ∧ qMu s i a' < s.size - i - j) Q0) ⟨#[.pointer (some ⟨b, 0, none⟩), .string q, .bool raw, .bool uni, .string name, .bool false, g 6, g 7, g 8, g 9, g 10, g 11, g 12, g 13, .int .i64 (j : Int), v15, .bool false, g 17, g 18, g 19, g 20, g 21, g 22, g 23, g 24, g 25, g 26, g 27, g 28, g 29, g 30, g 31, g 32, g 33, g 34, g 35, g 36, g 37, g 38, g 39, g 40, g 41, g 42, g 43, g 44, g 45, g 46, g 47, g 48, g 49, g 50, g 51, g 52, g 53, g 54, g 55, g 56, g 57, g 58, g 59, g 60, g 61, g 62, g 63, g 64, g 65, g 66, g 67, g 68, g 69, g 70, g 71, g 72, g 73, g 74, g 75, g 76, g 77, g 78, g 79, g 80, g 81, g 82, g 83, g 84, g 85, g 86, g 87, g 88, g 89, g 90, g 91, g 92, g 93, g 94, g 95, g 96, g 97, g 98, g 99, g 100, g 101, g 102, g 103, g 104, g 105, g 106, g 107, g 108, g 109, g 110, g 111, g 112, g 113, g 114, g 115, g 116, g 117, g 118, g 119, g 120, g 121, g 122, g 123, g 124, g 125, g 126, g 127, g 128, g 129, g 130, g 131, g 132, g 133, g 134, g 135, g 136, g 137, g 138, g 139, g 140, g 141, g 142, g 143, g 144, g 145, g 146, g 147, g 148, g 149, g 150, g 151, g 152, g 153, g 154, g 155, g 156, g 157, g 158, g 159, g 160, g 161, g 162, g 163, g 164, g 165, g 166, g 167, g 168, g 169, g 170, g 171, g 172, g 173, g 174, g 175, g 176, g 177, g 178, g 179, g 180, g 181, g 182, g 183, g 184, g 185, g 186, g 187, g 188, g 189, g 190, g 191, g 192, g 193, g 194, g 195, g 196, g 197, g 198, g 199, g 200, g 201, g 202, g 203, g 204, g 205, g 206, g 207, g 208, g 209, g 210, g 211, g 212, g 213, g 214, g 215, g 216, g 217, g 218, g 219, g 220, g 221, g 222, g 223, g 224, g 225, g 226, g 227, g 228, g 229, g 230, g 231, g 232, g 233, g 234, g 235, g 236, g 237, g 238, g 239, g 240, g 241, g 242, g 243, g 244, g 245, g 246, g 247, g 248, g 249, g 250, g 251, g 252, g 253, g 254, g 255, g 256, g 257, g 258, g 259, g 260, g 261, g 262, g 263, g 264, g 265, g 266, g 267, g 268, g 269, g 270, g 271, g 272, g 273, g 274, g 275, g 276, g 277, g 278, g 279, g 280, g 281, g 282, g 283, g 284, g 285, g 286, g 287, g 288, g 289, g 290, g 291, g 292, g 293, g 294, g 295, g 296, g 297, g 298, g 299, g 300, g 301, g 302, g 303, g 304, g 305, g 306, g 307, g 308, g 309, g 310, g 311, g 312, g 313, g 314, g 315, g 316, g 317, g 318, g 319, g 320, g 321, g 322, g 323, g 324, g 325, g 326, g 327, g 328, g 329, g 330, g 331, g 332, g 333, g 334, g 335, g 336, g 337, g 338, g 339, g 340, g 341, g 342, g 343, g 344, g 345, g 346, g 347, g 348, g 349, g 350, g 351, g 352, g 353, g 354, g 355, g 356, g 357, g 358, g 359, g 360, g 361, g 362, g 363, g 364, g 365, g 366, g 367, g 368, g 369, g 370, g 371, g 372, g 373, g 374, g 375, g 376, g 377, g 378, g 379, g 380, g 381, g 382, g 383, g 384, g 385, g 386, g 387, g 388, g 389, g 390, g 391, g 392, g 393, g 394, g 395, g 396, g 397, g 398, g 399, g 400, g 401, g 402, g 403, g 404, g 405, g 406, g 407, g 408, g 409, g 410, g 411, g 412, g 413, g 414, g 415, g 416, g 417, g 418, g 419, g 420, g 421, g 422, g 423, g 424, g 425, g 426, g 427, g 428, g 429, g 430, g 431, g 432, g 433, g 434, g 435, g 436, g 437, g 438, g 439, g 440, g 441, g 442, g 443, g 444, g 445, g 446, g 447, g 448, g 449, g 450, g 451, g 452, g 453, g 454, g 455, g 456, g 457, g 458, g 459, g 460, g 461, g 462, g 463, g 464, g 465, g 466, g 467, g 468, g 469, g 470, g 471, g 472, g 473, g 474, g 475, g 476, g 477, g 478, g 479, g 480, g 481, g 482, g 483, g 484, g 485, g 486, g 487, g 488, g 489, g 490, g 491, g 492, g 493, g 494, g 495, g 496, g 497, g 498, g 499, g 500, g 501, g 502, g 503, g 504, g 505, g 506, g 507, g 508, g 509, g 510, g 511], []⟩ w := by
  conv => arg 2; whnf
  have hs := h.env.small
  have hj := h.le
  have hq3 : 1 ≤ q.size ∧ q.size ≤ 3 := by have := h.q13; omega
  go_wp2_with fail
  refine (h.peekOk _ h.low j _ rfl (by omega)).mono ?_
  rintro e w' ⟨rfl, n1, rfl⟩
  rw [decide_eq_false hlt]
  have Hx := Lib.hid hexit
  clear hexit
  go_wp2_with fail
  exact Hx.out _ _ rfl rfl rfl rfl rfl (h.low.trans (below_dn _ _ _))
set_option maxHeartbeats 8000000 in
set_option maxRecDepth 1000000 in
theorem q_plain (g : Nat → Value) (s q name : ByteArray) (raw uni : Bool) (b f i j B fu : Nat) (v15 : Value) (l : List UInt8) (x : LxS) (w w0 : World) (R0 : QRes) (Q0 : Exit → Act → World → Prop) (h : QHead s q raw uni b f i B x w0 R0 j v15 l fu w)
    (hlt : i + j < s.size) (hne : startsB s (i + j) q = false) (h92 : bt s (i + j) ≠ 92) (hnl : bt s (i + j) ≠ 10) :
    Code.wp Tryz.prog qBody (Exit.then (fun a' w' => QInv s q name raw uni b f i B x w0 R0 a' w' ∧ qMu s i a' < s.size - i - j) Q0) ⟨#[.pointer (some ⟨b, 0, none⟩), .string q, .bool raw, .bool uni, .string name, .bool false, g 6, g 7, g 8, g 9, g 10, g 11, g 12, g 13, .int .i64 (j : Int), v15, .bool false, g 17, g 18, g 19, g 20, g 21, g 22, g 23, g 24, g 25, g 26, g 27, g 28, g 29, g 30, g 31, g 32, g 33, g 34, g 35, g 36, g 37, g 38, g 39, g 40, g 41, g 42, g 43, g 44, g 45, g 46, g 47, g 48, g 49, g 50, g 51, g 52, g 53, g 54, g 55, g 56, g 57, g 58, g 59, g 60, g 61, g 62, g 63, g 64, g 65, g 66, g 67, g 68, g 69, g 70, g 71, g 72, g 73, g 74, g 75, g 76, g 77, g 78, g 79, g 80, g 81, g 82, g 83, g 84, g 85, g 86, g 87, g 88, g 89, g 90, g 91, g 92, g 93, g 94, g 95, g 96, g 97, g 98, g 99, g 100, g 101, g 102, g 103, g 104, g 105, g 106, g 107, g 108, g 109, g 110, g 111, g 112, g 113, g 114, g 115, g 116, g 117, g 118, g 119, g 120, g 121, g 122, g 123, g 124, g 125, g 126, g 127, g 128, g 129, g 130, g 131, g 132, g 133, g 134, g 135, g 136, g 137, g 138, g 139, g 140, g 141, g 142, g 143, g 144, g 145, g 146, g 147, g 148, g 149, g 150, g 151, g 152, g 153, g 154, g 155, g 156, g 157, g 158, g 159, g 160, g 161, g 162, g 163, g 164, g 165, g 166, g 167, g 168, g 169, g 170, g 171, g 172, g 173, g 174, g 175, g 176, g 177, g 178, g 179, g 180, g 181, g 182, g 183, g 184, g 185, g 186, g 187, g 188, g 189, g 190, g 191, g 192, g 193, g 194, g 195, g 196, g 197, g 198, g 199, g 200, g 201, g 202, g 203, g 204, g 205, g 206, g 207, g 208, g 209, g 210, g 211, g 212, g 213, g 214, g 215, g 216, g 217, g 218, g 219, g 220, g 221, g 222, g 223, g 224, g 225, g 226, g 227, g 228, g 229, g 230, g 231, g 232, g 233, g 234, g 235, g 236, g 237, g 238, g 239, g 240, g 241, g 242, g 243, g 244, g 245, g 246, g 247, g 248, g 249, g 250, g 251, g 252, g 253, g 254, g 255, g 256, g 257, g 258, g 259, g 260, g 261, g 262, g 263, g 264, g 265, g 266, g 267, g 268, g 269, g 270, g 271, g 272, g 273, g 274, g 275, g 276, g 277, g 278, g 279, g 280, g 281, g 282, g 283, g 284, g 285, g 286, g 287, g 288, g 289, g 290, g 291, g 292, g 293, g 294, g 295, g 296, g 297, g 298, g 299, g 300, g 301, g 302, g 303, g 304, g 305, g 306, g 307, g 308, g 309, g 310, g 311, g 312, g 313, g 314, g 315, g 316, g 317, g 318, g 319, g 320, g 321, g 322, g 323, g 324, g 325, g 326, g 327, g 328, g 329, g 330, g 331, g 332, g 333, g 334, g 335, g 336, g 337, g 338, g 339, g 340, g 341, g 342, g 343, g 344, g 345, g 346, g 347, g 348, g 349, g 350, g 351, g 352, g 353, g 354, g 355, g 356, g 357, g 358, g 359, g 360, g 361, g 362, g 363, g 364, g 365, g 366, g 367, g 368, g 369, g 370, g 371, g 372, g 373, g 374, g 375, g 376, g 377, g 378, g 379, g 380, g 381, g 382, g 383, g 384, g 385, g 386, g 387, g 388, g 389, g 390, g 391, g 392, g 393, g 394, g 395, g 396, g 397, g 398, g 399, g 400, g 401, g 402, g 403, g 404, g 405, g 406, g 407, g 408, g 409, g 410, g 411, g 412, g 413, g 414, g 415, g 416, g 417, g 418, g 419, g 420, g 421, g 422, g 423, g 424, g 425, g 426, g 427, g 428, g 429, g 430, g 431, g 432, g 433, g 434, g 435, g 436, g 437, g 438, g 439, g 440, g 441, g 442, g 443, g 444, g 445, g 446, g 447, g 448, g 449, g 450, g 451, g 452, g 453, g 454, g 455, g 456, g 457, g 458, g 459, g 460, g 461, g 462, g 463, g 464, g 465, g 466, g 467, g 468, g 469, g 470, g 471, g 472, g 473, g 474, g 475, g 476, g 477, g 478, g 479, g 480, g 481, g 482, g 483, g 484, g 485, g 486, g 487, g 488, g 489, g 490, g 491, g 492, g 493, g 494, g 495, g 496, g 497, g 498, g 499, g 500, g 501, g 502, g 503, g 504, g 505, g 506, g 507, g 508, g 509, g 510, g 511], []⟩ w := by
  conv => arg 2; whnf
  have hs := h.env.small
  have hj := h.le
  have hq3 : 1 ≤ q.size ∧ q.size ≤ 3 := by have := h.q13; omega
  have hst := (starts_eq s q (i + j) hj).trans hne
  have hba : ((byteAt s (i + j)).toNat : Int) = bt s (i + j) := byteAt_val s (i + j)
  have Hres : Hid (quotFrom s q raw (!uni) (fu - 1) (i + (j + 1)) (l ++ [byteAt s (i + j)]) = R0) := by
    show _ = _
    rw [← h.res]
    obtain ⟨k, rfl⟩ : ∃ k, fu = k + 1 := ⟨fu - 1, by have := h.fuel; omega⟩
    exact (quotFrom_plain hlt hne (fun hn => by have hn1 := hn.1; have hn2 := hn.2; unfold isNL at hn1; have h13 := okB_13 (h.ok _ hlt); omega) h92).symm
  try clear hq
  obtain ⟨i0, hi0, hz0, hz1, hz2⟩ := info_parts info_u8
  have hll := h.len
  go_wp2_with fail
  refine (h.peekOk _ h.low j _ rfl (by omega)).mono ?_
  rintro e w' ⟨rfl, n1, rfl⟩
  rw [decide_eq_true hlt]
  go_wp2_with fail
  refine (h.slice _ (h.low.trans (below_dn _ _ _)) j (j + q.size) _ _ rfl (by omega) (by omega) (by omega) (by omega)).mono ?_
  rintro e w' ⟨rfl, n2, rfl⟩
  rw [show i + (j + q.size) = i + j + q.size by omega]
  go_wp2_with fail
  refine (h.peek _ (h.low.trans (below_dn _ _ _)) j _ rfl hlt).mono ?_
  rintro e w' ⟨rfl, n3, rfl⟩
  obtain ⟨c, hc⟩ : ∃ c, bt s (i + j) = c := ⟨_, rfl⟩
  rw [hc]
  have Hc := Lib.hid hc
  rw [hc] at h92 hba hnl
  have h92b : (c == 92) = false := by simpa using h92
  have h10b : (c == 10) = false := by simpa using hnl
  clear hc
  go_wp2_with (at_builtin; refine wpList_append_own _ rfl _ _ 89 rfl w0.heap.size 5 i0 (.int .u8 0) 1 1 Tryz.underlying89 hi0 hz0 hz1 hz2 rfl (by decide) _ _ _ rfl ((own_below h.own (below_dn _ w _)).alloc _) ⟨w.heap.size, 0, none⟩ 1 1 [.int .u8 c] rfl rfl (cells_new _ #[.int .u8 c] 5) (by intro u hu; simp at hu; subst hu; rfl) (by unfold maxLen; omega) (by omega) (by have := (h.low).size; simp; omega) ?_; intro v' w1 hown' hgrow _)
  have R := quot_push (r := [byteAt s (i + j)]) ((own_below h.own (below_dn _ w _)).alloc _) (h.low.trans (below_dn _ _ _)) (h.low.trans (below_dn _ _ _)).size ((Below.refl _ _).alloc (Nat.le_refl _) _) hown' hgrow rfl (by rw [cells_byte, hba])
  obtain ⟨R1, R2⟩ := R
  clear hown' hgrow
  go_wp2_with fail
  refine ⟨⟨rfl, rfl, rfl, rfl, rfl, rfl, rfl, rfl, rfl, j + 1, l ++ [byteAt s (i + j)], fu - 1, rfl, ?_⟩, ?_⟩
  · exact { env := h.env, lx := h.lx, pos := h.pos, q13 := h.q13, le := by omega, own := R1, len := by simp; omega, low := R2, fuel := by have := h.fuel; omega, res := by exact Hres.out, ok := h.ok, esc := h.esc }
  · show s.size - i - ((j : Int) + 1).toNat < _
    omega
set_option maxHeartbeats 8000000 in
set_option maxRecDepth 1000000 in
theorem q_plain3 (g : Nat → Value) (s q name : ByteArray) (raw uni : Bool) (b f i j B fu : Nat) (v15 : Value) (l : List UInt8) (x : LxS) (w w0 : World) (R0 : QRes) (Q0 : Exit → Act → World → Prop) (h : QHead s q raw uni b f i B x w0 R0 j v15 l fu w)
    (hlt : i + j < s.size) (hne : startsB s (i + j) q = false) (h92 : bt s (i + j) ≠ 92) (hnl : bt s (i + j) = 10) (hq : q.size = 3) :
    Code.wp Tryz.prog qBody (Exit.then (fun a' w' => QInv s q name raw uni b f i B x w0 R0 a' w' ∧ qMu s i a' < s.size - i - j) Q0) ⟨#[.pointer (some ⟨b, 0, none⟩), .string q, .bool raw, .bool uni, .string name, .bool false, g 6, g 7, g 8, g 9, g 10, g 11, g 12, g 13, .int .i64 (j : Int), v15, .bool false, g 17, g 18, g 19, g 20, g 21, g 22, g 23, g 24, g 25, g 26, g 27, g 28, g 29, g 30, g 31, g 32, g 33, g 34, g 35, g 36, g 37, g 38, g 39, g 40, g 41, g 42, g 43, g 44, g 45, g 46, g 47, g 48, g 49, g 50, g 51, g 52, g 53, g 54, g 55, g 56, g 57, g 58, g 59, g 60, g 61, g 62, g 63, g 64, g 65, g 66, g 67, g 68, g 69, g 70, g 71, g 72, g 73, g 74, g 75, g 76, g 77, g 78, g 79, g 80, g 81, g 82, g 83, g 84, g 85, g 86, g 87, g 88, g 89, g 90, g 91, g 92, g 93, g 94, g 95, g 96, g 97, g 98, g 99, g 100, g 101, g 102, g 103, g 104, g 105, g 106, g 107, g 108, g 109, g 110, g 111, g 112, g 113, g 114, g 115, g 116, g 117, g 118, g 119, g 120, g 121, g 122, g 123, g 124, g 125, g 126, g 127, g 128, g 129, g 130, g 131, g 132, g 133, g 134, g 135, g 136, g 137, g 138, g 139, g 140, g 141, g 142, g 143, g 144, g 145, g 146, g 147, g 148, g 149, g 150, g 151, g 152, g 153, g 154, g 155, g 156, g 157, g 158, g 159, g 160, g 161, g 162, g 163, g 164, g 165, g 166, g 167, g 168, g 169, g 170, g 171, g 172, g 173, g 174, g 175, g 176, g 177, g 178, g 179, g 180, g 181, g 182, g 183, g 184, g 185, g 186, g 187, g 188, g 189, g 190, g 191, g 192, g 193, g 194, g 195, g 196, g 197, g 198, g 199, g 200, g 201, g 202, g 203, g 204, g 205, g 206, g 207, g 208, g 209, g 210, g 211, g 212, g 213, g 214, g 215, g 216, g 217, g 218, g 219, g 220, g 221, g 222, g 223, g 224, g 225, g 226, g 227, g 228, g 229, g 230, g 231, g 232, g 233, g 234, g 235, g 236, g 237, g 238, g 239, g 240, g 241, g 242, g 243, g 244, g 245, g 246, g 247, g 248, g 249, g 250, g 251, g 252, g 253, g 254, g 255, g 256, g 257, g 258, g 259, g 260, g 261, g 262, g 263, g 264, g 265, g 266, g 267, g 268, g 269, g 270, g 271, g 272, g 273, g 274, g 275, g 276, g 277, g 278, g 279, g 280, g 281, g 282, g 283, g 284, g 285, g 286, g 287, g 288, g 289, g 290, g 291, g 292, g 293, g 294, g 295, g 296, g 297, g 298, g 299, g 300, g 301, g 302, g 303, g 304, g 305, g 306, g 307, g 308, g 309, g 310, g 311, g 312, g 313, g 314, g 315, g 316, g 317, g 318, g 319, g 320, g 321, g 322, g 323, g 324, g 325, g 326, g 327, g 328, g 329, g 330, g 331, g 332, g 333, g 334, g 335, g 336, g 337, g 338, g 339, g 340, g 341, g 342, g 343, g 344, g 345, g 346, g 347, g 348, g 349, g 350, g 351, g 352, g 353, g 354, g 355, g 356, g 357, g 358, g 359, g 360, g 361, g 362, g 363, g 364, g 365, g 366, g 367, g 368, g 369, g 370, g 371, g 372, g 373, g 374, g 375, g 376, g 377, g 378, g 379, g 380, g 381, g 382, g 383, g 384, g 385, g 386, g 387, g 388, g 389, g 390, g 391, g 392, g 393, g 394, g 395, g 396, g 397, g 398, g 399, g 400, g 401, g 402, g 403, g 404, g 405, g 406, g 407, g 408, g 409, g 410, g 411, g 412, g 413, g 414, g 415, g 416, g 417, g 418, g 419, g 420, g 421, g 422, g 423, g 424, g 425, g 426, g 427, g 428, g 429, g 430, g 431, g 432, g 433, g 434, g 435, g 436, g 437, g 438, g 439, g 440, g 441, g 442, g 443, g 444, g 445, g 446, g 447, g 448, g 449, g 450, g 451, g 452, g 453, g 454, g 455, g 456, g 457, g 458, g 459, g 460, g 461, g 462, g 463, g 464, g 465, g 466, g 467, g 468, g 469, g 470, g 471, g 472, g 473, g 474, g 475, g 476, g 477, g 478, g 479, g 480, g 481, g 482, g 483, g 484, g 485, g 486, g 487, g 488, g 489, g 490, g 491, g 492, g 493, g 494, g 495, g 496, g 497, g 498, g 499, g 500, g 501, g 502, g 503, g 504, g 505, g 506, g 507, g 508, g 509, g 510, g 511], []⟩ w := by
  conv => arg 2; whnf
  have hs := h.env.small
  have hj := h.le
  have hq3 : 1 ≤ q.size ∧ q.size ≤ 3 := by have := h.q13; omega
  have hqb : ((q.size : Int) == 3) = true := by simp; omega
  have hqb2 : ((q.size : Int) != 3) = false := by simp; omega
  have hst := (starts_eq s q (i + j) hj).trans hne
  have hba : ((byteAt s (i + j)).toNat : Int) = bt s (i + j) := byteAt_val s (i + j)
  have Hres : Hid (quotFrom s q raw (!uni) (fu - 1) (i + (j + 1)) (l ++ [byteAt s (i + j)]) = R0) := by
    show _ = _
    rw [← h.res]
    obtain ⟨k, rfl⟩ : ∃ k, fu = k + 1 := ⟨fu - 1, by have := h.fuel; omega⟩
    exact (quotFrom_plain hlt hne (fun hn => by have hn1 := hn.1; have hn2 := hn.2; unfold isNL at hn1; have h13 := okB_13 (h.ok _ hlt); omega) h92).symm
  try clear hq
  obtain ⟨i0, hi0, hz0, hz1, hz2⟩ := info_parts info_u8
  have hll := h.len
  go_wp2_with fail
  refine (h.peekOk _ h.low j _ rfl (by omega)).mono ?_
  rintro e w' ⟨rfl, n1, rfl⟩
  rw [decide_eq_true hlt]
  go_wp2_with fail
  refine (h.slice _ (h.low.trans (below_dn _ _ _)) j (j + q.size) _ _ rfl (by omega) (by omega) (by omega) (by omega)).mono ?_
  rintro e w' ⟨rfl, n2, rfl⟩
  rw [show i + (j + q.size) = i + j + q.size by omega]
  go_wp2_with fail
  refine (h.peek _ (h.low.trans (below_dn _ _ _)) j _ rfl hlt).mono ?_
  rintro e w' ⟨rfl, n3, rfl⟩
  obtain ⟨c, hc⟩ : ∃ c, bt s (i + j) = c := ⟨_, rfl⟩
  rw [hc]
  have Hc := Lib.hid hc
  rw [hc] at h92 hba hnl
  have h92b : (c == 92) = false := by simpa using h92
  subst hnl
  clear hc
  go_wp2_with (at_builtin; refine wpList_append_own _ rfl _ _ 89 rfl w0.heap.size 5 i0 (.int .u8 0) 1 1 Tryz.underlying89 hi0 hz0 hz1 hz2 rfl (by decide) _ _ _ rfl ((own_below h.own (below_dn _ w _)).alloc _) ⟨w.heap.size, 0, none⟩ 1 1 [.int .u8 10] rfl rfl (cells_new _ #[.int .u8 10] 5) (by intro u hu; simp at hu; subst hu; rfl) (by unfold maxLen; omega) (by omega) (by have := (h.low).size; simp; omega) ?_; intro v' w1 hown' hgrow _)
  have R := quot_push (r := [byteAt s (i + j)]) ((own_below h.own (below_dn _ w _)).alloc _) (h.low.trans (below_dn _ _ _)) (h.low.trans (below_dn _ _ _)).size ((Below.refl _ _).alloc (Nat.le_refl _) _) hown' hgrow rfl (by rw [cells_byte, hba])
  obtain ⟨R1, R2⟩ := R
  clear hown' hgrow
  go_wp2_with fail
  refine ⟨⟨rfl, rfl, rfl, rfl, rfl, rfl, rfl, rfl, rfl, j + 1, l ++ [byteAt s (i + j)], fu - 1, rfl, ?_⟩, ?_⟩
  · exact { env := h.env, lx := h.lx, pos := h.pos, q13 := h.q13, le := by omega, own := R1, len := by simp; omega, low := R2, fuel := by have := h.fuel; omega, res := by exact Hres.out, ok := h.ok, esc := h.esc }
  · show s.size - i - ((j : Int) + 1).toNat < _
    omega
set_option maxHeartbeats 8000000 in
set_option maxRecDepth 1000000 in
theorem q_nlbad (g : Nat → Value) (s q name : ByteArray) (raw uni : Bool) (b f i j B fu : Nat) (v15 : Value) (l : List UInt8) (x : LxS) (w w0 : World) (R0 : QRes) (Q0 : Exit → Act → World → Prop) (h : QHead s q raw uni b f i B x w0 R0 j v15 l fu w)
    (hlt : i + j < s.size) (hne : startsB s (i + j) q = false) (hnl : bt s (i + j) = 10) (hq : q.size = 1) (hpan : ∀ a' w' ch, a'.defers = [] → Thrown B w0 (.panicked ch) w' → Q0 (.panic ch) a' w') :
    Code.wp Tryz.prog qBody (Exit.then (fun a' w' => QInv s q name raw uni b f i B x w0 R0 a' w' ∧ qMu s i a' < s.size - i - j) Q0) ⟨#[.pointer (some ⟨b, 0, none⟩), .string q, .bool raw, .bool uni, .string name, .bool false, g 6, g 7, g 8, g 9, g 10, g 11, g 12, g 13, .int .i64 (j : Int), v15, .bool false, g 17, g 18, g 19, g 20, g 21, g 22, g 23, g 24, g 25, g 26, g 27, g 28, g 29, g 30, g 31, g 32, g 33, g 34, g 35, g 36, g 37, g 38, g 39, g 40, g 41, g 42, g 43, g 44, g 45, g 46, g 47, g 48, g 49, g 50, g 51, g 52, g 53, g 54, g 55, g 56, g 57, g 58, g 59, g 60, g 61, g 62, g 63, g 64, g 65, g 66, g 67, g 68, g 69, g 70, g 71, g 72, g 73, g 74, g 75, g 76, g 77, g 78, g 79, g 80, g 81, g 82, g 83, g 84, g 85, g 86, g 87, g 88, g 89, g 90, g 91, g 92, g 93, g 94, g 95, g 96, g 97, g 98, g 99, g 100, g 101, g 102, g 103, g 104, g 105, g 106, g 107, g 108, g 109, g 110, g 111, g 112, g 113, g 114, g 115, g 116, g 117, g 118, g 119, g 120, g 121, g 122, g 123, g 124, g 125, g 126, g 127, g 128, g 129, g 130, g 131, g 132, g 133, g 134, g 135, g 136, g 137, g 138, g 139, g 140, g 141, g 142, g 143, g 144, g 145, g 146, g 147, g 148, g 149, g 150, g 151, g 152, g 153, g 154, g 155, g 156, g 157, g 158, g 159, g 160, g 161, g 162, g 163, g 164, g 165, g 166, g 167, g 168, g 169, g 170, g 171, g 172, g 173, g 174, g 175, g 176, g 177, g 178, g 179, g 180, g 181, g 182, g 183, g 184, g 185, g 186, g 187, g 188, g 189, g 190, g 191, g 192, g 193, g 194, g 195, g 196, g 197, g 198, g 199, g 200, g 201, g 202, g 203, g 204, g 205, g 206, g 207, g 208, g 209, g 210, g 211, g 212, g 213, g 214, g 215, g 216, g 217, g 218, g 219, g 220, g 221, g 222, g 223, g 224, g 225, g 226, g 227, g 228, g 229, g 230, g 231, g 232, g 233, g 234, g 235, g 236, g 237, g 238, g 239, g 240, g 241, g 242, g 243, g 244, g 245, g 246, g 247, g 248, g 249, g 250, g 251, g 252, g 253, g 254, g 255, g 256, g 257, g 258, g 259, g 260, g 261, g 262, g 263, g 264, g 265, g 266, g 267, g 268, g 269, g 270, g 271, g 272, g 273, g 274, g 275, g 276, g 277, g 278, g 279, g 280, g 281, g 282, g 283, g 284, g 285, g 286, g 287, g 288, g 289, g 290, g 291, g 292, g 293, g 294, g 295, g 296, g 297, g 298, g 299, g 300, g 301, g 302, g 303, g 304, g 305, g 306, g 307, g 308, g 309, g 310, g 311, g 312, g 313, g 314, g 315, g 316, g 317, g 318, g 319, g 320, g 321, g 322, g 323, g 324, g 325, g 326, g 327, g 328, g 329, g 330, g 331, g 332, g 333, g 334, g 335, g 336, g 337, g 338, g 339, g 340, g 341, g 342, g 343, g 344, g 345, g 346, g 347, g 348, g 349, g 350, g 351, g 352, g 353, g 354, g 355, g 356, g 357, g 358, g 359, g 360, g 361, g 362, g 363, g 364, g 365, g 366, g 367, g 368, g 369, g 370, g 371, g 372, g 373, g 374, g 375, g 376, g 377, g 378, g 379, g 380, g 381, g 382, g 383, g 384, g 385, g 386, g 387, g 388, g 389, g 390, g 391, g 392, g 393, g 394, g 395, g 396, g 397, g 398, g 399, g 400, g 401, g 402, g 403, g 404, g 405, g 406, g 407, g 408, g 409, g 410, g 411, g 412, g 413, g 414, g 415, g 416, g 417, g 418, g 419, g 420, g 421, g 422, g 423, g 424, g 425, g 426, g 427, g 428, g 429, g 430, g 431, g 432, g 433, g 434, g 435, g 436, g 437, g 438, g 439, g 440, g 441, g 442, g 443, g 444, g 445, g 446, g 447, g 448, g 449, g 450, g 451, g 452, g 453, g 454, g 455, g 456, g 457, g 458, g 459, g 460, g 461, g 462, g 463, g 464, g 465, g 466, g 467, g 468, g 469, g 470, g 471, g 472, g 473, g 474, g 475, g 476, g 477, g 478, g 479, g 480, g 481, g 482, g 483, g 484, g 485, g 486, g 487, g 488, g 489, g 490, g 491, g 492, g 493, g 494, g 495, g 496, g 497, g 498, g 499, g 500, g 501, g 502, g 503, g 504, g 505, g 506, g 507, g 508, g 509, g 510, g 511], []⟩ w := by
  conv => arg 2; whnf
  have hs := h.env.small
  have hj := h.le
  have hq3 : 1 ≤ q.size ∧ q.size ≤ 3 := by have := h.q13; omega
  have hqb : ((q.size : Int) == 3) = false := by simp; omega
  have hqb2 : ((q.size : Int) != 3) = true := by simp; omega
  have hst := (starts_eq s q (i + j) hj).trans hne
  clear hq
  go_wp2_with fail
  refine (h.peekOk _ h.low j _ rfl (by omega)).mono ?_
  rintro e w' ⟨rfl, n1, rfl⟩
  rw [decide_eq_true hlt]
  go_wp2_with fail
  refine (h.slice _ (h.low.trans (below_dn _ _ _)) j (j + q.size) _ _ rfl (by omega) (by omega) (by omega) (by omega)).mono ?_
  rintro e w' ⟨rfl, n2, rfl⟩
  rw [show i + (j + q.size) = i + j + q.size by omega]
  go_wp2_with fail
  refine (h.peek _ (h.low.trans (below_dn _ _ _)) j _ rfl hlt).mono ?_
  rintro e w' ⟨rfl, n3, rfl⟩
  obtain ⟨c, hc⟩ : ∃ c, bt s (i + j) = c := ⟨_, rfl⟩
  rw [hc]
  have Hc := Lib.hid hc
  rw [hc] at hnl
  subst hnl
  clear hc
  go_wp2_with fail
  refine wp_region_still_tail 11 (by kernel_rfl) (by kernel_rfl) ?_
  simp only [List.take_succ_cons, List.take_zero, List.drop_succ_cons, List.drop_zero]
  have hV := (h.low.trans (below_dn _ w (n1 + n2 + n3))).trans (drew_below w0.heap.size (w.drewN (n1 + n2 + n3)))
  generalize ({ heap := (w.drewN (n1 + n2 + n3)).heap, tape := (w.drewN (n1 + n2 + n3)).tape, drawn := (w.drewN (n1 + n2 + n3)).drawn + 1, os := (w.drewN (n1 + n2 + n3)).os, output := (w.drewN (n1 + n2 + n3)).output } : World) = V at hV ⊢
  have c9 := h.cell9w V hV
  repeat still_step
  refine wpStill_nil ?_
  go_wp2_with fail
  refine (h.panics V hV _ (i) (i + j) _ _ (by omega) (by omega) (by omega) (by omega)).mono ?_
  rintro e w1 k
  obtain ⟨v, p, rfl, herr, hlow⟩ := k
  exact hpan _ _ _ rfl ⟨v, p, rfl, herr, hlow⟩
set_option maxHeartbeats 8000000 in
set_option maxRecDepth 1000000 in
theorem q_raw (g : Nat → Value) (s q name : ByteArray) (raw uni : Bool) (b f i j B fu : Nat) (v15 : Value) (l : List UInt8) (x : LxS) (w w0 : World) (R0 : QRes) (Q0 : Exit → Act → World → Prop) (h : QHead s q raw uni b f i B x w0 R0 j v15 l fu w)
    (hraw : raw = true) (hlt : i + j < s.size) (hne : startsB s (i + j) q = false) (h92 : bt s (i + j) = 92) :
    Code.wp Tryz.prog qBody (Exit.then (fun a' w' => QInv s q name raw uni b f i B x w0 R0 a' w' ∧ qMu s i a' < s.size - i - j) Q0) ⟨#[.pointer (some ⟨b, 0, none⟩), .string q, .bool raw, .bool uni, .string name, .bool false, g 6, g 7, g 8, g 9, g 10, g 11, g 12, g 13, .int .i64 (j : Int), v15, .bool false, g 17, g 18, g 19, g 20, g 21, g 22, g 23, g 24, g 25, g 26, g 27, g 28, g 29, g 30, g 31, g 32, g 33, g 34, g 35, g 36, g 37, g 38, g 39, g 40, g 41, g 42, g 43, g 44, g 45, g 46, g 47, g 48, g 49, g 50, g 51, g 52, g 53, g 54, g 55, g 56, g 57, g 58, g 59, g 60, g 61, g 62, g 63, g 64, g 65, g 66, g 67, g 68, g 69, g 70, g 71, g 72, g 73, g 74, g 75, g 76, g 77, g 78, g 79, g 80, g 81, g 82, g 83, g 84, g 85, g 86, g 87, g 88, g 89, g 90, g 91, g 92, g 93, g 94, g 95, g 96, g 97, g 98, g 99, g 100, g 101, g 102, g 103, g 104, g 105, g 106, g 107, g 108, g 109, g 110, g 111, g 112, g 113, g 114, g 115, g 116, g 117, g 118, g 119, g 120, g 121, g 122, g 123, g 124, g 125, g 126, g 127, g 128, g 129, g 130, g 131, g 132, g 133, g 134, g 135, g 136, g 137, g 138, g 139, g 140, g 141, g 142, g 143, g 144, g 145, g 146, g 147, g 148, g 149, g 150, g 151, g 152, g 153, g 154, g 155, g 156, g 157, g 158, g 159, g 160, g 161, g 162, g 163, g 164, g 165, g 166, g 167, g 168, g 169, g 170, g 171, g 172, g 173, g 174, g 175, g 176, g 177, g 178, g 179, g 180, g 181, g 182, g 183, g 184, g 185, g 186, g 187, g 188, g 189, g 190, g 191, g 192, g 193, g 194, g 195, g 196, g 197, g 198, g 199, g 200, g 201, g 202, g 203, g 204, g 205, g 206, g 207, g 208, g 209, g 210, g 211, g 212, g 213, g 214, g 215, g 216, g 217, g 218, g 219, g 220, g 221, g 222, g 223, g 224, g 225, g 226, g 227, g 228, g 229, g 230, g 231, g 232, g 233, g 234, g 235, g 236, g 237, g 238, g 239, g 240, g 241, g 242, g 243, g 244, g 245, g 246, g 247, g 248, g 249, g 250, g 251, g 252, g 253, g 254, g 255, g 256, g 257, g 258, g 259, g 260, g 261, g 262, g 263, g 264, g 265, g 266, g 267, g 268, g 269, g 270, g 271, g 272, g 273, g 274, g 275, g 276, g 277, g 278, g 279, g 280, g 281, g 282, g 283, g 284, g 285, g 286, g 287, g 288, g 289, g 290, g 291, g 292, g 293, g 294, g 295, g 296, g 297, g 298, g 299, g 300, g 301, g 302, g 303, g 304, g 305, g 306, g 307, g 308, g 309, g 310, g 311, g 312, g 313, g 314, g 315, g 316, g 317, g 318, g 319, g 320, g 321, g 322, g 323, g 324, g 325, g 326, g 327, g 328, g 329, g 330, g 331, g 332, g 333, g 334, g 335, g 336, g 337, g 338, g 339, g 340, g 341, g 342, g 343, g 344, g 345, g 346, g 347, g 348, g 349, g 350, g 351, g 352, g 353, g 354, g 355, g 356, g 357, g 358, g 359, g 360, g 361, g 362, g 363, g 364, g 365, g 366, g 367, g 368, g 369, g 370, g 371, g 372, g 373, g 374, g 375, g 376, g 377, g 378, g 379, g 380, g 381, g 382, g 383, g 384, g 385, g 386, g 387, g 388, g 389, g 390, g 391, g 392, g 393, g 394, g 395, g 396, g 397, g 398, g 399, g 400, g 401, g 402, g 403, g 404, g 405, g 406, g 407, g 408, g 409, g 410, g 411, g 412, g 413, g 414, g 415, g 416, g 417, g 418, g 419, g 420, g 421, g 422, g 423, g 424, g 425, g 426, g 427, g 428, g 429, g 430, g 431, g 432, g 433, g 434, g 435, g 436, g 437, g 438, g 439, g 440, g 441, g 442, g 443, g 444, g 445, g 446, g 447, g 448, g 449, g 450, g 451, g 452, g 453, g 454, g 455, g 456, g 457, g 458, g 459, g 460, g 461, g 462, g 463, g 464, g 465, g 466, g 467, g 468, g 469, g 470, g 471, g 472, g 473, g 474, g 475, g 476, g 477, g 478, g 479, g 480, g 481, g 482, g 483, g 484, g 485, g 486, g 487, g 488, g 489, g 490, g 491, g 492, g 493, g 494, g 495, g 496, g 497, g 498, g 499, g 500, g 501, g 502, g 503, g 504, g 505, g 506, g 507, g 508, g 509, g 510, g 511], []⟩ w := by
  conv => arg 2; whnf
  have hs := h.env.small
  have hj := h.le
  have hq3 : 1 ≤ q.size ∧ q.size ≤ 3 := by have := h.q13; omega
  obtain ⟨he10, hnl⟩ := h.esc _ hlt h92
  have hst := (starts_eq s q (i + j) hj).trans hne
  obtain ⟨i0, hi0, hz0, hz1, hz2⟩ := info_parts info_u8
  have hll := h.len
  subst hraw
  have hb0 : ((byteAt s (i + j)).toNat : Int) = 92 := by rw [byteAt_val]; exact h92
  have hb1 : ((byteAt s (i + j + 1)).toNat : Int) = bt s (i + (j + 1)) := byteAt_val s _
  have Hres : Hid (quotFrom s q true (!uni) (fu - 1) (i + (j + 2)) (l ++ [byteAt s (i + j), byteAt s (i + j + 1)]) = R0) := by
    show _ = _
    rw [← h.res]
    obtain ⟨k, rfl⟩ : ∃ k, fu = k + 1 := ⟨fu - 1, by have := h.fuel; omega⟩
    exact (quotFrom_raw hlt hne (fun hn => by have hn1 := hn.1; unfold isNL at hn1; omega) h92 (fun hx => by rcases hx with hx | hx; omega; exact hnl hx.1)).symm
  go_wp2_with fail
  refine (h.peekOk _ h.low j _ rfl (by omega)).mono ?_
  rintro e w' ⟨rfl, n1, rfl⟩
  rw [decide_eq_true hlt]
  go_wp2_with fail
  refine (h.slice _ (h.low.trans (below_dn _ _ _)) j (j + q.size) _ _ rfl (by omega) (by omega) (by omega) (by omega)).mono ?_
  rintro e w' ⟨rfl, n2, rfl⟩
  rw [show i + (j + q.size) = i + j + q.size by omega]
  go_wp2_with fail
  refine (h.peek _ (h.low.trans (below_dn _ _ _)) j _ rfl hlt).mono ?_
  rintro e w' ⟨rfl, n3, rfl⟩
  rw [h92]
  clear h92
  go_wp2_with fail
  refine (h.peekOk _ (h.low.trans (below_dn _ _ _)) (j + 1) _ (by omega) (by omega)).mono ?_
  rintro e w' ⟨rfl, n4, rfl⟩
  rw [decide_eq_true (show i + (j + 1) < s.size by omega)]
  go_wp2_with fail
  refine (h.peek _ (h.low.trans (below_dn _ _ _)) (j + 1) _ (by omega) (by omega)).mono ?_
  rintro e w' ⟨rfl, n5, rfl⟩
  obtain ⟨d, hd⟩ : ∃ d, bt s (i + (j + 1)) = d := ⟨_, rfl⟩
  rw [hd] at hb1 ⊢
  clear hd hnl
  go_wp2_with (at_builtin; refine wpList_append_own _ rfl _ _ 89 rfl w0.heap.size 5 i0 (.int .u8 0) 1 1 Tryz.underlying89 hi0 hz0 hz1 hz2 rfl (by decide) _ _ _ rfl ((own_below h.own (below_dn _ w _)).alloc _) ⟨w.heap.size, 0, none⟩ 2 2 [.int .u8 92, .int .u8 d] rfl rfl (cells_new _ #[.int .u8 92, .int .u8 d] 5) (by intro u hu; simp at hu; rcases hu with rfl | rfl <;> rfl) (by unfold maxLen; omega) (by omega) (by have := (h.low).size; simp; omega) ?_; intro v' w1 hown' hgrow _)
  have R := quot_push (r := [byteAt s (i + j), byteAt s (i + j + 1)]) ((own_below h.own (below_dn _ w _)).alloc _) (h.low.trans (below_dn _ _ _)) (h.low.trans (below_dn _ _ _)).size ((Below.refl _ _).alloc (Nat.le_refl _) _) hown' hgrow rfl (by rw [cells_two, hb0, hb1])
  obtain ⟨R1, R2⟩ := R
  clear hown' hgrow
  go_wp2_with fail
  refine ⟨⟨rfl, rfl, rfl, rfl, rfl, rfl, rfl, rfl, rfl, j + 2, l ++ [byteAt s (i + j), byteAt s (i + j + 1)], fu - 1, rfl, ?_⟩, ?_⟩
  · exact { env := h.env, lx := h.lx, pos := h.pos, q13 := h.q13, le := by omega, own := R1, len := by simp; omega, low := R2, fuel := by have := h.fuel; omega, res := by exact Hres.out, ok := h.ok, esc := h.esc }
  · show s.size - i - ((j : Int) + 2).toNat < _
    omega
end Go.Proofs.YtmkkeacbabmaeaaGreatDoor
namespace Go.Proofs.YtmkkeacbabmaeaaGreatDoor
open Go.RowKit Go.PlainAid

theorem simpFrom_none {F T : ByteArray} {c : Int} : ∀ (n k : Nat), 12 ≤ k + n → (∀ m, k ≤ m → m < 12 → ¬ bt F m = c) → simpFrom F T c k = none
  | 0, k, h, _ => simpFrom_end (by omega)
  | n + 1, k, h, hb => by
    by_cases hk : k < 12
    · rw [simpFrom_go hk (hb k (Nat.le_refl _) hk)]
      exact simpFrom_none n (k + 1) (by omega) (fun m h1 h2 => hb m (by omega) h2)
    · exact simpFrom_end hk
/-- No escape of one letter. -/
def plainEsc (c : Int) : Bool := decide (c = 97 ∨ c = 98 ∨ c = 102 ∨ c = 110 ∨ c = 114 ∨ c = 116 ∨ c = 118 ∨ c = 92 ∨ c = 63 ∨ c = 34 ∨ c = 39 ∨ c = 96)
theorem no_simple {c : Int} (h : plainEsc c = false) : simpleEsc c = none := by
  refine simpFrom_none 12 0 (by omega) (fun m _ hm e => ?_)
  have h2 : plainEsc (bt escF m) = true := by
    have key : ∀ m, m < 12 → plainEsc (bt escF m) = true := by decide
    exact key m hm
  rw [e, h] at h2
  cases h2
theorem simple_97 : simpleEsc 97 = some 7 := by
  unfold simpleEsc
  rw [simpFrom_hit (by decide) (by decide)]
  rfl
theorem simple_98 : simpleEsc 98 = some 8 := by
  unfold simpleEsc
  rw [simpFrom_go (by decide) (by decide), simpFrom_hit (by decide) (by decide)]
  rfl
theorem simple_102 : simpleEsc 102 = some 12 := by
  unfold simpleEsc
  rw [simpFrom_go (by decide) (by decide), simpFrom_go (by decide) (by decide), simpFrom_hit (by decide) (by decide)]
  rfl
theorem simple_110 : simpleEsc 110 = some 10 := by
  unfold simpleEsc
  rw [simpFrom_go (by decide) (by decide), simpFrom_go (by decide) (by decide), simpFrom_go (by decide) (by decide), simpFrom_hit (by decide) (by decide)]
  rfl
theorem simple_114 : simpleEsc 114 = some 13 := by
  unfold simpleEsc
  rw [simpFrom_go (by decide) (by decide), simpFrom_go (by decide) (by decide), simpFrom_go (by decide) (by decide), simpFrom_go (by decide) (by decide), simpFrom_hit (by decide) (by decide)]
  rfl
theorem simple_116 : simpleEsc 116 = some 9 := by
  unfold simpleEsc
  rw [simpFrom_go (by decide) (by decide), simpFrom_go (by decide) (by decide), simpFrom_go (by decide) (by decide), simpFrom_go (by decide) (by decide), simpFrom_go (by decide) (by decide), simpFrom_hit (by decide) (by decide)]
  rfl
theorem simple_118 : simpleEsc 118 = some 11 := by
  unfold simpleEsc
  rw [simpFrom_go (by decide) (by decide), simpFrom_go (by decide) (by decide), simpFrom_go (by decide) (by decide), simpFrom_go (by decide) (by decide), simpFrom_go (by decide) (by decide), simpFrom_go (by decide) (by decide), simpFrom_hit (by decide) (by decide)]
  rfl
theorem simple_92 : simpleEsc 92 = some 92 := by
  unfold simpleEsc
  rw [simpFrom_go (by decide) (by decide), simpFrom_go (by decide) (by decide), simpFrom_go (by decide) (by decide), simpFrom_go (by decide) (by decide), simpFrom_go (by decide) (by decide), simpFrom_go (by decide) (by decide), simpFrom_go (by decide) (by decide), simpFrom_hit (by decide) (by decide)]
  rfl
theorem simple_63 : simpleEsc 63 = some 63 := by
  unfold simpleEsc
  rw [simpFrom_go (by decide) (by decide), simpFrom_go (by decide) (by decide), simpFrom_go (by decide) (by decide), simpFrom_go (by decide) (by decide), simpFrom_go (by decide) (by decide), simpFrom_go (by decide) (by decide), simpFrom_go (by decide) (by decide), simpFrom_go (by decide) (by decide), simpFrom_hit (by decide) (by decide)]
  rfl
theorem simple_34 : simpleEsc 34 = some 34 := by
  unfold simpleEsc
  rw [simpFrom_go (by decide) (by decide), simpFrom_go (by decide) (by decide), simpFrom_go (by decide) (by decide), simpFrom_go (by decide) (by decide), simpFrom_go (by decide) (by decide), simpFrom_go (by decide) (by decide), simpFrom_go (by decide) (by decide), simpFrom_go (by decide) (by decide), simpFrom_go (by decide) (by decide), simpFrom_hit (by decide) (by decide)]
  rfl
theorem simple_39 : simpleEsc 39 = some 39 := by
  unfold simpleEsc
  rw [simpFrom_go (by decide) (by decide), simpFrom_go (by decide) (by decide), simpFrom_go (by decide) (by decide), simpFrom_go (by decide) (by decide), simpFrom_go (by decide) (by decide), simpFrom_go (by decide) (by decide), simpFrom_go (by decide) (by decide), simpFrom_go (by decide) (by decide), simpFrom_go (by decide) (by decide), simpFrom_go (by decide) (by decide), simpFrom_hit (by decide) (by decide)]
  rfl
theorem simple_96 : simpleEsc 96 = some 96 := by
  unfold simpleEsc
  rw [simpFrom_go (by decide) (by decide), simpFrom_go (by decide) (by decide), simpFrom_go (by decide) (by decide), simpFrom_go (by decide) (by decide), simpFrom_go (by decide) (by decide), simpFrom_go (by decide) (by decide), simpFrom_go (by decide) (by decide), simpFrom_go (by decide) (by decide), simpFrom_go (by decide) (by decide), simpFrom_go (by decide) (by decide), simpFrom_go (by decide) (by decide), simpFrom_hit (by decide) (by decide)]
  rfl
end Go.Proofs.YtmkkeacbabmaeaaGreatDoor
