/- The reference's token at a place is the plain one: quoted texts, words, signs, and all of it together. Condition: the text is at most 2^45 bytes long. -/
import Derived.Test.YtkhjenlclpcehaaDoorWk
namespace Go.Proofs.YtkhjenlclpcehaaDoor
open Go.RowKit Go.PlainAid

theorem prefOf_first {s : ByteArray} {i : Nat} {p : Nat × Bool × Bool} (h : prefOf s i = some p) : bt s i = 34 ∨ bt s i = 39 ∨ bt s i = 114 ∨ bt s i = 82 ∨ bt s i = 98 ∨ bt s i = 66 := by
  rw [prefOf, prefFrom] at h
  simp only [Nat.add_zero] at h
  split at h
  · split at h
    · omega
    · split at h
      · omega
      · split at h
        · omega
        · cases h
  · cases h
theorem upperS_size (s : ByteArray) : (upperS s).size = s.size := by
  show (upperL s.data.toList).toArray.size = s.size
  simp [upperL]

set_option maxHeartbeats 1600000 in
set_option maxRecDepth 100000 in
theorem lTok_quot (s : ByteArray) (i b : Nat) (x : TokS) (path : Bool) (after : Bool) (w : World) (hs : s.size ≤ 35184372088832) (ht : TokAt w b x) (hi : i < s.size) (hp : (path && partB (bt s i)) = false) (p : Nat × Bool × Bool) (hq : prefOf s i = some p) :
    Calls Tryd.prog 13 #[.string s, .int .i64 i, .bool path, .bool after, .pointer (some ⟨b, 0, none⟩)] w (TokPost b x (tokOf s i path after) w) := by
  have hfirst := prefOf_first hq
  have n96 : ¬ bt s i = 96 := by omega
  have n46 : ¬ bt s i = 46 := by omega
  have n64 : ¬ bt s i = 64 := by omega
  have ndg : digitB (bt s i) = false := bool_false (digitB_iff _) (by omega)
  have ho : Hid (tokOf s i path after = quotTok s (i + p.1) p.2.1 p.2.2) := by show _ = _; rw [tokOf, if_neg (by omega), if_neg (fun h => by simp [h.1, h.2] at hp), if_neg n96, if_neg (by intro h; rcases h with h | h; rw [ndg] at h; cases h; exact n46 h.1), if_neg (fun h => n64 h.1), hq]
  obtain ⟨O, hO⟩ : ∃ O, tokOf s i path after = O := ⟨_, rfl⟩
  rw [hO] at ho
  rw [hO]
  clear hO
  have hf0 := ht.free 0
  have hc0 := ht.cell0
  have hf3 := ht.free 3
  have hc3 := ht.cell3
  have hib : ((i : Int) == (s.size : Int)) = false := by simp; omega
  have hb := get_bt s
  obtain ⟨c, hc⟩ : ∃ c, bt s i = c := ⟨_, rfl⟩
  have hb0 : ((s[i]'hi).toNat : Int) = c := by rw [hb i hi]; exact hc
  have hc0' : 0 ≤ c := by rw [← hc]; exact bt_nonneg s i
  have hc1' : c ≤ 255 := by rw [← hc]; exact bt_le s i
  have hlt := prefOf_lt hq
  have hpv : prefVal (prefOf s i) = .tuple #[.int .i64 (p.1 : Int), .bool p.2.1, .bool p.2.2] := by rw [hq]; rfl
  have hpre0 := Prefix_c s i w (by omega) (by omega)
  rw [hpv] at hpre0
  have hpre := Lib.hid hpre0
  rw [hc] at hp n96 n46 n64 ndg
  have e96 : (c == 96) = false := by simp [n96]
  have e46 : (c == 46) = false := by simp [n46]
  have e64 : (c == 64) = false := by simp [n64]
  have hquo0 := Quoted_c s (i + p.1) p.2.1 p.2.2 w hs hlt
  rw [Int.natCast_add] at hquo0
  have hquo := Lib.hid hquo0
  clear hb hc hfirst hq hpv hpre0 hquo0 n96 n46 n64
  obtain ⟨n, raw, bytes⟩ := p
  cases path
  all_goals
    simp only [Bool.true_and, Bool.false_and] at hp
    go_enter Tryd.func13, Tryd.ntmps13
    go_wp2_with (first | (go_at_call 24; refine (IdentPart_c _ _).mono ?_; rintro e w' ⟨rfl, rfl⟩) | (go_at_call 26; refine (Digit_c _ _).mono ?_; rintro e w' ⟨rfl, rfl⟩) | (go_at_call 14; refine (Letter_c _ _).mono ?_; rintro e w' ⟨rfl, rfl⟩) | (go_at_call 28; refine hpre.out.mono ?_; rintro e w' ⟨rfl, rfl⟩))
    refine hquo.out.mono ?_
    intro e w' hq
    unfold quotTok at ho
    obtain ⟨r, hr⟩ : ∃ r, quotOf s (i + n) raw bytes = r := ⟨_, rfl⟩
    rw [hr] at ho hq
    clear hr hquo hpre
    cases r with
    | good v m =>
      obtain ⟨rfl, hb1⟩ := hq
      have ht1 := ht.below hb1
      have hf01 := ht1.free 0
      have hc01 := ht1.cell0
      have hf31 := ht1.free 3
      have hc31 := ht1.cell3
      cases bytes
      · go_wp2_with fail
        go_ret2
        exact tokPost_some ho.out ((ht1.setKind kString).setText _) (((Only.of_below hb1).setCell 0 _).setCell 3 _)
      · go_wp2_with fail
        go_ret2
        exact tokPost_some ho.out (((ht1.setKind kString).setText _).setKind kBytes) ((((Only.of_below hb1).setCell 0 _).setCell 3 _).setCell 0 _)
    | bad m =>
      obtain ⟨rfl, hb1⟩ := hq
      have ht1 := ht.below hb1
      have hf01 := ht1.free 0
      have hc01 := ht1.cell0
      have hf31 := ht1.free 3
      have hc31 := ht1.cell3
      cases bytes
      · go_wp2_with fail
        go_ret2
        exact tokPost_none ho.out (((Only.of_below hb1).setCell 0 _).setCell 3 _)
      · go_wp2_with fail
        go_ret2
        exact tokPost_none ho.out ((((Only.of_below hb1).setCell 0 _).setCell 3 _).setCell 0 _)

set_option maxHeartbeats 1600000 in
set_option maxRecDepth 100000 in
theorem lTok_word (s : ByteArray) (i b : Nat) (x : TokS) (path : Bool) (after : Bool) (w : World) (hs : s.size ≤ 35184372088832) (ht : TokAt w b x) (hi : i < s.size) (hp : (path && partB (bt s i)) = false) (hq : prefOf s i = none) (hlet : letterB (bt s i) = true) :
    Calls Tryd.prog 13 #[.string s, .int .i64 i, .bool path, .bool after, .pointer (some ⟨b, 0, none⟩)] w (TokPost b x (tokOf s i path after) w) := by
  have hl := (letterB_iff _).1 hlet
  have n96 : ¬ bt s i = 96 := by omega
  have n46 : ¬ bt s i = 46 := by omega
  have n64 : ¬ bt s i = 64 := by omega
  have ndg : digitB (bt s i) = false := bool_false (digitB_iff _) (by omega)
  have ho : Hid (tokOf s i path after = some (wordTok s i)) := by show _ = _; rw [tokOf, if_neg (by omega), if_neg (fun h => by simp [h.1, h.2] at hp), if_neg n96, if_neg (by intro h; rcases h with h | h; rw [ndg] at h; cases h; exact n46 h.1), if_neg (fun h => n64 h.1), hq]; simp only []; rw [if_pos hlet]
  obtain ⟨O, hO⟩ : ∃ O, tokOf s i path after = O := ⟨_, rfl⟩
  rw [hO] at ho
  rw [hO]
  clear hO
  have hf0 := ht.free 0
  have hc0 := ht.cell0
  have hf3 := ht.free 3
  have hc3 := ht.cell3
  have hib : ((i : Int) == (s.size : Int)) = false := by simp; omega
  have hb := get_bt s
  obtain ⟨c, hc⟩ : ∃ c, bt s i = c := ⟨_, rfl⟩
  have hb0 : ((s[i]'hi).toNat : Int) = c := by rw [hb i hi]; exact hc
  have hc0' : 0 ≤ c := by rw [← hc]; exact bt_nonneg s i
  have hc1' : c ≤ 255 := by rw [← hc]; exact bt_le s i
  have hpv : prefVal (prefOf s i) = .tuple #[.int .i64 (-1), .bool false, .bool false] := by rw [hq]; rfl
  have hpre0 := Prefix_c s i w (by omega) (by omega)
  rw [hpv] at hpre0
  have hpre := Lib.hid hpre0
  rw [hc] at hp n96 n46 n64 ndg hlet
  have e96 : (c == 96) = false := by simp [n96]
  have e46 : (c == 46) = false := by simp [n46]
  have e64 : (c == 64) = false := by simp [n64]
  have hp1 := partsEnd_ge s i
  have hp2 := partsEnd_le s i (by omega)
  have hpe := lParts_c s i w (by omega) (by omega)
  unfold wordTok at ho
  obtain ⟨e0, he0⟩ : ∃ e0, partsEnd s i = e0 := ⟨_, rfl⟩
  rw [he0] at hp1 hp2 ho hpe
  have Hpe := Lib.hid hpe
  clear hb hc hl hq hpv hpre0 n96 n46 n64 he0 hpe
  have hwz : (s.extract i e0).size ≤ s.size := by rw [ByteArray.size_extract]; omega
  have hup0 := Upper_c (s.extract i e0) w (by omega)
  have hkw0 := fun W => Keyword_c (upperS (s.extract i e0)) W (by rw [upperS_size]; omega)
  have hup := Lib.hid hup0
  have hkw := Lib.hid hkw0
  clear hup0 hkw0
  cases path
  all_goals
    simp only [Bool.true_and, Bool.false_and] at hp
    go_enter Tryd.func13, Tryd.ntmps13
    go_wp2_with (first | (go_at_call 24; refine (IdentPart_c _ _).mono ?_; rintro e w' ⟨rfl, rfl⟩) | (go_at_call 26; refine (Digit_c _ _).mono ?_; rintro e w' ⟨rfl, rfl⟩) | (go_at_call 14; refine (Letter_c _ _).mono ?_; rintro e w' ⟨rfl, rfl⟩) | (go_at_call 28; refine hpre.out.mono ?_; rintro e w' ⟨rfl, rfl⟩) | (go_at_call 15; refine Hpe.out.mono ?_; rintro e w' ⟨rfl, rfl⟩))
    refine hup.out.mono ?_
    rintro e w' ⟨rfl, hb1⟩
    have ht1 := ht.below hb1
    have hf01 := ht1.free 0
    have hc01 := ht1.cell0
    have hf31 := ht1.free 3
    have hc31 := ht1.cell3
    clear hpre Hpe
    have hus : (⟨(upperL (s.extract i e0).data.toList).toArray⟩ : ByteArray) = upperS (s.extract i e0) := rfl
    rw [hus]
    obtain ⟨u, hu⟩ : ∃ u, upperS (s.extract i e0) = u := ⟨_, rfl⟩
    rw [hu] at ho hkw
    rw [hu]
    clear hu hus hup
    go_wp2_with fail
    refine (hkw.out _).mono ?_
    rintro e w'' ⟨rfl, rfl⟩
    cases hk : kwB u
    · have ho2 : Hid (O = some ⟨kIdent, some (s.extract i e0), none, e0⟩) := by show _ = _; rw [ho.out, hk]; rfl
      go_wp2_with fail
      go_ret2
      exact tokPost_some ho2.out ((ht1.setKind kIdent).setText _) (((Only.of_below hb1).setCell 0 _).setCell 3 _)
    · have ho2 : Hid (O = some ⟨u, none, none, e0⟩) := by show _ = _; rw [ho.out, hk]; rfl
      go_wp2_with fail
      go_ret2
      exact tokPost_some ho2.out (ht1.setKind u) ((Only.of_below hb1).setCell 0 _)

set_option maxHeartbeats 1600000 in
set_option maxRecDepth 100000 in
theorem lTok_sign (s : ByteArray) (i b : Nat) (x : TokS) (path : Bool) (after : Bool) (w : World) (hs : s.size ≤ 35184372088832) (ht : TokAt w b x) (hi : i < s.size) (hp : (path && partB (bt s i)) = false) (hq : prefOf s i = none) (hlet : letterB (bt s i) = false) (n96 : ¬ bt s i = 96) (ndg : digitB (bt s i) = false) (ndot : ¬ dotNum s i after) (nat : ¬ atName s i) :
    Calls Tryd.prog 13 #[.string s, .int .i64 i, .bool path, .bool after, .pointer (some ⟨b, 0, none⟩)] w (TokPost b x (tokOf s i path after) w) := by
  have ho : Hid (tokOf s i path after = signTok s i) := by show _ = _; rw [tokOf, if_neg (by omega), if_neg (fun h => by simp [h.1, h.2] at hp), if_neg n96, if_neg (by intro h; rcases h with h | h; rw [ndg] at h; cases h; exact ndot h), if_neg nat, hq]; simp only []; rw [if_neg (by simp [hlet])]
  obtain ⟨O, hO⟩ : ∃ O, tokOf s i path after = O := ⟨_, rfl⟩
  rw [hO] at ho
  rw [hO]
  clear hO
  have hf0 := ht.free 0
  have hc0 := ht.cell0
  have hf3 := ht.free 3
  have hc3 := ht.cell3
  have hib : ((i : Int) == (s.size : Int)) = false := by simp; omega
  have hb := get_bt s
  obtain ⟨c, hc⟩ : ∃ c, bt s i = c := ⟨_, rfl⟩
  have hb0 : ((s[i]'hi).toNat : Int) = c := by rw [hb i hi]; exact hc
  have hc0' : 0 ≤ c := by rw [← hc]; exact bt_nonneg s i
  have hc1' : c ≤ 255 := by rw [← hc]; exact bt_le s i
  have hpv : prefVal (prefOf s i) = .tuple #[.int .i64 (-1), .bool false, .bool false] := by rw [hq]; rfl
  have hpre0 := Prefix_c s i w (by omega) (by omega)
  rw [hpv] at hpre0
  have hpre := Lib.hid hpre0
  have hsg := Lib.hid (lSign_c s i b x w (by omega) hi ht)
  have hways : ((c == 46) = false ∧ (c == 64) = false) ∨ ((c == 46) = true ∧ (c == 64) = false ∧ (after = true ∨ (after = false ∧ ¬ i + 1 < s.size) ∨ (after = false ∧ i + 1 < s.size ∧ digitB (bt s (i + 1)) = false))) ∨
      ((c == 46) = false ∧ (c == 64) = true ∧ (¬ i + 1 < s.size ∨ (i + 1 < s.size ∧ letterB (bt s (i + 1)) = false))) := by
    by_cases e : c = 46
    · right; left
      refine ⟨by simp [e], by simp [e], ?_⟩
      cases after
      · right
        by_cases h1 : i + 1 < s.size
        · right
          refine ⟨rfl, h1, ?_⟩
          cases h2 : digitB (bt s (i + 1))
          · rfl
          · exact absurd ⟨by rw [hc, e], rfl, h1, h2⟩ ndot
        · left; exact ⟨rfl, h1⟩
      · left; rfl
    · by_cases e2 : c = 64
      · right; right
        refine ⟨by simp [e], by simp [e2], ?_⟩
        by_cases h1 : i + 1 < s.size
        · right
          refine ⟨h1, ?_⟩
          cases h2 : letterB (bt s (i + 1))
          · rfl
          · exact absurd ⟨by rw [hc, e2], h1, h2⟩ nat
        · left; exact h1
      · left; exact ⟨by simp [e], by simp [e2]⟩
  unfold signTok at ho
  obtain ⟨sg, hsgo⟩ : ∃ sg, signOf s i = sg := ⟨_, rfl⟩
  rw [hsgo] at ho hsg
  rw [hc] at hp n96 ndg hlet
  have e96 : (c == 96) = false := by simp [n96]
  have hnx : ∀ (d : Int), bt s (i + 1) = d → ∀ h : i + 1 < s.size, ((s[i + 1]'h).toNat : Int) = d := fun d hd h => by rw [hb (i + 1) h]; exact hd
  obtain ⟨d, hd⟩ : ∃ d, bt s (i + 1) = d := ⟨_, rfl⟩
  have Hnx := Lib.hid (hnx d hd)
  rw [hd] at hways
  clear ndot nat hc hq hpv hpre0 n96 hb hsgo hnx hd
  rcases hways with ⟨h46, h64⟩ | ⟨h46, h64, ha | ⟨ha, hn⟩ | ⟨ha, hl1, hn⟩⟩ | ⟨h46, h64, hn | ⟨hl1, hn⟩⟩
  · cases path
    all_goals
      simp only [Bool.true_and, Bool.false_and] at hp
      go_enter Tryd.func13, Tryd.ntmps13
      go_wp2_with (first | (go_at_call 24; refine (IdentPart_c _ _).mono ?_; rintro e w' ⟨rfl, rfl⟩) | (go_at_call 26; refine (Digit_c _ _).mono ?_; rintro e w' ⟨rfl, rfl⟩) | (go_at_call 14; refine (Letter_c _ _).mono ?_; rintro e w' ⟨rfl, rfl⟩) | (go_at_call 28; refine hpre.out.mono ?_; rintro e w' ⟨rfl, rfl⟩))
      refine hsg.out.mono ?_
      intro e w' hp2
      clear hpre hsg Hnx
      cases sg with
      | none =>
        obtain ⟨rfl, _, hw2⟩ := hp2
        go_wp2_with fail
        go_ret2
        exact tokPost_none ho.out hw2
      | some p =>
        obtain ⟨rfl, ht2, hw2⟩ := hp2
        go_wp2_with fail
        go_ret2
        exact tokPost_some ho.out ht2 hw2
  · subst ha
    cases path
    all_goals
      simp only [Bool.true_and, Bool.false_and] at hp
      go_enter Tryd.func13, Tryd.ntmps13
      go_wp2_with (first | (go_at_call 24; refine (IdentPart_c _ _).mono ?_; rintro e w' ⟨rfl, rfl⟩) | (go_at_call 26; refine (Digit_c _ _).mono ?_; rintro e w' ⟨rfl, rfl⟩) | (go_at_call 14; refine (Letter_c _ _).mono ?_; rintro e w' ⟨rfl, rfl⟩) | (go_at_call 28; refine hpre.out.mono ?_; rintro e w' ⟨rfl, rfl⟩))
      refine hsg.out.mono ?_
      intro e w' hp2
      clear hpre hsg Hnx
      cases sg with
      | none =>
        obtain ⟨rfl, _, hw2⟩ := hp2
        go_wp2_with fail
        go_ret2
        exact tokPost_none ho.out hw2
      | some p =>
        obtain ⟨rfl, ht2, hw2⟩ := hp2
        go_wp2_with fail
        go_ret2
        exact tokPost_some ho.out ht2 hw2
  · subst ha
    cases path
    all_goals
      simp only [Bool.true_and, Bool.false_and] at hp
      go_enter Tryd.func13, Tryd.ntmps13
      go_wp2_with (first | (go_at_call 24; refine (IdentPart_c _ _).mono ?_; rintro e w' ⟨rfl, rfl⟩) | (go_at_call 26; refine (Digit_c _ _).mono ?_; rintro e w' ⟨rfl, rfl⟩) | (go_at_call 14; refine (Letter_c _ _).mono ?_; rintro e w' ⟨rfl, rfl⟩) | (go_at_call 28; refine hpre.out.mono ?_; rintro e w' ⟨rfl, rfl⟩))
      refine hsg.out.mono ?_
      intro e w' hp2
      clear hpre hsg Hnx
      cases sg with
      | none =>
        obtain ⟨rfl, _, hw2⟩ := hp2
        go_wp2_with fail
        go_ret2
        exact tokPost_none ho.out hw2
      | some p =>
        obtain ⟨rfl, ht2, hw2⟩ := hp2
        go_wp2_with fail
        go_ret2
        exact tokPost_some ho.out ht2 hw2
  · subst ha
    have hb1 := Hnx.out hl1
    cases path
    all_goals
      simp only [Bool.true_and, Bool.false_and] at hp
      go_enter Tryd.func13, Tryd.ntmps13
      go_wp2_with (first | (go_at_call 24; refine (IdentPart_c _ _).mono ?_; rintro e w' ⟨rfl, rfl⟩) | (go_at_call 26; refine (Digit_c _ _).mono ?_; rintro e w' ⟨rfl, rfl⟩) | (go_at_call 14; refine (Letter_c _ _).mono ?_; rintro e w' ⟨rfl, rfl⟩) | (go_at_call 28; refine hpre.out.mono ?_; rintro e w' ⟨rfl, rfl⟩))
      refine hsg.out.mono ?_
      intro e w' hp2
      clear hpre hsg Hnx
      cases sg with
      | none =>
        obtain ⟨rfl, _, hw2⟩ := hp2
        go_wp2_with fail
        go_ret2
        exact tokPost_none ho.out hw2
      | some p =>
        obtain ⟨rfl, ht2, hw2⟩ := hp2
        go_wp2_with fail
        go_ret2
        exact tokPost_some ho.out ht2 hw2
  · cases path
    all_goals
      simp only [Bool.true_and, Bool.false_and] at hp
      go_enter Tryd.func13, Tryd.ntmps13
      go_wp2_with (first | (go_at_call 24; refine (IdentPart_c _ _).mono ?_; rintro e w' ⟨rfl, rfl⟩) | (go_at_call 26; refine (Digit_c _ _).mono ?_; rintro e w' ⟨rfl, rfl⟩) | (go_at_call 14; refine (Letter_c _ _).mono ?_; rintro e w' ⟨rfl, rfl⟩) | (go_at_call 28; refine hpre.out.mono ?_; rintro e w' ⟨rfl, rfl⟩))
      refine hsg.out.mono ?_
      intro e w' hp2
      clear hpre hsg Hnx
      cases sg with
      | none =>
        obtain ⟨rfl, _, hw2⟩ := hp2
        go_wp2_with fail
        go_ret2
        exact tokPost_none ho.out hw2
      | some p =>
        obtain ⟨rfl, ht2, hw2⟩ := hp2
        go_wp2_with fail
        go_ret2
        exact tokPost_some ho.out ht2 hw2
  · have hb1 := Hnx.out hl1
    cases path
    all_goals
      simp only [Bool.true_and, Bool.false_and] at hp
      go_enter Tryd.func13, Tryd.ntmps13
      go_wp2_with (first | (go_at_call 24; refine (IdentPart_c _ _).mono ?_; rintro e w' ⟨rfl, rfl⟩) | (go_at_call 26; refine (Digit_c _ _).mono ?_; rintro e w' ⟨rfl, rfl⟩) | (go_at_call 14; refine (Letter_c _ _).mono ?_; rintro e w' ⟨rfl, rfl⟩) | (go_at_call 28; refine hpre.out.mono ?_; rintro e w' ⟨rfl, rfl⟩))
      refine hsg.out.mono ?_
      intro e w' hp2
      clear hpre hsg Hnx
      cases sg with
      | none =>
        obtain ⟨rfl, _, hw2⟩ := hp2
        go_wp2_with fail
        go_ret2
        exact tokPost_none ho.out hw2
      | some p =>
        obtain ⟨rfl, ht2, hw2⟩ := hp2
        go_wp2_with fail
        go_ret2
        exact tokPost_some ho.out ht2 hw2

/-- One token at a place. -/
theorem lToken_c (s : ByteArray) (i b : Nat) (x : TokS) (path after : Bool) (w : World) (hs : s.size ≤ 35184372088832) (ht : TokAt w b x) (hi : i ≤ s.size) :
    Calls Tryd.prog 13 #[.string s, .int .i64 i, .bool path, .bool after, .pointer (some ⟨b, 0, none⟩)] w (TokPost b x (tokOf s i path after) w) := by
  by_cases he : i = s.size
  · exact lTok_eof s i b x path after w ht he
  · have hlt : i < s.size := by omega
    cases hp : (path && partB (bt s i))
    · by_cases h96 : bt s i = 96
      · exact lTok_back s i b x path after w hs ht hlt hp h96
      · cases hd : digitB (bt s i)
        · by_cases hdot : dotNum s i after
          · have ha : after = false := hdot.2.1
            subst ha
            exact lTok_dot s i b x path w hs ht hlt hp hdot
          · by_cases hat : atName s i
            · exact lTok_at s i b x path after w hs ht hlt hp hat
            · cases hq : prefOf s i with
              | some p => exact lTok_quot s i b x path after w hs ht hlt hp p hq
              | none =>
                cases hl : letterB (bt s i)
                · exact lTok_sign s i b x path after w hs ht hlt hp hq hl h96 hd hdot hat
                · exact lTok_word s i b x path after w hs ht hlt hp hq hl
        · exact lTok_digit s i b x path after w hs ht hlt hp hd
    · simp only [Bool.and_eq_true] at hp
      obtain ⟨rfl, hp2⟩ := hp
      exact lTok_path s i b x after w hs ht hlt hp2

end Go.Proofs.YtkhjenlclpcehaaDoor
