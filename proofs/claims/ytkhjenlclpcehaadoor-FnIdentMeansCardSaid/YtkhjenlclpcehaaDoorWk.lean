/- The reference's token at a place is the plain one: numbers, parameters, quoted texts, words, signs. Condition: the text is at most 2^45 bytes long. -/
import Derived.Test.YtkhjenlclpcehaaDoorWj
namespace Go.Proofs.YtkhjenlclpcehaaDoor
open Go.RowKit Go.PlainAid

theorem num_tok {s : ByteArray} {i b : Nat} {x : TokS} {O : Option TokR} {w w' : World} (ho : O = numTok s i) (ht : TokAt w' b { x with kind := numKind (numOf s i).float, base := (numOf s i).base }) (hw : Only b w w') :
    TokPost b x O w (.returned (.tuple #[.int .i64 (numOf s i).stop, .bool (numOf s i).ok])) w' := by
  subst ho
  unfold numTok
  cases hk : (numOf s i).ok
  · exact ⟨⟨_, rfl⟩, hw⟩
  · exact ⟨rfl, ht, hw⟩
theorem sign_tok {s : ByteArray} {i b : Nat} {x : TokS} {O : Option TokR} {w w' : World} {e : Ending} (ho : O = signTok s i) (h : SignPost i b x (signOf s i) w e w') : TokPost b x O w e w' := by
  subst ho
  unfold signTok
  cases hk : signOf s i with
  | none => rw [hk] at h; exact ⟨⟨_, h.1⟩, h.2.2⟩
  | some p => rw [hk] at h; exact h

set_option maxHeartbeats 1600000 in
set_option maxRecDepth 100000 in
theorem lTok_digit (s : ByteArray) (i b : Nat) (x : TokS) (path : Bool) (after : Bool) (w : World) (hs : s.size ≤ 35184372088832) (ht : TokAt w b x) (hi : i < s.size) (hp : (path && partB (bt s i)) = false) (hd : digitB (bt s i) = true) :
    Calls Tryd.prog 13 #[.string s, .int .i64 i, .bool path, .bool after, .pointer (some ⟨b, 0, none⟩)] w (TokPost b x (tokOf s i path after) w) := by
  have ho : Hid (tokOf s i path after = numTok s i) := by show _ = _; rw [tokOf, if_neg (by omega), if_neg (fun h => by simp [h.1, h.2] at hp), if_neg (by intro h; rw [h] at hd; cases hd), if_pos (Or.inl hd)]
  obtain ⟨O, hO⟩ : ∃ O, tokOf s i path after = O := ⟨_, rfl⟩
  rw [hO] at ho
  rw [hO]
  clear hO
  have hf0 := ht.free 0
  have hc0 := ht.cell0
  have hf3 := ht.free 3
  have hc3 := ht.cell3
  have hib : ((i : Int) == (s.size : Int)) = false := by simp; omega
  have hb := get_bt s
  obtain ⟨c, hc⟩ : ∃ c, bt s i = c := ⟨_, rfl⟩
  have hb0 : ((s[i]'hi).toNat : Int) = c := by rw [hb i hi]; exact hc
  have hc0' : 0 ≤ c := by rw [← hc]; exact bt_nonneg s i
  have hc1' : c ≤ 255 := by rw [← hc]; exact bt_le s i
  have h96 : (c == 96) = false := by
    rw [hc] at hd
    by_cases e : c = 96
    · subst e; cases hd
    · simp [e]
  rw [hc] at hp hd
  clear hb hc
  have hnum := Lib.hid (lNumber_c s i b x w (by omega) (by omega) ht)
  cases path
  all_goals
    simp only [Bool.true_and, Bool.false_and] at hp
    go_enter Tryd.func13, Tryd.ntmps13
    go_wp2_with (first | (go_at_call 24; refine (IdentPart_c _ _).mono ?_; rintro e w' ⟨rfl, rfl⟩) | (go_at_call 26; refine (Digit_c _ _).mono ?_; rintro e w' ⟨rfl, rfl⟩))
    refine hnum.out.mono ?_
    rintro e w' ⟨rfl, ht2, hw2⟩
    go_wp2_with fail
    go_ret2
    exact num_tok ho.out ht2 hw2

set_option maxHeartbeats 1600000 in
set_option maxRecDepth 100000 in
theorem lTok_dot (s : ByteArray) (i b : Nat) (x : TokS) (path : Bool) (w : World) (hs : s.size ≤ 35184372088832) (ht : TokAt w b x) (hi : i < s.size) (hp : (path && partB (bt s i)) = false) (hd : dotNum s i false) :
    Calls Tryd.prog 13 #[.string s, .int .i64 i, .bool path, .bool false, .pointer (some ⟨b, 0, none⟩)] w (TokPost b x (tokOf s i path false) w) := by
  have ho : Hid (tokOf s i path false = numTok s i) := by show _ = _; rw [tokOf, if_neg (by omega), if_neg (fun h => by simp [h.1, h.2] at hp), if_neg (by rw [hd.1]; decide), if_pos (Or.inr hd)]
  obtain ⟨O, hO⟩ : ∃ O, tokOf s i path false = O := ⟨_, rfl⟩
  rw [hO] at ho
  rw [hO]
  clear hO
  have hf0 := ht.free 0
  have hc0 := ht.cell0
  have hf3 := ht.free 3
  have hc3 := ht.cell3
  have hib : ((i : Int) == (s.size : Int)) = false := by simp; omega
  have hb := get_bt s
  obtain ⟨c, hc⟩ : ∃ c, bt s i = c := ⟨_, rfl⟩
  have hb0 : ((s[i]'hi).toNat : Int) = c := by rw [hb i hi]; exact hc
  have hc0' : 0 ≤ c := by rw [← hc]; exact bt_nonneg s i
  have hc1' : c ≤ 255 := by rw [← hc]; exact bt_le s i
  have hlt := hd.2.2.1
  have hdg := hd.2.2.2
  have hc46 : c = 46 := by rw [← hc]; exact hd.1
  subst hc46
  obtain ⟨d, hd'⟩ : ∃ d, bt s (i + 1) = d := ⟨_, rfl⟩
  have hb1 : ((s[i + 1]'hlt).toNat : Int) = d := by rw [hb _ hlt]; exact hd'
  have hd46 : digitB 46 = false := by decide
  rw [hc] at hp
  rw [hd'] at hdg
  clear hb hc hd hd'
  have hnum := Lib.hid (lNumber_c s i b x w (by omega) (by omega) ht)
  cases path
  all_goals
    simp only [Bool.true_and, Bool.false_and] at hp
    go_enter Tryd.func13, Tryd.ntmps13
    go_wp2_with (first | (go_at_call 24; refine (IdentPart_c _ _).mono ?_; rintro e w' ⟨rfl, rfl⟩) | (go_at_call 26; refine (Digit_c _ _).mono ?_; rintro e w' ⟨rfl, rfl⟩))
    refine hnum.out.mono ?_
    rintro e w' ⟨rfl, ht2, hw2⟩
    go_wp2_with fail
    go_ret2
    exact num_tok ho.out ht2 hw2

set_option maxHeartbeats 1600000 in
set_option maxRecDepth 100000 in
theorem lTok_at (s : ByteArray) (i b : Nat) (x : TokS) (path : Bool) (after : Bool) (w : World) (hs : s.size ≤ 35184372088832) (ht : TokAt w b x) (hi : i < s.size) (hp : (path && partB (bt s i)) = false) (ha : atName s i) :
    Calls Tryd.prog 13 #[.string s, .int .i64 i, .bool path, .bool after, .pointer (some ⟨b, 0, none⟩)] w (TokPost b x (tokOf s i path after) w) := by
  have ho : Hid (tokOf s i path after = some ⟨kParam, some (s.extract (i + 1) (partsEnd s (i + 1))), none, partsEnd s (i + 1)⟩) := by show _ = _; rw [tokOf, if_neg (by omega), if_neg (fun h => by simp [h.1, h.2] at hp), if_neg (by rw [ha.1]; decide), if_neg (by unfold dotNum; rw [ha.1]; intro h; rcases h with h | h; revert h; decide; exact absurd h.1 (by decide)), if_pos ha]
  obtain ⟨O, hO⟩ : ∃ O, tokOf s i path after = O := ⟨_, rfl⟩
  rw [hO] at ho
  rw [hO]
  clear hO
  have hf0 := ht.free 0
  have hc0 := ht.cell0
  have hf3 := ht.free 3
  have hc3 := ht.cell3
  have hib : ((i : Int) == (s.size : Int)) = false := by simp; omega
  have hb := get_bt s
  obtain ⟨c, hc⟩ : ∃ c, bt s i = c := ⟨_, rfl⟩
  have hb0 : ((s[i]'hi).toNat : Int) = c := by rw [hb i hi]; exact hc
  have hc0' : 0 ≤ c := by rw [← hc]; exact bt_nonneg s i
  have hc1' : c ≤ 255 := by rw [← hc]; exact bt_le s i
  have hlt := ha.2.1
  have hlet := ha.2.2
  have hc64 : c = 64 := by rw [← hc]; exact ha.1
  subst hc64
  obtain ⟨d, hd'⟩ : ∃ d, bt s (i + 1) = d := ⟨_, rfl⟩
  have hb1 : ((s[i + 1]'hlt).toNat : Int) = d := by rw [hb _ hlt]; exact hd'
  have hd64 : digitB 64 = false := by decide
  rw [hc] at hp
  rw [hd'] at hlet
  clear hb hc ha hd'
  have hp1 := partsEnd_ge s (i + 1)
  have hp2 := partsEnd_le s (i + 1) (by omega)
  have hpe := lParts_c s (i + 1) w (by omega) (by omega)
  obtain ⟨e0, he0⟩ : ∃ e0, partsEnd s (i + 1) = e0 := ⟨_, rfl⟩
  rw [he0] at hp1 hp2 ho hpe
  rw [Int.natCast_add] at hpe
  clear he0
  have Hpe := Lib.hid hpe
  clear hpe
  cases path
  all_goals
    simp only [Bool.true_and, Bool.false_and] at hp
    go_enter Tryd.func13, Tryd.ntmps13
    go_wp2_with (first | (go_at_call 24; refine (IdentPart_c _ _).mono ?_; rintro e w' ⟨rfl, rfl⟩) | (go_at_call 26; refine (Digit_c _ _).mono ?_; rintro e w' ⟨rfl, rfl⟩) | (go_at_call 14; refine (Letter_c _ _).mono ?_; rintro e w' ⟨rfl, rfl⟩) | (go_at_call 15; refine Hpe.out.mono ?_; rintro e w' ⟨rfl, rfl⟩))
    go_region
    go_wp2_with fail
    go_ret2
    exact tokPost_some ho.out ((ht.setKind _).setText _) (((Only.refl b w).setCell 0 _).setCell 3 _).drew


end Go.Proofs.YtkhjenlclpcehaaDoor
