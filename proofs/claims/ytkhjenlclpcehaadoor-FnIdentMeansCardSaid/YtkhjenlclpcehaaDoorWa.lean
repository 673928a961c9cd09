/- The reference's tests of one byte, of blanks, comments and parts answer as the plain words say. Condition: the text is shorter than 2^62 bytes. -/
import Derived.Test.YtkhjenlclpcehaaDoorProg
import Derived.Test.YtkhjenlclpcehaaDoorPa
import Derived.WalkKit
import Derived.WalkSpells
import Derived.WalkLawsBesides
import Derived.Lib.Hide
namespace Go.Proofs.YtkhjenlclpcehaaDoor
open Go.RowKit Go.PlainAid

theorem ret_bool {a b : Bool} (h : a = b) : Ending.returned (.bool a) = .returned (.bool b) := by rw [h]
theorem ret_int {k : IntKind} {a b : Int} (h : a = b) : Ending.returned (.int k a) = .returned (.int k b) := by rw [h]

theorem Digit_c (c : Int) (w : World) :
    Calls Tryd.prog 26 #[.int .u8 c] w fun e w' => e = .returned (.bool (digitB c)) ∧ w = w' := by
  go_enter Tryd.func26, Tryd.ntmps26
  go_wp2
  all_goals (go_ret; refine ⟨ret_bool (bool_ext ?_), rfl⟩; rw [digitB_iff]; simp; try omega)

theorem Letter_c (c : Int) (w : World) :
    Calls Tryd.prog 14 #[.int .u8 c] w fun e w' => e = .returned (.bool (letterB c)) ∧ w = w' := by
  go_enter Tryd.func14, Tryd.ntmps14
  go_wp2
  all_goals (go_ret; refine ⟨ret_bool (bool_ext ?_), rfl⟩; rw [letterB_iff]; simp; try omega)

theorem Blank_c (c : Int) (w : World) :
    Calls Tryd.prog 22 #[.int .u8 c] w fun e w' => e = .returned (.bool (blankB c)) ∧ w = w' := by
  go_enter Tryd.func22, Tryd.ntmps22
  go_wp2
  all_goals (go_ret; refine ⟨ret_bool (bool_ext ?_), rfl⟩; rw [blankB_iff]; simp; try omega)

theorem IdentPart_c (c : Int) (w : World) :
    Calls Tryd.prog 24 #[.int .u8 c] w fun e w' => e = .returned (.bool (partB c)) ∧ w = w' := by
  go_enter Tryd.func24, Tryd.ntmps24
  go_wp2_with (first
    | (go_at_call 26; refine (Digit_c _ _).mono ?_; rintro e w' ⟨rfl, rfl⟩)
    | (go_at_call 14; refine (Letter_c _ _).mono ?_; rintro e w' ⟨rfl, rfl⟩))
  all_goals (go_ret; refine ⟨ret_bool ?_, rfl⟩; simp [partB, *])

theorem hexV_1 {c : Int} (h : digitB c = true) : (c - 48) % 256 = hexV c := by
  rw [digitB_iff] at h; unfold hexV; rw [if_pos h]; omega
theorem hexV_2 {c : Int} (h : 97 ≤ c ∧ c ≤ 102) : c - 97 + 10 = hexV c := by
  unfold hexV; rw [if_neg (by omega), if_pos h]; omega
theorem hexV_3 {c : Int} (h : 65 ≤ c ∧ c ≤ 70) : c - 65 + 10 = hexV c := by
  unfold hexV; rw [if_neg (by omega), if_neg (by omega), if_pos h]; omega
theorem hexV_4 {c : Int} (h : digitB c = false) (h1 : ¬ (97 ≤ c ∧ c ≤ 102)) (h2 : ¬ (65 ≤ c ∧ c ≤ 70)) : -1 = hexV c := by
  have h3 : ¬ (48 ≤ c ∧ c ≤ 57) := fun k => by rw [(digitB_iff c).2 k] at h; cases h
  unfold hexV; rw [if_neg h3, if_neg h1, if_neg h2]

theorem Hex_c (c : Int) (w : World) (h0 : 0 ≤ c) (h1 : c ≤ 255) :
    Calls Tryd.prog 42 #[.int .u8 c] w fun e w' => e = .returned (.int .i64 (hexV c)) ∧ w = w' := by
  go_enter Tryd.func42, Tryd.ntmps42
  go_wp2_with (go_at_call 26; refine (Digit_c _ _).mono ?_; rintro e w' ⟨rfl, rfl⟩)
  all_goals (go_ret; exact ⟨ret_int (by first | exact hexV_1 ‹_› | exact hexV_2 (by omega) | exact hexV_3 (by omega) | exact hexV_4 ‹_› (by omega) (by omega)), rfl⟩)

/-- The bytes of a part of a text. -/
theorem startsB_of {s p : ByteArray} {i : Nat} (h : i + p.size ≤ s.size) : ((s.extract i (i + p.size)).toList == p.toList) = startsB s i p := by simp [startsB, h]

theorem lStarts_c (s p : ByteArray) (i : Nat) (w : World) (hs : s.size ≤ 4611686018427387904) (hp : p.size ≤ 4611686018427387904) (hi : i ≤ 4611686018427387904) :
    Calls Tryd.prog 23 #[.string s, .int .i64 i, .string p] w fun e w' => e = .returned (.bool (startsB s i p)) ∧ w = w' := by
  go_enter Tryd.func23, Tryd.ntmps23
  go_wp2
  all_goals (go_ret; refine ⟨ret_bool ?_, rfl⟩; first | exact startsB_of (by omega) | (rw [startsB, decide_eq_false (by omega)]; rfl))

theorem lBlanks_c (s : ByteArray) (i : Nat) (w : World) (hs : s.size ≤ 4611686018427387904) (hi : i ≤ s.size) :
    Calls Tryd.prog 10 #[.string s, .int .i64 i] w fun e w' => e = .returned (.int .i64 (blanksEnd s i)) ∧ w = w' := by
  have hb := get_bt s
  go_enter Tryd.func10, Tryd.ntmps10
  go_wp2
  go_loop [1] (fun v => ∃ k : Nat, k ≤ s.size ∧ v = .int .i64 k ∧ Hid (blanksEnd s k = blanksEnd s i)) (fun v => s.size - (intOf v).toNat)
  case atStart => exact ⟨i, hi, rfl, rfl⟩
  case round =>
    obtain ⟨k, hk, rfl, hr⟩ := hrel
    by_cases hlt : k < s.size
    · cases hbl : blankB (bt s k)
      · go_wp2_with (go_at_call 22; refine (Blank_c _ _).mono ?_; rintro e w' ⟨rfl, rfl⟩)
        go_ret
        refine ⟨ret_int ?_, rfl⟩
        rw [← hr.out, blanksEnd_stop (by simp [hbl])]
      · go_wp2_with (go_at_call 22; refine (Blank_c _ _).mono ?_; rintro e w' ⟨rfl, rfl⟩)
        go_round
        case rel => exact ⟨k + 1, by omega, by go_num, by show blanksEnd s (k + 1) = _; rw [← hr.out, blanksEnd_go hlt hbl]⟩
        case measure => simp [intOf]; omega
    · go_wp2
      go_ret
      refine ⟨ret_int ?_, rfl⟩
      rw [← hr.out, blanksEnd_stop (by simp [hlt])]

theorem lParts_c (s : ByteArray) (i : Nat) (w : World) (hs : s.size ≤ 4611686018427387904) (hi : i ≤ s.size) :
    Calls Tryd.prog 15 #[.string s, .int .i64 i] w fun e w' => e = .returned (.int .i64 (partsEnd s i)) ∧ w = w' := by
  have hb := get_bt s
  go_enter Tryd.func15, Tryd.ntmps15
  go_wp2
  go_loop [1] (fun v => ∃ k : Nat, k ≤ s.size ∧ v = .int .i64 k ∧ Hid (partsEnd s k = partsEnd s i)) (fun v => s.size - (intOf v).toNat)
  case atStart => exact ⟨i, hi, rfl, rfl⟩
  case round =>
    obtain ⟨k, hk, rfl, hr⟩ := hrel
    by_cases hlt : k < s.size
    · cases hbl : partB (bt s k)
      · go_wp2_with (go_at_call 24; refine (IdentPart_c _ _).mono ?_; rintro e w' ⟨rfl, rfl⟩)
        go_ret
        refine ⟨ret_int ?_, rfl⟩
        rw [← hr.out, partsEnd_stop (by simp [hbl])]
      · go_wp2_with (go_at_call 24; refine (IdentPart_c _ _).mono ?_; rintro e w' ⟨rfl, rfl⟩)
        go_round
        case rel => exact ⟨k + 1, by omega, by go_num, by show partsEnd s (k + 1) = _; rw [← hr.out, partsEnd_go hlt hbl]⟩
        case measure => simp [intOf]; omega
    · go_wp2
      go_ret
      refine ⟨ret_int ?_, rfl⟩
      rw [← hr.out, partsEnd_stop (by simp [hlt])]

theorem startsB_two {s p : ByteArray} {i : Nat} (h : startsB s i p = true) : i + p.size ≤ s.size := by
  unfold startsB at h; simp at h; exact h.1

theorem lComment_c (s : ByteArray) (i : Nat) (w : World) (hs : s.size ≤ 2305843009213693952) (hi : i ≤ s.size) :
    Calls Tryd.prog 11 #[.string s, .int .i64 i] w fun e w' => e = .returned (.int .i64 (endInt (commentEnd s i))) ∧ w = w' := by
  have hb := get_bt s
  by_cases hc : startsB s i ⟨#[35]⟩ = true ∨ startsB s i ⟨#[45, 45]⟩ = true
  · have hend : Hid (endInt (commentEnd s i) = ((min (lineEnd s i + 1) s.size : Nat) : Int)) := by unfold commentEnd; rw [if_pos hc]; rfl
    cases h1 : startsB s i ⟨#[35]⟩ <;> cases h2 : startsB s i ⟨#[45, 45]⟩
    · simp [h1, h2] at hc
    all_goals
      clear hc
      go_enter Tryd.func11, Tryd.ntmps11
      go_wp2_with (go_at_call 23; refine (lStarts_c _ _ _ _ (by omega) (by decide) (by omega)).mono ?_; rintro e w' ⟨rfl, rfl⟩)
      go_loop [1] (fun v => ∃ k : Nat, k ≤ s.size ∧ v = .int .i64 k ∧ Hid (lineEnd s k = lineEnd s i)) (fun v => s.size - (intOf v).toNat)
      case atStart => exact ⟨i, hi, rfl, rfl⟩
      case round =>
        obtain ⟨k, hk, rfl, hr⟩ := hrel
        by_cases hlt : k < s.size
        · by_cases hbl : bt s k = 10
          · have hb1 : (bt s k != 10) = false := by simp [hbl]
            have Hbl := Lib.hid hbl
            clear hbl
            go_wp2
            go_ret
            refine ⟨ret_int ?_, rfl⟩
            rw [hend.out, ← hr.out, lineEnd_stop (by simp [Hbl.out])]
            omega
          · have hb1 : (bt s k != 10) = true := by simp [hbl]
            go_wp2
            go_round
            case rel => exact ⟨k + 1, by omega, by go_num, by show lineEnd s (k + 1) = _; rw [← hr.out, lineEnd_go hlt hbl]⟩
            case measure => simp [intOf]; omega
        · go_wp2
          go_ret
          refine ⟨ret_int ?_, rfl⟩
          rw [hend.out, ← hr.out, lineEnd_stop (by simp [hlt])]
          omega
  · have h1 : startsB s i ⟨#[35]⟩ = false := by simpa using fun h => hc (Or.inl h)
    have h2 : startsB s i ⟨#[45, 45]⟩ = false := by simpa using fun h => hc (Or.inr h)
    cases h3 : startsB s i ⟨#[47, 42]⟩
    · have hend : Hid (endInt (commentEnd s i) = (i : Int)) := by unfold commentEnd; rw [if_neg hc, h3]; rfl
      clear hc
      go_enter Tryd.func11, Tryd.ntmps11
      go_wp2_with (go_at_call 23; refine (lStarts_c _ _ _ _ (by omega) (by decide) (by omega)).mono ?_; rintro e w' ⟨rfl, rfl⟩)
      go_ret
      exact ⟨ret_int hend.out.symm, rfl⟩
    · have hend : Hid (commentEnd s i = starEnd s (i + 2)) := by unfold commentEnd; rw [if_neg hc, h3]; rfl
      have hi2 := startsB_two h3
      have hz : (ByteArray.mk #[47, 42]).size = 2 := rfl
      rw [hz] at hi2
      clear hc hz
      go_enter Tryd.func11, Tryd.ntmps11
      go_wp2_with (go_at_call 23; refine (lStarts_c _ _ _ _ (by omega) (by decide) (by omega)).mono ?_; rintro e w' ⟨rfl, rfl⟩)
      go_loop [5] (fun v => ∃ k : Nat, k ≤ s.size ∧ v = .int .i64 k ∧ Hid (starEnd s k = starEnd s (i + 2))) (fun v => s.size - (intOf v).toNat)
      case atStart => exact ⟨i + 2, hi2, by go_num, rfl⟩
      case round =>
        obtain ⟨k, hk, rfl, hr⟩ := hrel
        by_cases hlt : k < s.size
        · cases hbl : startsB s k ⟨#[42, 47]⟩
          · go_wp2_with (go_at_call 23; refine (lStarts_c _ _ _ _ (by omega) (by decide) (by omega)).mono ?_; rintro e w' ⟨rfl, rfl⟩)
            go_round
            case rel => exact ⟨k + 1, by omega, by go_num, by show starEnd s (k + 1) = _; rw [← hr.out, starEnd_go hlt hbl]⟩
            case measure => simp [intOf]; omega
          · go_wp2_with (go_at_call 23; refine (lStarts_c _ _ _ _ (by omega) (by decide) (by omega)).mono ?_; rintro e w' ⟨rfl, rfl⟩)
            go_ret
            refine ⟨ret_int ?_, rfl⟩
            rw [hend.out, ← hr.out, starEnd_hit hlt hbl]
            rfl
        · go_wp2
          go_ret
          refine ⟨ret_int ?_, rfl⟩
          rw [hend.out, ← hr.out, starEnd_end hlt]
          rfl

end Go.Proofs.YtkhjenlclpcehaaDoor
