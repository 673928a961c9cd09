/- Plain words about bytes and places in a text: digits, letters, blanks, hexadecimal digits, 'a part stands at a place'; no program in sight. No condition. · The reference's tests of one byte, of blanks, comments and parts answer as the plain words say. Condition: the text is shorter than 2^62 bytes. · Blocks of bytes that a call makes ('[]byte(s)'): what they hold, a store into them, and the text that they give back. No condition. · The reference's token in memory: one block of eight cells; stores into it; and the frame 'only this block may have changed'. No condition. · The parser's lexer in memory: one block of twelve cells, and its file's block; stores into the lexer. No condition. · The lexer's small methods: what stands ahead of it, and steps. Condition: no place passes the text's end, the text is at most 2^45 bytes long. · Numbers and signs, plain: where a number ends, of which kind and base it is, and whether it is one. No condition. · What stands ahead of a quotation mark, plain: how many letters, whether raw, whether bytes. No condition. · Escapes, plain: what an escape stands for, and where it ends. No condition. · The reference's escapes are the plain ones. Condition: the text is shorter than 2^61 bytes. · What stands between quotation marks, plain: its value, and where it ends. No condition. · What the reference reads between quotation marks is the plain value. Condition: the text is at most 2^45 bytes long. · Lines of a text, as the parser cuts them: each with its end makes one byte more than the text. Condition: the text is at most 2^38 bytes long. · The lines of a file: where each begins, as the parser lays them. Condition: the text is at most 2^38 bytes long. · The line and the column of a place. Condition: the place is in the text, or its end; the text is at most 2^38 bytes long. -/
import Derived.PlainAid
import Derived.Test.YtmkkeacbabmaeaaGreatDoorProg
import Derived.WalkKit
import Derived.WalkSpells
import Derived.WalkLawsBesides
import Derived.Lib.Hide
import Derived.Laws.IdiomStrings
import Derived.Lib.ConvBytes
import Derived.Deep.QuietTactic
import Derived.BigQuiet
import Derived.RegionTactic
import GoSem.Core.Utf8
import Derived.Deep.DeepCutAuto
import Derived.Deep.CutBlock
import Derived.Lib.BufferRead
import Derived.Deep.LoopGhost
import Derived.Lib.LazyBuf
namespace Go.Proofs.YtmkkeacbabmaeaaGreatDoor
open Go.PlainAid

def digitB (c : Int) : Bool := decide (48 ≤ c) && decide (c ≤ 57)
def letterB (c : Int) : Bool := (decide (97 ≤ c) && decide (c ≤ 122)) || (decide (65 ≤ c) && decide (c ≤ 90)) || decide (c = 95)
def partB (c : Int) : Bool := digitB c || letterB c
def blankB (c : Int) : Bool := decide (c = 32) || decide (c = 9) || decide (c = 10) || decide (c = 13)
def hexV (c : Int) : Int := if 48 ≤ c ∧ c ≤ 57 then c - 48 else if 97 ≤ c ∧ c ≤ 102 then c - 87 else if 65 ≤ c ∧ c ≤ 70 then c - 55 else -1

theorem digitB_iff (c : Int) : digitB c = true ↔ 48 ≤ c ∧ c ≤ 57 := by simp [digitB]
theorem letterB_iff (c : Int) : letterB c = true ↔ (97 ≤ c ∧ c ≤ 122) ∨ (65 ≤ c ∧ c ≤ 90) ∨ c = 95 := by simp [letterB, or_assoc]
theorem partB_iff (c : Int) : partB c = true ↔ (48 ≤ c ∧ c ≤ 57) ∨ (97 ≤ c ∧ c ≤ 122) ∨ (65 ≤ c ∧ c ≤ 90) ∨ c = 95 := by simp [partB, digitB_iff, letterB_iff]
theorem blankB_iff (c : Int) : blankB c = true ↔ c = 32 ∨ c = 9 ∨ c = 10 ∨ c = 13 := by simp [blankB, or_assoc]

/-- Two Bools that are true together are one. -/
theorem bool_ext {a b : Bool} (h : a = true ↔ b = true) : a = b := Bool.eq_iff_iff.2 h
theorem bool_false {b : Bool} {p : Prop} (h : b = true ↔ p) (hp : ¬ p) : b = false := by cases b with
  | false => rfl
  | true => exact absurd (h.1 rfl) hp

/-- A part stands at a place of a text. -/
def startsB (s : ByteArray) (at_ : Nat) (p : ByteArray) : Bool := decide (at_ + p.size ≤ s.size) && ((s.extract at_ (at_ + p.size)).toList == p.toList)

/-- Where the blanks from a place on end. -/
def blanksEnd (s : ByteArray) (i : Nat) : Nat := if i < s.size ∧ blankB (bt s i) = true then blanksEnd s (i + 1) else i
termination_by s.size - i
decreasing_by omega

theorem blanksEnd_go {s : ByteArray} {i : Nat} (h : i < s.size) (hb : blankB (bt s i) = true) : blanksEnd s i = blanksEnd s (i + 1) := by rw [blanksEnd, if_pos ⟨h, hb⟩]
theorem blanksEnd_stop {s : ByteArray} {i : Nat} (h : ¬ (i < s.size ∧ blankB (bt s i) = true)) : blanksEnd s i = i := by rw [blanksEnd, if_neg h]

/-- Where the line from a place on ends: at its line feed, or with the text. -/
def lineEnd (s : ByteArray) (i : Nat) : Nat := if i < s.size ∧ bt s i ≠ 10 then lineEnd s (i + 1) else i
termination_by s.size - i
decreasing_by omega

/-- Where the letters, digits and underscores from a place on end. -/
def partsEnd (s : ByteArray) (i : Nat) : Nat := if i < s.size ∧ partB (bt s i) = true then partsEnd s (i + 1) else i
termination_by s.size - i
decreasing_by omega

theorem lineEnd_go {s : ByteArray} {i : Nat} (h : i < s.size) (hb : bt s i ≠ 10) : lineEnd s i = lineEnd s (i + 1) := by rw [lineEnd, if_pos ⟨h, hb⟩]
theorem lineEnd_stop {s : ByteArray} {i : Nat} (h : ¬ (i < s.size ∧ bt s i ≠ 10)) : lineEnd s i = i := by rw [lineEnd, if_neg h]
theorem partsEnd_go {s : ByteArray} {i : Nat} (h : i < s.size) (hb : partB (bt s i) = true) : partsEnd s i = partsEnd s (i + 1) := by rw [partsEnd, if_pos ⟨h, hb⟩]
theorem partsEnd_stop {s : ByteArray} {i : Nat} (h : ¬ (i < s.size ∧ partB (bt s i) = true)) : partsEnd s i = i := by rw [partsEnd, if_neg h]

/-- Where the first '*/' from a place on ends; none: the comment is not closed. -/
def starEnd (s : ByteArray) (i : Nat) : Option Nat := if i < s.size then (if startsB s i ⟨#[42, 47]⟩ = true then some (i + 2) else starEnd s (i + 1)) else none
termination_by s.size - i
decreasing_by omega

theorem starEnd_hit {s : ByteArray} {i : Nat} (h : i < s.size) (hb : startsB s i ⟨#[42, 47]⟩ = true) : starEnd s i = some (i + 2) := by rw [starEnd, if_pos h, if_pos hb]
theorem starEnd_go {s : ByteArray} {i : Nat} (h : i < s.size) (hb : startsB s i ⟨#[42, 47]⟩ = false) : starEnd s i = starEnd s (i + 1) := by rw [starEnd, if_pos h, if_neg (by simp [hb])]
theorem starEnd_end {s : ByteArray} {i : Nat} (h : ¬ i < s.size) : starEnd s i = none := by rw [starEnd, if_neg h]

/-- Where the comment at a place ends: the place itself, if there is none; none, if it is not closed. -/
def commentEnd (s : ByteArray) (i : Nat) : Option Nat :=
  if startsB s i ⟨#[35]⟩ = true ∨ startsB s i ⟨#[45, 45]⟩ = true then some (min (lineEnd s i + 1) s.size)
  else if startsB s i ⟨#[47, 42]⟩ = true then starEnd s (i + 2) else some i

/-- An end as the reference gives it: -1 for none. -/
def endInt : Option Nat → Int
  | some n => n
  | none => -1

theorem blanksEnd_ge (s : ByteArray) (i : Nat) : i ≤ blanksEnd s i := by
  fun_induction blanksEnd s i <;> omega
theorem blanksEnd_le (s : ByteArray) (i : Nat) (h : i ≤ s.size) : blanksEnd s i ≤ s.size := by
  fun_induction blanksEnd s i <;> omega
theorem lineEnd_ge (s : ByteArray) (i : Nat) : i ≤ lineEnd s i := by
  fun_induction lineEnd s i <;> omega
theorem lineEnd_le (s : ByteArray) (i : Nat) (h : i ≤ s.size) : lineEnd s i ≤ s.size := by
  fun_induction lineEnd s i <;> omega
theorem partsEnd_ge (s : ByteArray) (i : Nat) : i ≤ partsEnd s i := by
  fun_induction partsEnd s i <;> omega
theorem partsEnd_le (s : ByteArray) (i : Nat) (h : i ≤ s.size) : partsEnd s i ≤ s.size := by
  fun_induction partsEnd s i <;> omega

end Go.Proofs.YtmkkeacbabmaeaaGreatDoor
namespace Go.Proofs.YtmkkeacbabmaeaaGreatDoor
open Go.RowKit Go.PlainAid

theorem ret_bool {a b : Bool} (h : a = b) : Ending.returned (.bool a) = .returned (.bool b) := by rw [h]
theorem ret_int {k : IntKind} {a b : Int} (h : a = b) : Ending.returned (.int k a) = .returned (.int k b) := by rw [h]

theorem Digit_c (c : Int) (w : World) :
    Calls Tryz.prog 28 #[.int .u8 c] w fun e w' => e = .returned (.bool (digitB c)) ∧ w = w' := by
  go_enter Tryz.func28, Tryz.ntmps28
  go_wp2
  all_goals (go_ret; refine ⟨ret_bool (bool_ext ?_), rfl⟩; rw [digitB_iff]; simp; try omega)

theorem Letter_c (c : Int) (w : World) :
    Calls Tryz.prog 30 #[.int .u8 c] w fun e w' => e = .returned (.bool (letterB c)) ∧ w = w' := by
  go_enter Tryz.func30, Tryz.ntmps30
  go_wp2
  all_goals (go_ret; refine ⟨ret_bool (bool_ext ?_), rfl⟩; rw [letterB_iff]; simp; try omega)

theorem Blank_c (c : Int) (w : World) :
    Calls Tryz.prog 24 #[.int .u8 c] w fun e w' => e = .returned (.bool (blankB c)) ∧ w = w' := by
  go_enter Tryz.func24, Tryz.ntmps24
  go_wp2
  all_goals (go_ret; refine ⟨ret_bool (bool_ext ?_), rfl⟩; rw [blankB_iff]; simp; try omega)

theorem IdentPart_c (c : Int) (w : World) :
    Calls Tryz.prog 25 #[.int .u8 c] w fun e w' => e = .returned (.bool (partB c)) ∧ w = w' := by
  go_enter Tryz.func25, Tryz.ntmps25
  go_wp2_with (first
    | (go_at_call 28; refine (Digit_c _ _).mono ?_; rintro e w' ⟨rfl, rfl⟩)
    | (go_at_call 30; refine (Letter_c _ _).mono ?_; rintro e w' ⟨rfl, rfl⟩))
  all_goals (go_ret; refine ⟨ret_bool ?_, rfl⟩; simp [partB, *])

theorem hexV_1 {c : Int} (h : digitB c = true) : (c - 48) % 256 = hexV c := by
  rw [digitB_iff] at h; unfold hexV; rw [if_pos h]; omega
theorem hexV_2 {c : Int} (h : 97 ≤ c ∧ c ≤ 102) : c - 97 + 10 = hexV c := by
  unfold hexV; rw [if_neg (by omega), if_pos h]; omega
theorem hexV_3 {c : Int} (h : 65 ≤ c ∧ c ≤ 70) : c - 65 + 10 = hexV c := by
  unfold hexV; rw [if_neg (by omega), if_neg (by omega), if_pos h]; omega
theorem hexV_4 {c : Int} (h : digitB c = false) (h1 : ¬ (97 ≤ c ∧ c ≤ 102)) (h2 : ¬ (65 ≤ c ∧ c ≤ 70)) : -1 = hexV c := by
  have h3 : ¬ (48 ≤ c ∧ c ≤ 57) := fun k => by rw [(digitB_iff c).2 k] at h; cases h
  unfold hexV; rw [if_neg h3, if_neg h1, if_neg h2]

theorem Hex_c (c : Int) (w : World) (h0 : 0 ≤ c) (h1 : c ≤ 255) :
    Calls Tryz.prog 44 #[.int .u8 c] w fun e w' => e = .returned (.int .i64 (hexV c)) ∧ w = w' := by
  go_enter Tryz.func44, Tryz.ntmps44
  go_wp2_with (go_at_call 28; refine (Digit_c _ _).mono ?_; rintro e w' ⟨rfl, rfl⟩)
  all_goals (go_ret; exact ⟨ret_int (by first | exact hexV_1 ‹_› | exact hexV_2 (by omega) | exact hexV_3 (by omega) | exact hexV_4 ‹_› (by omega) (by omega)), rfl⟩)

/-- The bytes of a part of a text. -/
theorem startsB_of {s p : ByteArray} {i : Nat} (h : i + p.size ≤ s.size) : ((s.extract i (i + p.size)).toList == p.toList) = startsB s i p := by simp [startsB, h]

theorem lStarts_c (s p : ByteArray) (i : Nat) (w : World) (hs : s.size ≤ 4611686018427387904) (hp : p.size ≤ 4611686018427387904) (hi : i ≤ 4611686018427387904) :
    Calls Tryz.prog 11 #[.string s, .int .i64 i, .string p] w fun e w' => e = .returned (.bool (startsB s i p)) ∧ w = w' := by
  go_enter Tryz.func11, Tryz.ntmps11
  go_wp2
  all_goals (go_ret; refine ⟨ret_bool ?_, rfl⟩; first | exact startsB_of (by omega) | (rw [startsB, decide_eq_false (by omega)]; rfl))

theorem lBlanks_c (s : ByteArray) (i : Nat) (w : World) (hs : s.size ≤ 4611686018427387904) (hi : i ≤ s.size) :
    Calls Tryz.prog 16 #[.string s, .int .i64 i] w fun e w' => e = .returned (.int .i64 (blanksEnd s i)) ∧ w = w' := by
  have hb := get_bt s
  go_enter Tryz.func16, Tryz.ntmps16
  go_wp2
  go_loop [1] (fun v => ∃ k : Nat, k ≤ s.size ∧ v = .int .i64 k ∧ Hid (blanksEnd s k = blanksEnd s i)) (fun v => s.size - (intOf v).toNat)
  case atStart => exact ⟨i, hi, rfl, rfl⟩
  case round =>
    obtain ⟨k, hk, rfl, hr⟩ := hrel
    by_cases hlt : k < s.size
    · cases hbl : blankB (bt s k)
      · go_wp2_with (go_at_call 24; refine (Blank_c _ _).mono ?_; rintro e w' ⟨rfl, rfl⟩)
        go_ret
        refine ⟨ret_int ?_, rfl⟩
        rw [← hr.out, blanksEnd_stop (by simp [hbl])]
      · go_wp2_with (go_at_call 24; refine (Blank_c _ _).mono ?_; rintro e w' ⟨rfl, rfl⟩)
        go_round
        case rel => exact ⟨k + 1, by omega, by go_num, by show blanksEnd s (k + 1) = _; rw [← hr.out, blanksEnd_go hlt hbl]⟩
        case measure => simp [intOf]; omega
    · go_wp2
      go_ret
      refine ⟨ret_int ?_, rfl⟩
      rw [← hr.out, blanksEnd_stop (by simp [hlt])]

theorem lParts_c (s : ByteArray) (i : Nat) (w : World) (hs : s.size ≤ 4611686018427387904) (hi : i ≤ s.size) :
    Calls Tryz.prog 26 #[.string s, .int .i64 i] w fun e w' => e = .returned (.int .i64 (partsEnd s i)) ∧ w = w' := by
  have hb := get_bt s
  go_enter Tryz.func26, Tryz.ntmps26
  go_wp2
  go_loop [1] (fun v => ∃ k : Nat, k ≤ s.size ∧ v = .int .i64 k ∧ Hid (partsEnd s k = partsEnd s i)) (fun v => s.size - (intOf v).toNat)
  case atStart => exact ⟨i, hi, rfl, rfl⟩
  case round =>
    obtain ⟨k, hk, rfl, hr⟩ := hrel
    by_cases hlt : k < s.size
    · cases hbl : partB (bt s k)
      · go_wp2_with (go_at_call 25; refine (IdentPart_c _ _).mono ?_; rintro e w' ⟨rfl, rfl⟩)
        go_ret
        refine ⟨ret_int ?_, rfl⟩
        rw [← hr.out, partsEnd_stop (by simp [hbl])]
      · go_wp2_with (go_at_call 25; refine (IdentPart_c _ _).mono ?_; rintro e w' ⟨rfl, rfl⟩)
        go_round
        case rel => exact ⟨k + 1, by omega, by go_num, by show partsEnd s (k + 1) = _; rw [← hr.out, partsEnd_go hlt hbl]⟩
        case measure => simp [intOf]; omega
    · go_wp2
      go_ret
      refine ⟨ret_int ?_, rfl⟩
      rw [← hr.out, partsEnd_stop (by simp [hlt])]

theorem startsB_two {s p : ByteArray} {i : Nat} (h : startsB s i p = true) : i + p.size ≤ s.size := by
  unfold startsB at h; simp at h; exact h.1

theorem lComment_c (s : ByteArray) (i : Nat) (w : World) (hs : s.size ≤ 2305843009213693952) (hi : i ≤ s.size) :
    Calls Tryz.prog 17 #[.string s, .int .i64 i] w fun e w' => e = .returned (.int .i64 (endInt (commentEnd s i))) ∧ w = w' := by
  have hb := get_bt s
  by_cases hc : startsB s i ⟨#[35]⟩ = true ∨ startsB s i ⟨#[45, 45]⟩ = true
  · have hend : Hid (endInt (commentEnd s i) = ((min (lineEnd s i + 1) s.size : Nat) : Int)) := by unfold commentEnd; rw [if_pos hc]; rfl
    cases h1 : startsB s i ⟨#[35]⟩ <;> cases h2 : startsB s i ⟨#[45, 45]⟩
    · simp [h1, h2] at hc
    all_goals
      clear hc
      go_enter Tryz.func17, Tryz.ntmps17
      go_wp2_with (go_at_call 11; refine (lStarts_c _ _ _ _ (by omega) (by decide) (by omega)).mono ?_; rintro e w' ⟨rfl, rfl⟩)
      go_loop [1] (fun v => ∃ k : Nat, k ≤ s.size ∧ v = .int .i64 k ∧ Hid (lineEnd s k = lineEnd s i)) (fun v => s.size - (intOf v).toNat)
      case atStart => exact ⟨i, hi, rfl, rfl⟩
      case round =>
        obtain ⟨k, hk, rfl, hr⟩ := hrel
        by_cases hlt : k < s.size
        · by_cases hbl : bt s k = 10
          · have hb1 : (bt s k != 10) = false := by simp [hbl]
            have Hbl := Lib.hid hbl
            clear hbl
            go_wp2
            go_ret
            refine ⟨ret_int ?_, rfl⟩
            rw [hend.out, ← hr.out, lineEnd_stop (by simp [Hbl.out])]
            omega
          · have hb1 : (bt s k != 10) = true := by simp [hbl]
            go_wp2
            go_round
            case rel => exact ⟨k + 1, by omega, by go_num, by show lineEnd s (k + 1) = _; rw [← hr.out, lineEnd_go hlt hbl]⟩
            case measure => simp [intOf]; omega
        · go_wp2
          go_ret
          refine ⟨ret_int ?_, rfl⟩
          rw [hend.out, ← hr.out, lineEnd_stop (by simp [hlt])]
          omega
  · have h1 : startsB s i ⟨#[35]⟩ = false := by simpa using fun h => hc (Or.inl h)
    have h2 : startsB s i ⟨#[45, 45]⟩ = false := by simpa using fun h => hc (Or.inr h)
    cases h3 : startsB s i ⟨#[47, 42]⟩
    · have hend : Hid (endInt (commentEnd s i) = (i : Int)) := by unfold commentEnd; rw [if_neg hc, h3]; rfl
      clear hc
      go_enter Tryz.func17, Tryz.ntmps17
      go_wp2_with (go_at_call 11; refine (lStarts_c _ _ _ _ (by omega) (by decide) (by omega)).mono ?_; rintro e w' ⟨rfl, rfl⟩)
      go_ret
      exact ⟨ret_int hend.out.symm, rfl⟩
    · have hend : Hid (commentEnd s i = starEnd s (i + 2)) := by unfold commentEnd; rw [if_neg hc, h3]; rfl
      have hi2 := startsB_two h3
      have hz : (ByteArray.mk #[47, 42]).size = 2 := rfl
      rw [hz] at hi2
      clear hc hz
      go_enter Tryz.func17, Tryz.ntmps17
      go_wp2_with (go_at_call 11; refine (lStarts_c _ _ _ _ (by omega) (by decide) (by omega)).mono ?_; rintro e w' ⟨rfl, rfl⟩)
      go_loop [5] (fun v => ∃ k : Nat, k ≤ s.size ∧ v = .int .i64 k ∧ Hid (starEnd s k = starEnd s (i + 2))) (fun v => s.size - (intOf v).toNat)
      case atStart => exact ⟨i + 2, hi2, by go_num, rfl⟩
      case round =>
        obtain ⟨k, hk, rfl, hr⟩ := hrel
        by_cases hlt : k < s.size
        · cases hbl : startsB s k ⟨#[42, 47]⟩
          · go_wp2_with (go_at_call 11; refine (lStarts_c _ _ _ _ (by omega) (by decide) (by omega)).mono ?_; rintro e w' ⟨rfl, rfl⟩)
            go_round
            case rel => exact ⟨k + 1, by omega, by go_num, by show starEnd s (k + 1) = _; rw [← hr.out, starEnd_go hlt hbl]⟩
            case measure => simp [intOf]; omega
          · go_wp2_with (go_at_call 11; refine (lStarts_c _ _ _ _ (by omega) (by decide) (by omega)).mono ?_; rintro e w' ⟨rfl, rfl⟩)
            go_ret
            refine ⟨ret_int ?_, rfl⟩
            rw [hend.out, ← hr.out, starEnd_hit hlt hbl]
            rfl
        · go_wp2
          go_ret
          refine ⟨ret_int ?_, rfl⟩
          rw [hend.out, ← hr.out, starEnd_end hlt]
          rfl

end Go.Proofs.YtmkkeacbabmaeaaGreatDoor
namespace Go.Proofs.YtmkkeacbabmaeaaGreatDoor
open Go.RowKit Go.PlainAid

/-- Block g holds the bytes l at its head, and none of these cells is frozen. -/
def BytesAt (w : World) (g : Nat) (l : List UInt8) : Prop :=
  ∃ C N, w.heap[g]? = some (.cells C 5 (N, N + 1)) ∧ C.size = N ∧ l.length ≤ N ∧ ∀ j (h : j < l.length), C[j]? = some (.int .u8 ((l[j]'h).toNat : Int))

theorem BytesAt.lt {w : World} {g : Nat} {l : List UInt8} (h : BytesAt w g l) : g < w.heap.size := by
  obtain ⟨C, N, hg, _⟩ := h
  exact (Array.getElem?_eq_some_iff.1 hg).1

theorem BytesAt.cell {w : World} {g : Nat} {l : List UInt8} (h : BytesAt w g l) (j : Nat) (hj : j < l.length) : w.cell? ⟨g, j, none⟩ = some (.int .u8 ((l[j]'hj).toNat : Int)) := by
  obtain ⟨C, N, hg, hN, hl, hc⟩ := h
  simp [World.cell?, hg, hc j hj]

theorem BytesAt.notFrozen {w : World} {g : Nat} {l : List UInt8} (h : BytesAt w g l) (j : Nat) (hj : j < l.length) : w.frozen? ⟨g, j, none⟩ = false := by
  obtain ⟨C, N, hg, hN, hl, hc⟩ := h
  simp [World.frozen?, hg]
  omega

theorem setCell_block {w : World} {g : Nat} {C : Array Value} {T : TypeId} {fr : Nat × Nat} {j : Nat} {v : Value} (h : w.heap[g]? = some (.cells C T fr)) : (w.setCell ⟨g, j, none⟩ v).heap[g]? = some (.cells (C.set! j v) T fr) := by
  simp [World.setCell, Array.getElem?_modify, h]

theorem add_off (g j : Nat) : (⟨g, 0, none⟩ : Addr).add j = ⟨g, j, none⟩ := by unfold Addr.add; split <;> simp_all

theorem BytesAt.set {w : World} {g : Nat} {l : List UInt8} (h : BytesAt w g l) (j : Nat) (x : UInt8) : BytesAt (w.setCell ⟨g, j, none⟩ (.int .u8 (x.toNat : Int))) g (l.set j x) := by
  obtain ⟨C, N, hg, hN, hl, hc⟩ := h
  refine ⟨C.set! j (.int .u8 (x.toNat : Int)), N, setCell_block hg, by simp [hN], by simpa using hl, ?_⟩
  intro i hi
  have hi' : i < l.length := by simpa using hi
  by_cases e : j = i
  · subst e
    simp [Array.set!, show j < C.size by omega]
  · simp [Array.set!, e]
    rw [hc i hi']

theorem BytesAt.kept {w w' : World} {g : Nat} {l : List UInt8} (h : BytesAt w g l) (hb : w'.heap[g]? = w.heap[g]?) : BytesAt w' g l := by
  obtain ⟨C, N, hg, r⟩ := h
  exact ⟨C, N, by rw [hb, hg], r⟩

theorem BytesAt.below {w w' : World} {g B : Nat} {l : List UInt8} (h : BytesAt w g l) (hb : Below B w w') (hg : g < B) : BytesAt w' g l := h.kept (hb.block g hg)

/-- '[]byte(s)': the new block. -/
theorem bytesAt_new (w : World) (s : ByteArray) : BytesAt (Lib.bytesWorld w 5 s) w.heap.size s.data.toList := by
  refine ⟨_, _, Lib.bytesWorld_at_new w 5 s, rfl, ?_, ?_⟩
  · simp [Lib.bytesCells]
  · intro j hj
    have hj' : j < s.size := by simpa using hj
    simp [Lib.bytesCells, Array.getElem?_append, hj']

theorem below_bytesWorld (w : World) (s : ByteArray) : Below w.heap.size w (Lib.bytesWorld w 5 s) :=
  ⟨rfl, rfl, rfl, by rw [Lib.bytesWorld_size]; omega, fun k hk => Lib.bytesWorld_at_old w 5 s k hk⟩

/-- 'string(b)' of such a block. -/
theorem run_bytes_back {w : World} {g : Nat} {l : List UInt8} (h : BytesAt w g l) (cap : Nat) :
    (convert 89 9 (.slice (some ⟨g, 0, none⟩) l.length cap)).run Tryz.prog w = .ok (.string ⟨l.toArray⟩) w :=
  run_convert_bytes_back w 89 9 5 ⟨g, 0, none⟩ cap l Tryz.underlying89 Tryz.underlying5 Tryz.underlying9 (fun j hj => by
    rw [add_off]
    exact h.cell j hj)

theorem run_bytes_of (w : World) (s : ByteArray) :
    (convert 9 89 (.string s)).run Tryz.prog w = .ok (.slice (some ⟨w.heap.size, 0, none⟩) s.size (grownCap w s.size 0 5)) (Lib.bytesWorld w 5 s) :=
  Lib.run_convert_string_bytes w 9 89 5 s Tryz.underlying9 Tryz.underlying89 Tryz.underlying5
end Go.Proofs.YtmkkeacbabmaeaaGreatDoor
namespace Go.Proofs.YtmkkeacbabmaeaaGreatDoor
open Go.RowKit Go.PlainAid

/-- But for block b (and what is new), the world is as it was. -/
structure Only (b : Nat) (w w' : World) : Prop where
  os : w'.os = w.os
  tape : w'.tape = w.tape
  output : w'.output = w.output
  size : w.heap.size ≤ w'.heap.size
  block : ∀ k, k < w.heap.size → k ≠ b → w'.heap[k]? = w.heap[k]?

theorem Only.refl (b : Nat) (w : World) : Only b w w := ⟨rfl, rfl, rfl, Nat.le_refl _, fun _ _ _ => rfl⟩
theorem Only.trans {b : Nat} {u v w : World} (h : Only b u v) (k : Only b v w) : Only b u w :=
  ⟨k.os.trans h.os, k.tape.trans h.tape, k.output.trans h.output, Nat.le_trans h.size k.size, fun i hi hb => (k.block i (Nat.lt_of_lt_of_le hi h.size) hb).trans (h.block i hi hb)⟩
theorem Only.of_below {b : Nat} {w w' : World} (h : Below w.heap.size w w') : Only b w w' := ⟨h.os, h.tape, h.output, h.size, fun k hk _ => h.block k hk⟩
theorem Only.setCell {b : Nat} {u w : World} (h : Only b u w) (j : Nat) (v : Value) : Only b u (w.setCell ⟨b, j, none⟩ v) :=
  h.trans ⟨rfl, rfl, rfl, by simp [World.setCell], fun k _ hb => Below.heap_setCell _ _ _ _ hb⟩
theorem Only.alloc {b : Nat} {u w : World} (h : Only b u w) (o : Obj) : Only b u (w.alloc o) :=
  h.trans ⟨rfl, rfl, rfl, by simp, fun k hk _ => Below.heap_alloc _ _ _ hk⟩
theorem Only.drew {b : Nat} {u w : World} (h : Only b u w) : Only b u w.drew := ⟨h.os, h.tape, h.output, h.size, h.block⟩
theorem Only.below {b B : Nat} {w w' : World} (h : Only b w w') (hb : B ≤ b) (hB : B ≤ w.heap.size) : Below B w w' :=
  ⟨h.os, h.tape, h.output, h.size, fun k hk => h.block k (by omega) (by omega)⟩

/-- What a token holds. -/
structure TokS where
  kind : ByteArray
  space : ByteArray
  raw : ByteArray
  text : ByteArray
  base : Int
  pos : Int
  stop : Int
  cm : Value

def TokAt (w : World) (b : Nat) (x : TokS) : Prop :=
  w.heap[b]? = some (.cells #[.string x.kind, .string x.space, .string x.raw, .string x.text, .int .i64 x.base, .int .i64 x.pos, .int .i64 x.stop, x.cm] 31 (0, 0))

section
variable {w : World} {b : Nat} {x : TokS}
theorem TokAt.lt (h : TokAt w b x) : b < w.heap.size := (Array.getElem?_eq_some_iff.1 h).1
theorem TokAt.free (h : TokAt w b x) (j : Nat) : w.frozen? ⟨b, j, none⟩ = false := by
  unfold TokAt at h
  simp [World.frozen?, h]
theorem TokAt.cell0 (h : TokAt w b x) : w.cell? ⟨b, 0, none⟩ = some (.string x.kind) := by unfold TokAt at h; simp [World.cell?, h]
theorem TokAt.cell1 (h : TokAt w b x) : w.cell? ⟨b, 1, none⟩ = some (.string x.space) := by unfold TokAt at h; simp [World.cell?, h]
theorem TokAt.cell2 (h : TokAt w b x) : w.cell? ⟨b, 2, none⟩ = some (.string x.raw) := by unfold TokAt at h; simp [World.cell?, h]
theorem TokAt.cell3 (h : TokAt w b x) : w.cell? ⟨b, 3, none⟩ = some (.string x.text) := by unfold TokAt at h; simp [World.cell?, h]
theorem TokAt.cell4 (h : TokAt w b x) : w.cell? ⟨b, 4, none⟩ = some (.int .i64 x.base) := by unfold TokAt at h; simp [World.cell?, h]
theorem TokAt.cell5 (h : TokAt w b x) : w.cell? ⟨b, 5, none⟩ = some (.int .i64 x.pos) := by unfold TokAt at h; simp [World.cell?, h]
theorem TokAt.cell6 (h : TokAt w b x) : w.cell? ⟨b, 6, none⟩ = some (.int .i64 x.stop) := by unfold TokAt at h; simp [World.cell?, h]
theorem TokAt.cell7 (h : TokAt w b x) : w.cell? ⟨b, 7, none⟩ = some x.cm := by unfold TokAt at h; simp [World.cell?, h]
theorem TokAt.setKind (h : TokAt w b x) (k : ByteArray) : TokAt (w.setCell ⟨b, 0, none⟩ (.string k)) b { x with kind := k } := setCell_block h
theorem TokAt.setSpace (h : TokAt w b x) (k : ByteArray) : TokAt (w.setCell ⟨b, 1, none⟩ (.string k)) b { x with space := k } := setCell_block h
theorem TokAt.setRaw (h : TokAt w b x) (k : ByteArray) : TokAt (w.setCell ⟨b, 2, none⟩ (.string k)) b { x with raw := k } := setCell_block h
theorem TokAt.setText (h : TokAt w b x) (k : ByteArray) : TokAt (w.setCell ⟨b, 3, none⟩ (.string k)) b { x with text := k } := setCell_block h
theorem TokAt.setBase (h : TokAt w b x) (k : Int) : TokAt (w.setCell ⟨b, 4, none⟩ (.int .i64 k)) b { x with base := k } := setCell_block h
theorem TokAt.setPos (h : TokAt w b x) (k : Int) : TokAt (w.setCell ⟨b, 5, none⟩ (.int .i64 k)) b { x with pos := k } := setCell_block h
theorem TokAt.setStop (h : TokAt w b x) (k : Int) : TokAt (w.setCell ⟨b, 6, none⟩ (.int .i64 k)) b { x with stop := k } := setCell_block h
theorem TokAt.setCm (h : TokAt w b x) (k : Value) : TokAt (w.setCell ⟨b, 7, none⟩ k) b { x with cm := k } := setCell_block h
theorem TokAt.kept {w' : World} (h : TokAt w b x) (k : w'.heap[b]? = w.heap[b]?) : TokAt w' b x := by unfold TokAt at *; rw [k, h]
theorem TokAt.below {w' : World} (h : TokAt w b x) (k : Below w.heap.size w w') : TokAt w' b x := h.kept (k.block b h.lt)
end
end Go.Proofs.YtmkkeacbabmaeaaGreatDoor
namespace Go.Proofs.YtmkkeacbabmaeaaGreatDoor
open Go.RowKit Go.PlainAid

/-- What a lexer holds, but for its file. -/
structure LxS where
  kind : ByteArray
  cm : Value
  space : ByteArray
  raw : ByteArray
  text : ByteArray
  base : Int
  tpos : Int
  tend : Int
  pos : Int
  last : ByteArray
  dot : Bool

/-- Block b is a lexer whose file is block f. -/
def LxAt (w : World) (b f : Nat) (x : LxS) : Prop :=
  w.heap[b]? = some (.cells #[.pointer (some ⟨f, 0, none⟩), .string x.kind, x.cm, .string x.space, .string x.raw, .string x.text, .int .i64 x.base, .int .i64 x.tpos, .int .i64 x.tend, .int .i64 x.pos, .string x.last, .bool x.dot] 47 (0, 0))
/-- Block f is a file of the text s. -/
def FileAt (w : World) (f : Nat) (s : ByteArray) (ln : Value) : Prop :=
  w.heap[f]? = some (.cells #[.string ⟨#[]⟩, .string s, ln] 56 (0, 0))

section
variable {w : World} {b f : Nat} {x : LxS} {s : ByteArray} {ln : Value}
theorem LxAt.lt (h : LxAt w b f x) : b < w.heap.size := (Array.getElem?_eq_some_iff.1 h).1
theorem FileAt.lt (h : FileAt w f s ln) : f < w.heap.size := (Array.getElem?_eq_some_iff.1 h).1
theorem LxAt.free (h : LxAt w b f x) (j : Nat) : w.frozen? ⟨b, j, none⟩ = false := by
  unfold LxAt at h
  simp [World.frozen?, h]
theorem FileAt.free (h : FileAt w f s ln) (j : Nat) : w.frozen? ⟨f, j, none⟩ = false := by
  unfold FileAt at h
  simp [World.frozen?, h]
theorem LxAt.cell0 (h : LxAt w b f x) : w.cell? ⟨b, 0, none⟩ = some (.pointer (some ⟨f, 0, none⟩)) := by unfold LxAt at h; simp [World.cell?, h]
theorem FileAt.cell0 (h : FileAt w f s ln) : w.cell? ⟨f, 0, none⟩ = some (.string ⟨#[]⟩) := by unfold FileAt at h; simp [World.cell?, h]
theorem FileAt.cell1 (h : FileAt w f s ln) : w.cell? ⟨f, 1, none⟩ = some (.string s) := by unfold FileAt at h; simp [World.cell?, h]
theorem FileAt.cell2 (h : FileAt w f s ln) : w.cell? ⟨f, 2, none⟩ = some ln := by unfold FileAt at h; simp [World.cell?, h]
theorem FileAt.ne (h : FileAt w f s ln) (k : LxAt w b f x) : f ≠ b := by
  intro e
  unfold FileAt at h
  unfold LxAt at k
  rw [e, k] at h
  cases h
theorem LxAt.cell1 (h : LxAt w b f x) : w.cell? ⟨b, 1, none⟩ = some (.string x.kind) := by unfold LxAt at h; simp [World.cell?, h]
theorem LxAt.cell2 (h : LxAt w b f x) : w.cell? ⟨b, 2, none⟩ = some (x.cm) := by unfold LxAt at h; simp [World.cell?, h]
theorem LxAt.cell3 (h : LxAt w b f x) : w.cell? ⟨b, 3, none⟩ = some (.string x.space) := by unfold LxAt at h; simp [World.cell?, h]
theorem LxAt.cell4 (h : LxAt w b f x) : w.cell? ⟨b, 4, none⟩ = some (.string x.raw) := by unfold LxAt at h; simp [World.cell?, h]
theorem LxAt.cell5 (h : LxAt w b f x) : w.cell? ⟨b, 5, none⟩ = some (.string x.text) := by unfold LxAt at h; simp [World.cell?, h]
theorem LxAt.cell6 (h : LxAt w b f x) : w.cell? ⟨b, 6, none⟩ = some (.int .i64 x.base) := by unfold LxAt at h; simp [World.cell?, h]
theorem LxAt.cell7 (h : LxAt w b f x) : w.cell? ⟨b, 7, none⟩ = some (.int .i64 x.tpos) := by unfold LxAt at h; simp [World.cell?, h]
theorem LxAt.cell8 (h : LxAt w b f x) : w.cell? ⟨b, 8, none⟩ = some (.int .i64 x.tend) := by unfold LxAt at h; simp [World.cell?, h]
theorem LxAt.cell9 (h : LxAt w b f x) : w.cell? ⟨b, 9, none⟩ = some (.int .i64 x.pos) := by unfold LxAt at h; simp [World.cell?, h]
theorem LxAt.cell10 (h : LxAt w b f x) : w.cell? ⟨b, 10, none⟩ = some (.string x.last) := by unfold LxAt at h; simp [World.cell?, h]
theorem LxAt.cell11 (h : LxAt w b f x) : w.cell? ⟨b, 11, none⟩ = some (.bool x.dot) := by unfold LxAt at h; simp [World.cell?, h]
theorem LxAt.setKind (h : LxAt w b f x) (k : ByteArray) : LxAt (w.setCell ⟨b, 1, none⟩ (.string k)) b f { x with kind := k } := setCell_block h
theorem LxAt.setCm (h : LxAt w b f x) (k : Value) : LxAt (w.setCell ⟨b, 2, none⟩ (k)) b f { x with cm := k } := setCell_block h
theorem LxAt.setSpace (h : LxAt w b f x) (k : ByteArray) : LxAt (w.setCell ⟨b, 3, none⟩ (.string k)) b f { x with space := k } := setCell_block h
theorem LxAt.setRaw (h : LxAt w b f x) (k : ByteArray) : LxAt (w.setCell ⟨b, 4, none⟩ (.string k)) b f { x with raw := k } := setCell_block h
theorem LxAt.setText (h : LxAt w b f x) (k : ByteArray) : LxAt (w.setCell ⟨b, 5, none⟩ (.string k)) b f { x with text := k } := setCell_block h
theorem LxAt.setBase (h : LxAt w b f x) (k : Int) : LxAt (w.setCell ⟨b, 6, none⟩ (.int .i64 k)) b f { x with base := k } := setCell_block h
theorem LxAt.setTpos (h : LxAt w b f x) (k : Int) : LxAt (w.setCell ⟨b, 7, none⟩ (.int .i64 k)) b f { x with tpos := k } := setCell_block h
theorem LxAt.setTend (h : LxAt w b f x) (k : Int) : LxAt (w.setCell ⟨b, 8, none⟩ (.int .i64 k)) b f { x with tend := k } := setCell_block h
theorem LxAt.setPos (h : LxAt w b f x) (k : Int) : LxAt (w.setCell ⟨b, 9, none⟩ (.int .i64 k)) b f { x with pos := k } := setCell_block h
theorem LxAt.setLast (h : LxAt w b f x) (k : ByteArray) : LxAt (w.setCell ⟨b, 10, none⟩ (.string k)) b f { x with last := k } := setCell_block h
theorem LxAt.setDot (h : LxAt w b f x) (k : Bool) : LxAt (w.setCell ⟨b, 11, none⟩ (.bool k)) b f { x with dot := k } := setCell_block h
theorem LxAt.kept {w' : World} (h : LxAt w b f x) (k : w'.heap[b]? = w.heap[b]?) : LxAt w' b f x := by unfold LxAt at *; rw [k, h]
theorem FileAt.kept {w' : World} (h : FileAt w f s ln) (k : w'.heap[f]? = w.heap[f]?) : FileAt w' f s ln := by unfold FileAt at *; rw [k, h]
theorem LxAt.below {w' : World} (h : LxAt w b f x) (k : Below w.heap.size w w') : LxAt w' b f x := h.kept (k.block b h.lt)
theorem FileAt.below {w' : World} (h : FileAt w f s ln) (k : Below w.heap.size w w') : FileAt w' f s ln := h.kept (k.block f h.lt)
theorem FileAt.only {w' : World} (h : FileAt w f s ln) (k : Only b w w') (hn : f ≠ b) : FileAt w' f s ln := h.kept (k.block f h.lt hn)
end
end Go.Proofs.YtmkkeacbabmaeaaGreatDoor
namespace Go.Proofs.YtmkkeacbabmaeaaGreatDoor
open Go.RowKit Go.PlainAid

section
variable {w : World} {b f i : Nat} {x : LxS} {s : ByteArray} {ln : Value}

theorem peek_c (k : Nat) (hs : s.size ≤ 35184372088832) (hx : LxAt w b f x) (hf : FileAt w f s ln) (hp : x.pos = i) (hk : i + k < s.size) :
    Calls Tryz.prog 54 #[.pointer (some ⟨b, 0, none⟩), .int .i64 k] w fun e w' => e = .returned (.int .u8 (bt s (i + k))) ∧ ∃ n, w' = w.drewN n := by
  have hb := get_bt s
  have c0 := hx.cell0
  have c9 := hx.cell9
  rw [hp] at c9
  have c1 := hf.cell1
  clear hx hf hp
  go_enter Tryz.func54, Tryz.ntmps54
  go_wp2_with fail
  go_quiet (fail)
  go_wp2_with fail
  go_ret
  exact ⟨rfl, _, rfl⟩

theorem peekOk_c (k : Nat) (hs : s.size ≤ 35184372088832) (hk : k ≤ 35184372088832) (hi : i ≤ s.size) (hx : LxAt w b f x) (hf : FileAt w f s ln) (hp : x.pos = i) :
    Calls Tryz.prog 52 #[.pointer (some ⟨b, 0, none⟩), .int .i64 k] w fun e w' => e = .returned (.bool (decide (i + k < s.size))) ∧ ∃ n, w' = w.drewN n := by
  have c0 := hx.cell0
  have c9 := hx.cell9
  rw [hp] at c9
  have c1 := hf.cell1
  clear hx hf hp
  go_enter Tryz.func52, Tryz.ntmps52
  go_wp2_with fail
  go_quiet (fail)
  go_wp2_with fail
  go_ret
  refine ⟨ret_bool (bool_ext ?_), _, rfl⟩
  simp
  omega

theorem eof_c (hi : i ≤ s.size) (hx : LxAt w b f x) (hf : FileAt w f s ln) (hp : x.pos = i) :
    Calls Tryz.prog 46 #[.pointer (some ⟨b, 0, none⟩)] w fun e w' => e = .returned (.bool (decide (s.size ≤ i))) ∧ ∃ n, w' = w.drewN n := by
  have c0 := hx.cell0
  have c9 := hx.cell9
  rw [hp] at c9
  have c1 := hf.cell1
  clear hx hf hp
  go_enter Tryz.func46, Tryz.ntmps46
  go_wp2_with fail
  go_quiet (fail)
  go_wp2_with fail
  go_ret
  refine ⟨ret_bool (bool_ext ?_), _, rfl⟩
  simp

theorem peekIs_c (k : Nat) (ch : Int) (hs : s.size ≤ 35184372088832) (hk : k ≤ 35184372088832) (hi : i ≤ s.size) (hx : LxAt w b f x) (hf : FileAt w f s ln) (hp : x.pos = i) :
    Calls Tryz.prog 50 #[.pointer (some ⟨b, 0, none⟩), .int .i64 k, .int .u8 ch] w fun e w' => e = .returned (.bool (decide (i + k < s.size ∧ bt s (i + k) = ch))) ∧ ∃ n, w' = w.drewN n := by
  have hb := get_bt s
  have c0 := hx.cell0
  have c9 := hx.cell9
  rw [hp] at c9
  have c1 := hf.cell1
  clear hx hf hp
  have hwr : IntKind.i64.wrap ((i : Int) + (k : Int)) = (i : Int) + (k : Int) := IntWalk.i64_in _ (by omega)
  by_cases hlt : i + k < s.size
  · have hd : (decide (i + k < s.size ∧ bt s (i + k) = ch)) = (bt s (i + k) == ch) := by apply bool_ext; simp [hlt]
    rw [hd]
    clear hd
    have hg : (i : Int) + (k : Int) < (s.size : Int) := by omega
    go_enter Tryz.func50, Tryz.ntmps50
    go_wp2_with fail
    go_quiet (fail)
    go_wp2_with fail
    go_ret
    exact ⟨rfl, _, rfl⟩
  · have hd : (decide (i + k < s.size ∧ bt s (i + k) = ch)) = false := by simp [hlt]
    rw [hd]
    clear hd hb
    have hg : decide ((i : Int) + (k : Int) < (s.size : Int)) = false := decide_eq_false (by omega)
    go_enter Tryz.func50, Tryz.ntmps50
    go_wp2_with fail
    go_quiet (fail)
    go_wp2_with fail
    go_ret
    exact ⟨rfl, _, rfl⟩

theorem skipN_c (k : Nat) (hs : s.size ≤ 35184372088832) (hk : i + k ≤ s.size) (hx : LxAt w b f x) (hp : x.pos = i) :
    Calls Tryz.prog 49 #[.pointer (some ⟨b, 0, none⟩), .int .i64 k] w fun e w' => e = .returned (.tuple #[]) ∧ w' = w.setCell ⟨b, 9, none⟩ (.int .i64 ((i + k : Nat) : Int)) := by
  have c9 := hx.cell9
  have f9 := hx.free 9
  rw [hp] at c9
  clear hx hp
  go_enter Tryz.func49, Tryz.ntmps49
  go_wp2_with fail
  go_end0
  exact ⟨rfl, by simp⟩

theorem skip_c (hs : s.size ≤ 35184372088832) (hi : i < s.size) (hx : LxAt w b f x) (hf : FileAt w f s ln) (hp : x.pos = i) :
    Calls Tryz.prog 55 #[.pointer (some ⟨b, 0, none⟩)] w fun e w' => e = .returned (.int .u8 (bt s i)) ∧ ∃ n, w' = (w.drewN n).setCell ⟨b, 9, none⟩ (.int .i64 ((i + 1 : Nat) : Int)) := by
  have hb := get_bt s
  have c0 := hx.cell0
  have c9 := hx.cell9
  have f9 := hx.free 9
  rw [hp] at c9
  have c1 := hf.cell1
  clear hx hf hp
  go_enter Tryz.func55, Tryz.ntmps55
  go_wp2_with fail
  go_quiet (fail)
  go_wp2_with fail
  go_ret
  exact ⟨rfl, nq, by simp⟩

theorem extract_clamp (s : ByteArray) (a e : Nat) (h : s.size < e) : s.extract a s.size = s.extract a e := by
  apply ByteArray.ext
  rw [ByteArray.data_extract, ByteArray.data_extract]
  apply Array.toList_inj.1
  rw [Array.toList_extract, Array.toList_extract]
  have hz : s.data.toList.length = s.size := Array.length_toList
  simp only [List.extract_eq_take_drop]
  rw [List.take_of_length_le (by rw [List.length_drop]; omega), List.take_of_length_le (by rw [List.length_drop]; omega)]

theorem slice_c (a e : Nat) (hs : s.size ≤ 35184372088832) (ha : i + a ≤ s.size) (hae : a ≤ e) (he : e ≤ 35184372088832) (hx : LxAt w b f x) (hf : FileAt w f s ln) (hp : x.pos = i) :
    Calls Tryz.prog 65 #[.pointer (some ⟨b, 0, none⟩), .int .i64 a, .int .i64 e] w fun r w' => r = .returned (.string (s.extract (i + a) (i + e))) ∧ ∃ n, w' = w.drewN n := by
  have c0 := hx.cell0
  have c9 := hx.cell9
  rw [hp] at c9
  have c1 := hf.cell1
  clear hx hf hp
  by_cases hlt : s.size < i + e
  · rw [← extract_clamp s (i + a) (i + e) hlt]
    go_enter Tryz.func65, Tryz.ntmps65
    go_wp2_with fail
    go_quiet (fail)
    go_wp2_with fail
    go_quiet (fail)
    go_wp2_with fail
    go_quiet (fail)
    go_wp2_with fail
    go_ret
    have e2 : i + (s.size - i) = s.size := by omega
    rw [e2]
    exact ⟨rfl, _, by rw [World.drewN_drewN, World.drewN_drewN]⟩
  · skip
    go_enter Tryz.func65, Tryz.ntmps65
    go_wp2_with fail
    go_quiet (fail)
    go_wp2_with fail
    go_quiet (fail)
    go_wp2_with fail
    go_ret
    exact ⟨rfl, _, by rw [World.drewN_drewN]⟩
end
end Go.Proofs.YtmkkeacbabmaeaaGreatDoor
namespace Go.Proofs.YtmkkeacbabmaeaaGreatDoor
open Go.PlainAid

def digitsEnd (s : ByteArray) (i : Nat) : Nat := if i < s.size ∧ digitB (bt s i) = true then digitsEnd s (i + 1) else i
termination_by s.size - i
decreasing_by omega
theorem digitsEnd_go {s : ByteArray} {i : Nat} (h : i < s.size) (hb : digitB (bt s i) = true) : digitsEnd s i = digitsEnd s (i + 1) := by rw [digitsEnd, if_pos ⟨h, hb⟩]
theorem digitsEnd_stop {s : ByteArray} {i : Nat} (h : ¬ (i < s.size ∧ digitB (bt s i) = true)) : digitsEnd s i = i := by rw [digitsEnd, if_neg h]
theorem digitsEnd_ge (s : ByteArray) (i : Nat) : i ≤ digitsEnd s i := by
  fun_induction digitsEnd s i <;> omega
theorem digitsEnd_le (s : ByteArray) (i : Nat) (h : i ≤ s.size) : digitsEnd s i ≤ s.size := by
  fun_induction digitsEnd s i <;> omega

def hexEnd (s : ByteArray) (i : Nat) : Nat := if i < s.size ∧ 0 ≤ hexV (bt s i) then hexEnd s (i + 1) else i
termination_by s.size - i
decreasing_by omega
theorem hexEnd_go {s : ByteArray} {i : Nat} (h : i < s.size) (hb : 0 ≤ hexV (bt s i)) : hexEnd s i = hexEnd s (i + 1) := by rw [hexEnd, if_pos ⟨h, hb⟩]
theorem hexEnd_stop {s : ByteArray} {i : Nat} (h : ¬ (i < s.size ∧ 0 ≤ hexV (bt s i))) : hexEnd s i = i := by rw [hexEnd, if_neg h]
theorem hexEnd_ge (s : ByteArray) (i : Nat) : i ≤ hexEnd s i := by
  fun_induction hexEnd s i <;> omega
theorem hexEnd_le (s : ByteArray) (i : Nat) (h : i ≤ s.size) : hexEnd s i ≤ s.size := by
  fun_induction hexEnd s i <;> omega

/-- No letter, digit or underscore follows. -/
def loose (s : ByteArray) (e : Nat) : Bool := !(decide (e < s.size) && partB (bt s e))
theorem loose_end {s : ByteArray} {e : Nat} (h : ¬ e < s.size) : loose s e = true := by simp [loose, h]
theorem loose_in {s : ByteArray} {e : Nat} (h : e < s.size) : loose s e = !partB (bt s e) := by simp [loose, h]

/-- A number: where it ends, whether it is one, whether it is a float, its base. -/
structure NumR where
  stop : Nat
  ok : Bool
  float : Bool
  base : Int

/-- An exponent, or none, behind the digits. -/
def isE (c : Int) : Prop := c = 101 ∨ c = 69
def isPM (c : Int) : Prop := c = 43 ∨ c = 45
instance (c : Int) : Decidable (isE c) := by unfold isE; infer_instance
instance (c : Int) : Decidable (isPM c) := by unfold isPM; infer_instance
def expAt (s : ByteArray) (e : Nat) : Nat := if e + 1 < s.size ∧ isPM (bt s (e + 1)) then e + 2 else e + 1
def expPart (s : ByteArray) (e : Nat) (fl : Bool) (base : Int) : NumR :=
  if e < s.size ∧ isE (bt s e) then
    (if expAt s e < s.size ∧ digitB (bt s (expAt s e)) = true then ⟨digitsEnd s (expAt s e), loose s (digitsEnd s (expAt s e)), true, 0⟩ else ⟨e, false, fl, base⟩)
  else ⟨e, loose s e, fl, base⟩
def isHexAt (s : ByteArray) (i : Nat) : Prop := startsB s i ⟨#[48, 120]⟩ = true ∨ startsB s i ⟨#[48, 88]⟩ = true
instance (s : ByteArray) (i : Nat) : Decidable (isHexAt s i) := by unfold isHexAt; infer_instance
def numOf (s : ByteArray) (i : Nat) : NumR :=
  if isHexAt s i then ⟨hexEnd s (i + 2), loose s (hexEnd s (i + 2)), false, 16⟩
  else if digitsEnd s i < s.size ∧ bt s (digitsEnd s i) = 46 then expPart s (digitsEnd s (digitsEnd s i + 1)) true 0
  else expPart s (digitsEnd s i) false 10

theorem numOf_hex {s : ByteArray} {i : Nat} (h : isHexAt s i) : numOf s i = ⟨hexEnd s (i + 2), loose s (hexEnd s (i + 2)), false, 16⟩ := by rw [numOf, if_pos h]
theorem numOf_dot {s : ByteArray} {i : Nat} (h : ¬ isHexAt s i) (h2 : digitsEnd s i < s.size ∧ bt s (digitsEnd s i) = 46) : numOf s i = expPart s (digitsEnd s (digitsEnd s i + 1)) true 0 := by rw [numOf, if_neg h, if_pos h2]
theorem numOf_plain {s : ByteArray} {i : Nat} (h : ¬ isHexAt s i) (h2 : ¬ (digitsEnd s i < s.size ∧ bt s (digitsEnd s i) = 46)) : numOf s i = expPart s (digitsEnd s i) false 10 := by rw [numOf, if_neg h, if_neg h2]
theorem expPart_none {s : ByteArray} {e : Nat} {fl : Bool} {base : Int} (h : ¬ (e < s.size ∧ isE (bt s e))) : expPart s e fl base = ⟨e, loose s e, fl, base⟩ := by rw [expPart, if_neg h]
theorem expPart_bad {s : ByteArray} {e : Nat} {fl : Bool} {base : Int} (h : e < s.size ∧ isE (bt s e)) (h2 : ¬ (expAt s e < s.size ∧ digitB (bt s (expAt s e)) = true)) : expPart s e fl base = ⟨e, false, fl, base⟩ := by rw [expPart, if_pos h, if_neg h2]
theorem expPart_good {s : ByteArray} {e : Nat} {fl : Bool} {base : Int} (h : e < s.size ∧ isE (bt s e)) (h2 : expAt s e < s.size ∧ digitB (bt s (expAt s e)) = true) : expPart s e fl base = ⟨digitsEnd s (expAt s e), loose s (digitsEnd s (expAt s e)), true, 0⟩ := by rw [expPart, if_pos h, if_pos h2]

def dotAt (s : ByteArray) (e : Nat) : Bool := decide (e < s.size ∧ bt s e = 46)
def eAt (s : ByteArray) (e : Nat) : Bool := decide (e < s.size ∧ isE (bt s e))
def pmAt (s : ByteArray) (e : Nat) : Bool := decide (e < s.size ∧ isPM (bt s e))
def digAt (s : ByteArray) (e : Nat) : Bool := decide (e < s.size ∧ digitB (bt s e) = true)
theorem dotAt_yes {s : ByteArray} {e : Nat} (h : dotAt s e = true) : e < s.size ∧ bt s e = 46 := by simpa [dotAt] using h
theorem dotAt_no {s : ByteArray} {e : Nat} (h : dotAt s e = false) : ¬ (e < s.size ∧ bt s e = 46) := by simpa [dotAt] using h
theorem eAt_yes {s : ByteArray} {e : Nat} (h : eAt s e = true) : e < s.size ∧ isE (bt s e) := by simpa [eAt] using h
theorem eAt_no {s : ByteArray} {e : Nat} (h : eAt s e = false) : ¬ (e < s.size ∧ isE (bt s e)) := by simpa [eAt] using h
theorem digAt_yes {s : ByteArray} {e : Nat} (h : digAt s e = true) : e < s.size ∧ digitB (bt s e) = true := by simpa [digAt] using h
theorem digAt_no {s : ByteArray} {e : Nat} (h : digAt s e = false) : ¬ (e < s.size ∧ digitB (bt s e) = true) := by
  intro k; rw [digAt, decide_eq_true k] at h; cases h
theorem expAt_pm {s : ByteArray} {e : Nat} (h : pmAt s (e + 1) = true) : expAt s e = e + 2 := by rw [expAt, if_pos (by simpa [pmAt] using h)]
theorem expAt_no {s : ByteArray} {e : Nat} (h : pmAt s (e + 1) = false) : expAt s e = e + 1 := by
  rw [expAt, if_neg]
  intro k; rw [pmAt, decide_eq_true k] at h; cases h
theorem pmAt_lt {s : ByteArray} {e : Nat} (h : pmAt s e = true) : e < s.size := by
  have : e < s.size ∧ isPM (bt s e) := by simpa [pmAt] using h
  exact this.1

def kInt : ByteArray := ⟨#[60, 105, 110, 116, 62]⟩
def kFloat : ByteArray := ⟨#[60, 102, 108, 111, 97, 116, 62]⟩
def numKind (fl : Bool) : ByteArray := if fl = true then kFloat else kInt
end Go.Proofs.YtmkkeacbabmaeaaGreatDoor
namespace Go.Proofs.YtmkkeacbabmaeaaGreatDoor
open Go.PlainAid

/-- What one byte says: a quotation mark, an r, a b, or something else. -/
def prefFrom (s : ByteArray) (at_ : Nat) : Nat → Bool → Bool → Nat → Option (Nat × Bool × Bool)
  | 0, _, _, _ => none
  | f + 1, raw, bytes, n =>
    if at_ + n < s.size then
      if bt s (at_ + n) = 34 ∨ bt s (at_ + n) = 39 then some (n, raw, bytes)
      else if (bt s (at_ + n) = 114 ∨ bt s (at_ + n) = 82) ∧ raw = false then prefFrom s at_ f true bytes (n + 1)
      else if (bt s (at_ + n) = 98 ∨ bt s (at_ + n) = 66) ∧ bytes = false then prefFrom s at_ f raw true (n + 1)
      else none
    else none
def prefOf (s : ByteArray) (at_ : Nat) : Option (Nat × Bool × Bool) := prefFrom s at_ 3 false false 0
def prefNum : Option (Nat × Bool × Bool) → Int
  | some p => p.1
  | none => -1
def prefRaw : Option (Nat × Bool × Bool) → Bool
  | some p => p.2.1
  | none => false
def prefBytes : Option (Nat × Bool × Bool) → Bool
  | some p => p.2.2
  | none => false
/-- As the reference gives it. -/
def prefVal (o : Option (Nat × Bool × Bool)) : Value := .tuple #[.int .i64 (prefNum o), .bool (prefRaw o), .bool (prefBytes o)]

theorem prefFrom_end {s : ByteArray} {at_ f n : Nat} {raw bytes : Bool} (h : ¬ at_ + n < s.size) : prefFrom s at_ f raw bytes n = none := by
  cases f with
  | zero => rfl
  | succ f => rw [prefFrom, if_neg h]
theorem prefFrom_quote {s : ByteArray} {at_ f n : Nat} {raw bytes : Bool} (h : at_ + n < s.size) (hq : bt s (at_ + n) = 34 ∨ bt s (at_ + n) = 39) : prefFrom s at_ (f + 1) raw bytes n = some (n, raw, bytes) := by rw [prefFrom, if_pos h, if_pos hq]
theorem prefFrom_raw {s : ByteArray} {at_ f n : Nat} {bytes : Bool} (h : at_ + n < s.size) (hr : bt s (at_ + n) = 114 ∨ bt s (at_ + n) = 82) : prefFrom s at_ (f + 1) false bytes n = prefFrom s at_ f true bytes (n + 1) := by
  rw [prefFrom, if_pos h, if_neg (by omega), if_pos ⟨hr, rfl⟩]
theorem prefFrom_bytes {s : ByteArray} {at_ f n : Nat} {raw : Bool} (h : at_ + n < s.size) (hr : bt s (at_ + n) = 98 ∨ bt s (at_ + n) = 66) : prefFrom s at_ (f + 1) raw false n = prefFrom s at_ f raw true (n + 1) := by
  rw [prefFrom, if_pos h, if_neg (by omega), if_neg (by omega), if_pos ⟨hr, rfl⟩]
theorem prefFrom_none {s : ByteArray} {at_ f n : Nat} {raw bytes : Bool} (h : at_ + n < s.size) (h1 : ¬ (bt s (at_ + n) = 34 ∨ bt s (at_ + n) = 39)) (h2 : ¬ ((bt s (at_ + n) = 114 ∨ bt s (at_ + n) = 82) ∧ raw = false)) (h3 : ¬ ((bt s (at_ + n) = 98 ∨ bt s (at_ + n) = 66) ∧ bytes = false)) : prefFrom s at_ (f + 1) raw bytes n = none := by
  rw [prefFrom, if_pos h, if_neg h1, if_neg h2, if_neg h3]
end Go.Proofs.YtmkkeacbabmaeaaGreatDoor
namespace Go.Proofs.YtmkkeacbabmaeaaGreatDoor
open Go.PlainAid

/-- A number as a byte. -/
def asB (v : Int) : UInt8 := UInt8.ofNat v.toNat
theorem asB_val {v : Int} (h0 : 0 ≤ v) (h1 : v ≤ 255) : ((asB v).toNat : Int) = v := by
  unfold asB
  simp only [UInt8.toNat_ofNat']
  omega
def byteAt (s : ByteArray) (i : Nat) : UInt8 := asB (bt s i)
theorem byteAt_val (s : ByteArray) (i : Nat) : ((byteAt s i).toNat : Int) = bt s i := asB_val (bt_nonneg s i) (bt_le s i)

/-- The letters behind a backslash that stand for one byte, and these bytes. -/
def escF : ByteArray := ⟨#[97, 98, 102, 110, 114, 116, 118, 92, 63, 34, 39, 96]⟩
def escT : ByteArray := ⟨#[7, 8, 12, 10, 13, 9, 11, 92, 63, 34, 39, 96]⟩
def simpFrom (F T : ByteArray) (c : Int) (k : Nat) : Option Int := if k < 12 then (if bt F k = c then some (bt T k) else simpFrom F T c (k + 1)) else none
termination_by 12 - k
decreasing_by omega
theorem simpFrom_hit {F T : ByteArray} {c : Int} {k : Nat} (h : k < 12) (hh : bt F k = c) : simpFrom F T c k = some (bt T k) := by rw [simpFrom, if_pos h, if_pos hh]
theorem simpFrom_go {F T : ByteArray} {c : Int} {k : Nat} (h : k < 12) (hh : ¬ bt F k = c) : simpFrom F T c k = simpFrom F T c (k + 1) := by rw [simpFrom, if_pos h, if_neg hh]
theorem simpFrom_end {F T : ByteArray} {c : Int} {k : Nat} (h : ¬ k < 12) : simpFrom F T c k = none := by rw [simpFrom, if_neg h]
def simpleEsc (c : Int) : Option Int := simpFrom escF escT c 0

/-- n octal (hexadecimal) digits from a place on: their number; none: one of them is no digit. -/
def octVal (s : ByteArray) : Nat → Nat → Int → Option Int
  | 0, _, v => some v
  | n + 1, i, v => if 48 ≤ bt s i ∧ bt s i ≤ 55 then octVal s n (i + 1) (8 * v + (bt s i - 48)) else none
def hexVal (s : ByteArray) : Nat → Nat → Int → Option Int
  | 0, _, v => some v
  | n + 1, i, v => if 0 ≤ hexV (bt s i) then hexVal s n (i + 1) (16 * v + hexV (bt s i)) else none

/-- Bounds on the way. -/
def octBd (m : Nat) (v : Int) : Prop := (m = 3 ∧ v ≤ 0) ∨ (m = 2 ∧ v ≤ 7) ∨ (m = 1 ∧ v ≤ 63) ∨ (m = 0 ∧ v ≤ 511)
theorem octBd_step {m : Nat} {v x : Int} (h : octBd (m + 1) v) (hx : x ≤ 7) : octBd m (8 * v + x) := by unfold octBd at *; omega
theorem octBd_le {m : Nat} {v : Int} (h : octBd (m + 1) v) : v ≤ 63 := by unfold octBd at *; omega
def hexBd (k : Nat) (v : Int) : Prop := v + 1 ≤ 16 ^ k
theorem hexBd_zero : hexBd 0 0 := by unfold hexBd; decide
theorem hexBd_step {k : Nat} {v x : Int} (h : hexBd k v) (hx : x ≤ 15) : hexBd (k + 1) (16 * v + x) := by
  unfold hexBd at *
  rw [Int.pow_succ]
  omega
theorem pow16_le {k n : Nat} (h : k ≤ n) : (16 : Int) ^ k ≤ 16 ^ n := by
  induction n with
  | zero => obtain rfl : k = 0 := by omega
            exact Int.le_refl _
  | succ n ih =>
    by_cases e : k = n + 1
    · subst e; exact Int.le_refl _
    · have := ih (by omega)
      rw [Int.pow_succ]
      have h0 : (0 : Int) ≤ 16 ^ k := Int.pow_nonneg (by decide)
      omega
theorem hexBd_le {k : Nat} {v : Int} (h : hexBd k v) (hk : k ≤ 8) : v ≤ 4294967295 := by
  unfold hexBd at *
  have := pow16_le hk
  have e : (16 : Int) ^ 8 = 4294967296 := by decide
  omega
theorem hexBd_le7 {k : Nat} {v : Int} (h : hexBd k v) (hk : k ≤ 7) : v ≤ 268435455 := by
  unfold hexBd at *
  have := pow16_le hk
  have e : (16 : Int) ^ 7 = 268435456 := by decide
  omega
theorem hexV_le (c : Int) : hexV c ≤ 15 := by unfold hexV; split <;> (try split) <;> (try split) <;> omega

/-- How many digits follow the letter: \x 2, \u 4, \U 8 (not in bytes). -/
def escDigits (c : Int) (bytes : Bool) : Option Nat :=
  if c = 120 ∨ c = 88 then some 2 else if c = 117 ∧ bytes = false then some 4 else if c = 85 ∧ bytes = false then some 8 else none

/-- What a hexadecimal number of d digits stands for: a byte (two digits), or a code point's bytes. -/
def hexPart (d : Nat) (v : Int) : Option (List UInt8) :=
  if d = 2 then some [asB (v % 256)] else if 1114111 < v ∨ (55296 ≤ v ∧ v < 57344) then none else some (Utf8.encode v).data.toList

/-- An escape at a place (of its backslash): its bytes, and where it ends. -/
def escOct (s : ByteArray) (i : Nat) : Option (List UInt8 × Nat) :=
  if i + 4 ≤ s.size then (octVal s 3 (i + 1) 0).map fun v => ([asB (v % 256)], i + 4) else none
def escHex (s : ByteArray) (i d : Nat) : Option (List UInt8 × Nat) :=
  if i + 2 + d ≤ s.size then ((hexVal s d (i + 2) 0).bind (hexPart d)).map fun p => (p, i + 2 + d) else none
def escOf (s : ByteArray) (i : Nat) (bytes : Bool) : Option (List UInt8 × Nat) :=
  if i + 1 < s.size then
    match simpleEsc (bt s (i + 1)) with
    | some u => some ([asB u], i + 2)
    | none =>
      if 48 ≤ bt s (i + 1) ∧ bt s (i + 1) ≤ 51 then escOct s i
      else match escDigits (bt s (i + 1)) bytes with
        | none => none
        | some d => escHex s i d
  else none
theorem escOf_end {s : ByteArray} {i : Nat} {bytes : Bool} (h : ¬ i + 1 < s.size) : escOf s i bytes = none := by rw [escOf, if_neg h]
theorem escOf_simple {s : ByteArray} {i : Nat} {bytes : Bool} {u : Int} (h : i + 1 < s.size) (hu : simpleEsc (bt s (i + 1)) = some u) : escOf s i bytes = some ([asB u], i + 2) := by rw [escOf, if_pos h, hu]
theorem escOf_oct {s : ByteArray} {i : Nat} {bytes : Bool} (h : i + 1 < s.size) (hu : simpleEsc (bt s (i + 1)) = none) (ho : 48 ≤ bt s (i + 1) ∧ bt s (i + 1) ≤ 51) : escOf s i bytes = escOct s i := by rw [escOf, if_pos h, hu]; simp only []; rw [if_pos ho]
theorem escOf_hex {s : ByteArray} {i : Nat} {bytes : Bool} {d : Nat} (h : i + 1 < s.size) (hu : simpleEsc (bt s (i + 1)) = none) (ho : ¬ (48 ≤ bt s (i + 1) ∧ bt s (i + 1) ≤ 51)) (hd : escDigits (bt s (i + 1)) bytes = some d) : escOf s i bytes = escHex s i d := by rw [escOf, if_pos h, hu]; simp only []; rw [if_neg ho, hd]
theorem escOf_no {s : ByteArray} {i : Nat} {bytes : Bool} (h : i + 1 < s.size) (hu : simpleEsc (bt s (i + 1)) = none) (ho : ¬ (48 ≤ bt s (i + 1) ∧ bt s (i + 1) ≤ 51)) (hd : escDigits (bt s (i + 1)) bytes = none) : escOf s i bytes = none := by rw [escOf, if_pos h, hu]; simp only []; rw [if_neg ho, hd]
end Go.Proofs.YtmkkeacbabmaeaaGreatDoor
namespace Go.Proofs.YtmkkeacbabmaeaaGreatDoor
open Go.RowKit Go.PlainAid

/-- A slice of bytes that a call has made: its cells are these bytes. -/
def PartAt (w : World) (g : Nat) (l : List UInt8) : Prop := ∀ j (h : j < l.length), w.cell? ⟨g, j, none⟩ = some (.int .u8 ((l[j]'h).toNat : Int))
/-- What an escape gives. -/
def EscPost (s : ByteArray) (i : Nat) (o : Option (List UInt8 × Nat)) (w : World) (e : Ending) (w' : World) : Prop :=
  match o with
  | none => e = .returned (.tuple #[.slice none 0 0, .int .i64 i, .bool false]) ∧ Below w.heap.size w w'
  | some p => ∃ g cap, e = .returned (.tuple #[.slice (some ⟨g, 0, none⟩) p.1.length cap, .int .i64 p.2, .bool true]) ∧ PartAt w' g p.1 ∧ w.heap.size ≤ g ∧ Below w.heap.size w w'

theorem escPost_none {s : ByteArray} {i : Nat} {o : Option (List UInt8 × Nat)} {w w' : World} (ho : o = none) (hb : Below w.heap.size w w') : EscPost s i o w (.returned (.tuple #[.slice none 0 0, .int .i64 i, .bool false])) w' := by
  subst ho; exact ⟨rfl, hb⟩
theorem escPost_one {s : ByteArray} {i n : Nat} {o : Option (List UInt8 × Nat)} {w w' : World} {v : Int} {g cap : Nat} (h0 : 0 ≤ v) (h1 : v ≤ 255) (ho : o = some ([asB v], n)) (hc : w'.cell? ⟨g, 0, none⟩ = some (.int .u8 v)) (hg : w.heap.size ≤ g) (hb : Below w.heap.size w w') :
    EscPost s i o w (.returned (.tuple #[.slice (some ⟨g, 0, none⟩) 1 cap, .int .i64 n, .bool true])) w' := by
  subst ho
  refine ⟨g, cap, rfl, ?_, hg, hb⟩
  intro j hj
  obtain rfl : j = 0 := by simp at hj; exact hj
  rw [hc]; show _ = some (Value.int IntKind.u8 ((asB v).toNat : Int)); rw [asB_val h0 h1]

theorem escPost_many {s t : ByteArray} {i n cap : Nat} {o : Option (List UInt8 × Nat)} {w : World} (ho : o = some (t.data.toList, n)) :
    EscPost s i o w (.returned (.tuple #[.slice (some ⟨w.heap.size, 0, none⟩) t.size cap, .int .i64 n, .bool true])) (Lib.bytesWorld w 5 t) := by
  subst ho
  exact ⟨w.heap.size, cap, by simp, fun j hj => (bytesAt_new w t).cell j hj, Nat.le_refl _, below_bytesWorld w t⟩
theorem cell_new_one (w : World) (v : Value) (T : TypeId) : (w.alloc (.cells #[v] T)).cell? ⟨w.heap.size, 0, none⟩ = some v := by
  rw [World.cell?_alloc_mark]; rfl

theorem escF_const : ({ data := #[97, 98, 102, 110, 114, 116, 118, 92, 63, 34, 39, 96] } : ByteArray) = escF := rfl
theorem escT_const : ({ data := #[7, 8, 12, 10, 13, 9, 11, 92, 63, 34, 39, 96] } : ByteArray) = escT := rfl

set_option maxHeartbeats 3200000 in
set_option maxRecDepth 100000 in
theorem Escape_c (s : ByteArray) (i : Nat) (bytes : Bool) (w : World) (hs : s.size ≤ 2305843009213693952) (hi : i < s.size) :
    Calls Tryz.prog 43 #[.string s, .int .i64 i, .bool bytes] w (EscPost s i (escOf s i bytes) w) := by
  have hb := get_bt s
  by_cases hlt : i + 1 < s.size
  · have hn0 := bt_nonneg s
    have hn1 := bt_le s
    obtain ⟨c, hc⟩ : ∃ c, bt s (i + 1) = c := ⟨_, rfl⟩
    have hc0 : 0 ≤ c := by rw [← hc]; exact hn0 _
    have hc1 : c ≤ 255 := by rw [← hc]; exact hn1 _
    have hb2 : ((s[i + 1]'hlt).toNat : Int) = c := by rw [hb _ hlt]; exact hc
    have Hb := Lib.hid hb
    have Hc := Lib.hid hc
    have Hn0 := Lib.hid hn0
    have Hn1 := Lib.hid hn1
    clear hb hc hn0 hn1
    go_enter Tryz.func43, Tryz.ntmps43
    rw [escF_const, escT_const]
    obtain ⟨F, hF⟩ : ∃ F, F = escF := ⟨_, rfl⟩
    obtain ⟨T, hT⟩ : ∃ T, T = escT := ⟨_, rfl⟩
    rw [← hF, ← hT]
    have hF1 : F.size ≤ 12 := by rw [hF]; decide
    have hF2 : 12 ≤ F.size := by rw [hF]; decide
    have hT2 : 12 ≤ T.size := by rw [hT]; decide
    have Hsim : Hid (simpleEsc c = simpFrom F T c 0) := by show _ = _; rw [hF, hT]; rfl
    clear hF hT
    go_upto_block 0 with fail
    go_cut [] (fun wc => wc = w ∧ Hid (simpleEsc c = none))
    case first => as_aux_lemma =>
      have hFb := get_bt F
      have hTb := get_bt T
      go_wp2_with fail
      go_loop [10] (fun v => ∃ k : Nat, k ≤ 12 ∧ v = .int .i64 k ∧ Hid (simpFrom F T c k = simpFrom F T c 0)) (fun v => 12 - (intOf v).toNat)
      case atStart => exact ⟨0, by omega, rfl, rfl⟩
      case round =>
        obtain ⟨k, hk, rfl, hr⟩ := hrel
        by_cases hlt2 : k < 12
        · by_cases hh : bt F k = c
          · have hu : Hid (escOf s i bytes = some ([asB (bt T k)], i + 2)) := by
              show _ = _
              exact escOf_simple hlt (by rw [Hc.out, Hsim.out, ← hr.out, simpFrom_hit hlt2 hh])
            have hbq : (bt F k == c) = true := by simp [hh]
            clear hh
            have ht0 := bt_nonneg T k
            have ht1 := bt_le T k
            go_wp2
            go_ret3
            exact escPost_one ht0 ht1 hu.out (cell_new_one _ _ _) (by simp) ((Below.refl _ _).alloc (Nat.le_refl _) _)
          · have hbq : (bt F k == c) = false := by simp [hh]
            go_wp2
            go_round
            case rel => exact ⟨k + 1, by omega, by go_num, by show simpFrom F T c (k + 1) = _; rw [← hr.out, simpFrom_go hlt2 hh]⟩
            case measure => simp [intOf]; omega
        · go_wp2
          go_meet
          case rel => exact ⟨rfl, by show _ = _; rw [Hsim.out, ← hr.out, simpFrom_end hlt2]⟩
    case rest =>
      obtain ⟨rfl, Hno⟩ := hcut
      clear Hsim hF1 hF2 hT2
      go_upto_block 2 with fail
      go_cut [11, 12] (fun v11 v12 wc2 => ∃ d : Nat, v11 = .int .i64 0 ∧ v12 = .int .i64 d ∧ (d = 2 ∨ d = 4 ∨ d = 8) ∧ wc2 = wc ∧ Hid (escOf s i bytes = escHex s i d))
      case first => as_aux_lemma =>
        have Hno' : Hid (simpleEsc (bt s (i + 1)) = none) := by show _ = _; rw [Hc.out]; exact Hno.out
        by_cases ho : 48 ≤ c ∧ c ≤ 51
        · have hoc : Hid (escOf s i bytes = escOct s i) := by show _ = _; exact escOf_oct hlt Hno'.out (by rw [Hc.out]; exact ho)
          obtain ⟨ho1, ho2⟩ := ho
          by_cases h4 : i + 4 ≤ s.size
          · have hfin : Hid (escOct s i = (octVal s 3 (i + 1) 0).map fun v => ([asB (v % 256)], i + 4)) := by show _ = _; rw [escOct, if_pos h4]
            go_wp2_with fail
            go_loop [11, 13] (fun v11 v13 => ∃ (j m : Nat) (v : Int), j + m = 3 ∧ v13 = .int .i64 (i + 1 + j) ∧ v11 = .int .i64 v ∧ 0 ≤ v ∧ Hid (octBd m v) ∧ Hid (octVal s m (i + 1 + j) v = octVal s 3 (i + 1) 0)) (fun _ v13 => s.size - (intOf v13).toNat)
            case atStart => exact ⟨0, 3, 0, rfl, by go_num, rfl, by omega, by unfold Hid octBd; omega, rfl⟩
            case round =>
              obtain ⟨j, m, v, hjm, rfl, rfl, hv0, hbd, hr⟩ := hrel
              by_cases hj : j < 3
              · obtain ⟨m, rfl⟩ : ∃ q, m = q + 1 := ⟨m - 1, by omega⟩
                have hv1 := octBd_le hbd.out
                have hlt3 : i + 1 + j < s.size := by omega
                obtain ⟨x, hx⟩ : ∃ x, bt s (i + 1 + j) = x := ⟨_, rfl⟩
                have hx0 : 0 ≤ x := by rw [← hx]; exact Hn0.out _
                have hx1 : x ≤ 255 := by rw [← hx]; exact Hn1.out _
                have hb3 : ((s[i + 1 + j]'hlt3).toNat : Int) = x := by rw [Hb.out _ hlt3]; exact hx
                have Hx := Lib.hid hx
                clear hx
                by_cases hd : 48 ≤ x ∧ x ≤ 55
                · obtain ⟨hd1, hd2⟩ := hd
                  have hstep : Hid (octVal s m (i + 1 + (j + 1)) (8 * v + (x - 48)) = octVal s 3 (i + 1) 0) := by
                    show _ = _
                    rw [← hr.out, octVal, Hx.out, if_pos ⟨hd1, hd2⟩]; rfl
                  have hbd2 := Lib.hid (octBd_step (x := x - 48) hbd.out (by omega))
                  go_wp2
                  go_round
                  case rel => exact ⟨j + 1, m, 8 * v + (x - 48), by omega, by go_num, by go_num, by omega, hbd2, hstep⟩
                  case measure => simp [intOf]; omega
                · have hbad : Hid (escOf s i bytes = none) := by
                    show _ = _
                    rw [hoc.out, hfin.out, ← hr.out, octVal, Hx.out, if_neg hd]; rfl
                  by_cases hd1 : x < 48
                  all_goals
                    go_wp2
                    go_ret3
                    exact escPost_none hbad.out (Below.refl _ _)
              · obtain rfl : m = 0 := by omega
                obtain rfl : j = 3 := by omega
                have hbd0 := hbd.out
                have hv1 : v ≤ 511 := by unfold octBd at hbd0; omega
                clear hbd0
                have hgood : Hid (escOf s i bytes = some ([asB (v % 256)], i + 4)) := by
                  show _ = _
                  rw [hoc.out, hfin.out, ← hr.out]; rfl
                go_wp2
                go_ret3
                exact escPost_one (by omega) (by omega) hgood.out (cell_new_one _ _ _) (by simp) ((Below.refl _ _).alloc (Nat.le_refl _) _)
          · have hfin : Hid (escOf s i bytes = none) := by show _ = _; rw [hoc.out, escOct, if_neg h4]
            go_wp2
            go_ret3
            exact escPost_none hfin.out (Below.refl _ _)
        · have hdig : ∀ d, escDigits c bytes = some d → escOf s i bytes = escHex s i d := fun d hd => escOf_hex hlt Hno'.out (by rw [Hc.out]; exact ho) (by rw [Hc.out]; exact hd)
          have hnod : escDigits c bytes = none → escOf s i bytes = none := fun hd => escOf_no hlt Hno'.out (by rw [Hc.out]; exact ho) (by rw [Hc.out]; exact hd)
          have Hdig := Lib.hid hdig
          have Hnod := Lib.hid hnod
          clear hdig hnod
          have hnoct : ¬ (48 ≤ c ∧ c ≤ 51) := ho
          clear Hno Hno' ho
          by_cases h1 : c = 120
          · subst h1
            have hd : Hid (escOf s i bytes = escHex s i 2) := Hdig.out 2 (by rw [escDigits, if_pos (Or.inl rfl)])
            go_wp2
            go_meet
            case rel => exact ⟨2, rfl, rfl, Or.inl rfl, rfl, hd⟩
          · by_cases h2 : c = 88
            · subst h2
              have hd : Hid (escOf s i bytes = escHex s i 2) := Hdig.out 2 (by rw [escDigits, if_pos (Or.inr rfl)])
              go_wp2
              go_meet
              case rel => exact ⟨2, rfl, rfl, Or.inl rfl, rfl, hd⟩
            · by_cases h3 : c = 117
              · subst h3
                cases bytes
                · have hd : Hid (escOf s i false = escHex s i 4) := Hdig.out 4 (by decide)
                  go_wp2
                  go_meet
                  case rel => exact ⟨4, rfl, rfl, Or.inr (Or.inl rfl), rfl, hd⟩
                · have hd : Hid (escOf s i true = none) := Hnod.out (by decide)
                  go_wp2
                  go_ret3
                  exact escPost_none hd.out (Below.refl _ _)
              · by_cases h4 : c = 85
                · subst h4
                  cases bytes
                  · have hd : Hid (escOf s i false = escHex s i 8) := Hdig.out 8 (by decide)
                    go_wp2
                    go_meet
                    case rel => exact ⟨8, rfl, rfl, Or.inr (Or.inr rfl), rfl, hd⟩
                  · have hd : Hid (escOf s i true = none) := Hnod.out (by decide)
                    go_wp2
                    go_ret3
                    exact escPost_none hd.out (Below.refl _ _)
                · have hd : Hid (escOf s i bytes = none) := Hnod.out (by rw [escDigits, if_neg (by omega), if_neg (fun k => h3 k.1), if_neg (fun k => h4 k.1)])
                  have e1 : (c == 120) = false := by simp [h1]
                  have e2 : (c == 88) = false := by simp [h2]
                  have e3 : (c == 117) = false := by simp [h3]
                  have e4 : (c == 85) = false := by simp [h4]
                  clear h1 h2 h3 h4 Hdig Hnod
                  rcases (show c < 48 ∨ 51 < c by omega) with hlo | hhi
                  all_goals
                    clear hnoct
                    go_wp2
                    go_ret3
                    exact escPost_none hd.out (Below.refl _ _)
      case rest => as_aux_lemma =>
        obtain ⟨d, rfl, rfl, hd, rfl, hesc⟩ := hcut
        have hd8 : d ≤ 8 := by omega
        have hd2 : 2 ≤ d := by omega
        clear hb2 Hc Hno
        by_cases hfit : i + 2 + d ≤ s.size
        · have hfin : Hid (escOf s i bytes = ((hexVal s d (i + 2) 0).bind (hexPart d)).map fun p => (p, i + 2 + d)) := by show _ = _; rw [hesc.out, escHex, if_pos hfit]
          go_upto_block 5 with fail
          go_cut [11] (fun v11 wc2 => ∃ v : Int, v11 = .int .i64 v ∧ 0 ≤ v ∧ v ≤ 4294967295 ∧ wc2 = wc ∧ Hid (hexVal s d (i + 2) 0 = some v))
          case first => as_aux_lemma =>
            go_wp2_with fail
            go_loop [11, 14] (fun v11 v14 => ∃ (j m : Nat) (v : Int), j + m = d ∧ v14 = .int .i64 (i + 2 + j) ∧ v11 = .int .i64 v ∧ 0 ≤ v ∧ Hid (hexBd j v) ∧ Hid (hexVal s m (i + 2 + j) v = hexVal s d (i + 2) 0)) (fun _ v14 => s.size - (intOf v14).toNat)
            case atStart => exact ⟨0, d, 0, by omega, by go_num, rfl, by omega, hexBd_zero, rfl⟩
            case round =>
              obtain ⟨j, m, v, hjm, rfl, rfl, hv0, hbd, hr⟩ := hrel
              by_cases hj : j < d
              · obtain ⟨m, rfl⟩ : ∃ q, m = q + 1 := ⟨m - 1, by omega⟩
                have hv1 := hexBd_le7 hbd.out (by omega)
                have hlt3 : i + 2 + j < s.size := by omega
                obtain ⟨x, hx⟩ : ∃ x, bt s (i + 2 + j) = x := ⟨_, rfl⟩
                have hx0 : 0 ≤ x := by rw [← hx]; exact Hn0.out _
                have hx1 : x ≤ 255 := by rw [← hx]; exact Hn1.out _
                have hb3 : ((s[i + 2 + j]'hlt3).toNat : Int) = x := by rw [Hb.out _ hlt3]; exact hx
                have Hx := Lib.hid hx
                clear hx
                have hq1 := hexV_le x
                by_cases hq0 : 0 ≤ hexV x
                · have hstep : Hid (hexVal s m (i + 2 + (j + 1)) (16 * v + hexV x) = hexVal s d (i + 2) 0) := by
                    show _ = _
                    rw [← hr.out, hexVal, Hx.out, if_pos hq0]; rfl
                  have hbd2 := Lib.hid (hexBd_step (x := hexV x) hbd.out hq1)
                  go_wp2_with (go_at_call 44; refine (Hex_c _ _ hx0 hx1).mono ?_; rintro e w' ⟨rfl, rfl⟩)
                  go_round
                  case rel => exact ⟨j + 1, m, 16 * v + hexV x, by omega, by go_num, by go_num, by omega, hbd2, hstep⟩
                  case measure => simp [intOf]; omega
                · have hbad : Hid (escOf s i bytes = none) := by
                    show _ = _
                    rw [hfin.out, ← hr.out, hexVal, Hx.out, if_neg hq0]; rfl
                  go_wp2_with (go_at_call 44; refine (Hex_c _ _ hx0 hx1).mono ?_; rintro e w' ⟨rfl, rfl⟩)
                  go_ret3
                  exact escPost_none hbad.out (Below.refl _ _)
              · obtain rfl : m = 0 := by omega
                obtain rfl : j = d := by omega
                have hv1 := hexBd_le hbd.out hd8
                go_wp2
                go_meet
                case rel => exact ⟨v, rfl, hv0, hv1, rfl, by show _ = _; rw [← hr.out]; rfl⟩
          case rest => as_aux_lemma =>
            obtain ⟨v, rfl, hv0, hv1, rfl, hval⟩ := hcut
            have hres : Hid (escOf s i bytes = (hexPart d v).map fun p => (p, i + 2 + d)) := by show _ = _; rw [hfin.out, hval.out]; rfl
            clear hfin hval hesc
            by_cases hd2' : d = 2
            · subst hd2'
              have hgood : Hid (escOf s i bytes = some ([asB (v % 256)], i + 4)) := by show _ = _; rw [hres.out]; rfl
              have h1 := Int.emod_nonneg v (show (256 : Int) ≠ 0 by decide)
              have h2 := Int.emod_lt_of_pos v (show (0 : Int) < 256 by decide)
              go_wp2
              go_ret3
              exact escPost_one (by omega) (by omega) hgood.out (cell_new_one _ _ _) (by simp) ((Below.refl _ _).alloc (Nat.le_refl _) _)
            · have hne : ((d : Int) == 2) = false := by simp; omega
              by_cases hbadr : 1114111 < v ∨ (55296 ≤ v ∧ v < 57344)
              · have hbad : Hid (escOf s i bytes = none) := by show _ = _; rw [hres.out, hexPart, if_neg hd2', if_pos hbadr]; rfl
                by_cases hb1 : 1114111 < v
                · go_wp2
                  go_ret3
                  exact escPost_none hbad.out (Below.refl _ _)
                · have hb2 : 55296 ≤ v := by omega
                  have hb3 : v < 57344 := by omega
                  go_wp2
                  go_ret3
                  exact escPost_none hbad.out (Below.refl _ _)
              · have hgood : Hid (escOf s i bytes = some ((Utf8.encode v).data.toList, i + 2 + d)) := by show _ = _; rw [hres.out, hexPart, if_neg hd2', if_neg hbadr]; rfl
                have hcv := run_bytes_of wc (Utf8.encode v)
                have hv2 : v ≤ 1114111 := by omega
                obtain ⟨cap, hcap⟩ : ∃ cap, grownCap wc (Utf8.encode v).size 0 5 = cap := ⟨_, rfl⟩
                rw [hcap] at hcv
                clear hcap
                rcases (show v < 55296 ∨ 57344 ≤ v by omega) with hlo | hhi
                all_goals
                  clear hbadr
                  go_wp2
                  go_ret3
                  exact escPost_many hgood.out
        · have hbad : Hid (escOf s i bytes = none) := by show _ = _; rw [hesc.out, escHex, if_neg hfit]
          go_wp2
          go_ret3
          exact escPost_none hbad.out (Below.refl _ _)
  · go_enter Tryz.func43, Tryz.ntmps43
    have hend := Lib.hid (escOf_end (bytes := bytes) hlt)
    go_wp2
    go_ret3
    exact escPost_none hend.out (Below.refl _ _)
end Go.Proofs.YtmkkeacbabmaeaaGreatDoor
namespace Go.Proofs.YtmkkeacbabmaeaaGreatDoor
open Go.PlainAid

/-- The quotation mark at a place: one byte, or (no backquote) three of them. -/
def markOf (s : ByteArray) (i : Nat) : ByteArray :=
  if (s.extract i (i + 1)).toList ≠ [96] ∧ startsB s i (s.extract i (i + 1) ++ s.extract i (i + 1) ++ s.extract i (i + 1)) = true then s.extract i (i + 1) ++ s.extract i (i + 1) ++ s.extract i (i + 1) else s.extract i (i + 1)

/-- What stands between the marks q from a place on: the value, and where the mark ends; or where the fault is. -/
inductive QRes where
  | good (v : List UInt8) (stop : Nat)
  | bad (at_ : Nat)

def isNL (c : Int) : Prop := c = 10 ∨ c = 13
instance (c : Int) : Decidable (isNL c) := by unfold isNL; infer_instance

theorem escOf_gt {s : ByteArray} {i : Nat} {bytes : Bool} {p : List UInt8 × Nat} (h : escOf s i bytes = some p) : i + 2 ≤ p.2 ∧ p.2 ≤ s.size := by
  unfold escOf at h
  split at h
  · rename_i hlt
    split at h
    · cases h; exact ⟨Nat.le_refl _, by show i + 2 ≤ s.size; omega⟩
    · split at h
      · unfold escOct at h
        split at h
        · cases ho : octVal s 3 (i + 1) 0 with
          | none => rw [ho] at h; cases h
          | some v => rw [ho] at h; cases h; exact ⟨by show i + 2 ≤ i + 4; omega, by assumption⟩
        · cases h
      · split at h
        · cases h
        · unfold escHex at h
          split at h
          · rename_i d _ _
            cases ho : (hexVal s d (i + 2) 0).bind (hexPart d) with
            | none => rw [ho] at h; cases h
            | some v => rw [ho] at h; cases h; exact ⟨by show i + 2 ≤ i + 2 + d; omega, by assumption⟩
          · cases h
  · cases h

/-- The bytes an escape stands for: at most four. -/
theorem encode_le (v : Int) : (Utf8.encode v).size ≤ 4 := by
  unfold Utf8.encode
  simp only []
  generalize (if Utf8.valid v = true then v.toNat else Utf8.runeError) = c
  split
  · show 1 ≤ 4; omega
  · split
    · show 2 ≤ 4; omega
    · split
      · show 3 ≤ 4; omega
      · show 4 ≤ 4; omega
theorem hexPart_le {d : Nat} {v : Int} {l : List UInt8} (h : hexPart d v = some l) : l.length ≤ 4 := by
  unfold hexPart at h
  split at h
  · cases h; show 1 ≤ 4; omega
  · split at h
    · cases h
    · cases h
      have := encode_le v
      simpa using this
theorem escOf_le {s : ByteArray} {i : Nat} {bytes : Bool} {p : List UInt8 × Nat} (h : escOf s i bytes = some p) : p.1.length ≤ 4 := by
  unfold escOf at h
  split at h
  · split at h
    · cases h; show 1 ≤ 4; omega
    · split at h
      · unfold escOct at h
        split at h
        · cases ho : octVal s 3 (i + 1) 0 with
          | none => rw [ho] at h; cases h
          | some v => rw [ho] at h; cases h; show 1 ≤ 4; omega
        · cases h
      · split at h
        · cases h
        · unfold escHex at h
          split at h
          · rename_i d _ _
            cases ho : (hexVal s d (i + 2) 0).bind (hexPart d) with
            | none => rw [ho] at h; cases h
            | some v =>
              rw [ho] at h; cases h
              cases h1 : hexVal s d (i + 2) 0 with
              | none => rw [h1] at ho; cases ho
              | some u => rw [h1] at ho; exact hexPart_le (v := u) ho
          · cases h
  · cases h

/-- From place i on, with what has been read so far. (f: rounds enough.) -/
def quotFrom (s q : ByteArray) (raw bytes : Bool) : Nat → Nat → List UInt8 → QRes
  | 0, _, _ => .bad s.size
  | f + 1, i, v =>
    if i < s.size then
      if startsB s i q = true then .good v (i + q.size)
      else if isNL (bt s i) ∧ q.size = 1 then .bad i
      else if bt s i = 92 ∧ raw = true then
        (if i + 1 = s.size ∨ (bt s (i + 1) = 10 ∧ q.size = 1) then .bad i else quotFrom s q raw bytes f (i + 2) (v ++ [byteAt s i, byteAt s (i + 1)]))
      else if bt s i = 92 then
        (match escOf s i bytes with
        | none => .bad i
        | some p => quotFrom s q raw bytes f p.2 (v ++ p.1))
      else quotFrom s q raw bytes f (i + 1) (v ++ [byteAt s i])
    else .bad s.size
def quotOf (s : ByteArray) (i : Nat) (raw bytes : Bool) : QRes := quotFrom s (markOf s i) raw bytes s.size (i + (markOf s i).size) []

section
variable {s q : ByteArray} {raw bytes : Bool} {f i : Nat} {v : List UInt8}
theorem quotFrom_end (h : ¬ i < s.size) : quotFrom s q raw bytes f i v = .bad s.size := by
  cases f with
  | zero => rfl
  | succ f => rw [quotFrom, if_neg h]
theorem quotFrom_stop (h : i < s.size) (hq : startsB s i q = true) : quotFrom s q raw bytes (f + 1) i v = .good v (i + q.size) := by rw [quotFrom, if_pos h, if_pos hq]
theorem quotFrom_nl (h : i < s.size) (hq : startsB s i q = false) (hn : isNL (bt s i) ∧ q.size = 1) : quotFrom s q raw bytes (f + 1) i v = .bad i := by rw [quotFrom, if_pos h, if_neg (by simp [hq]), if_pos hn]
theorem quotFrom_rawbad (h : i < s.size) (hq : startsB s i q = false) (hn : ¬ (isNL (bt s i) ∧ q.size = 1)) (hb : bt s i = 92) (hx : i + 1 = s.size ∨ (bt s (i + 1) = 10 ∧ q.size = 1)) : quotFrom s q true bytes (f + 1) i v = .bad i := by
  rw [quotFrom, if_pos h, if_neg (by simp [hq]), if_neg hn, if_pos ⟨hb, rfl⟩, if_pos hx]
theorem quotFrom_raw (h : i < s.size) (hq : startsB s i q = false) (hn : ¬ (isNL (bt s i) ∧ q.size = 1)) (hb : bt s i = 92) (hx : ¬ (i + 1 = s.size ∨ (bt s (i + 1) = 10 ∧ q.size = 1))) : quotFrom s q true bytes (f + 1) i v = quotFrom s q true bytes f (i + 2) (v ++ [byteAt s i, byteAt s (i + 1)]) := by
  rw [quotFrom, if_pos h, if_neg (by simp [hq]), if_neg hn, if_pos ⟨hb, rfl⟩, if_neg hx]
theorem quotFrom_escbad (h : i < s.size) (hq : startsB s i q = false) (hn : ¬ (isNL (bt s i) ∧ q.size = 1)) (hb : bt s i = 92) (he : escOf s i bytes = none) : quotFrom s q false bytes (f + 1) i v = .bad i := by
  rw [quotFrom, if_pos h, if_neg (by simp [hq]), if_neg hn, if_neg (by simp), if_pos hb, he]
theorem quotFrom_esc {p : List UInt8 × Nat} (h : i < s.size) (hq : startsB s i q = false) (hn : ¬ (isNL (bt s i) ∧ q.size = 1)) (hb : bt s i = 92) (he : escOf s i bytes = some p) : quotFrom s q false bytes (f + 1) i v = quotFrom s q false bytes f p.2 (v ++ p.1) := by
  rw [quotFrom, if_pos h, if_neg (by simp [hq]), if_neg hn, if_neg (by simp), if_pos hb, he]
theorem quotFrom_plain (h : i < s.size) (hq : startsB s i q = false) (hn : ¬ (isNL (bt s i) ∧ q.size = 1)) (hb : ¬ bt s i = 92) : quotFrom s q raw bytes (f + 1) i v = quotFrom s q raw bytes f (i + 1) (v ++ [byteAt s i]) := by
  rw [quotFrom, if_pos h, if_neg (by simp [hq]), if_neg hn, if_neg (fun k => hb k.1), if_neg hb]
end
end Go.Proofs.YtmkkeacbabmaeaaGreatDoor
namespace Go.Proofs.YtmkkeacbabmaeaaGreatDoor
open Go.RowKit Go.PlainAid

theorem info_u8 : (Tryz.prog.info? 5).map (fun i => (i.zero, i.size, i.bytes)) = some (some (.int .u8 0), 1, 1) := by kernel_rfl

/-- 'string(v)' of a row that the call owns. -/
theorem own_string {w : World} {base : Nat} {v : Value} {l : List UInt8} (h : w.ownsRow base 5 1 v l.length (Lib.byteCells l)) :
    (convert 89 9 v).run Tryz.prog w = .ok (.string ⟨l.toArray⟩) w := by
  rcases h.2 with ⟨rfl, hn⟩ | ⟨g, cap, cur, rfl, hb, hg, hle, _, hsz, htk⟩
  · obtain rfl : l = [] := List.length_eq_zero_iff.1 hn
    exact Lib.run_convert_nil_bytes w 89 9 5 0 Tryz.underlying89 Tryz.underlying5 Tryz.underlying9
  · rw [Nat.mul_one] at htk
    exact run_convert_bytes_back w 89 9 5 ⟨g, 0, none⟩ cap l Tryz.underlying89 Tryz.underlying5 Tryz.underlying9 (Lib.bytes_of_row hg htk)

theorem own_push {w : World} {base : Nat} {v : Value} {l r : List UInt8} {n : Nat} {xs : List Value} (h : w.ownsRow base 5 1 v n xs) (hn : n = (l ++ r).length) (hx : xs = Lib.byteCells (l ++ r)) :
    w.ownsRow base 5 1 v (l ++ r).length (Lib.byteCells (l ++ r)) := by subst hn; subst hx; exact h
theorem own_below {w w' : World} {base : Nat} {v : Value} {n : Nat} {xs : List Value} (h : w.ownsRow base 5 1 v n xs) (hb : Below w.heap.size w w') : w'.ownsRow base 5 1 v n xs :=
  h.kept (row := none) ⟨hb.os, hb.tape, hb.output, hb.size, fun k hk _ => hb.block k hk⟩ (by cases v.ownBlock <;> simp)
theorem cells_byte (b : UInt8) : Lib.byteCells [b] = [.int .u8 (b.toNat : Int)] := rfl
theorem cells_two (a b : UInt8) : Lib.byteCells [a, b] = [.int .u8 (a.toNat : Int), .int .u8 (b.toNat : Int)] := rfl

theorem cells_new (w : World) (cs : Array Value) (T : TypeId) : ∀ (j : Nat) (u : Value), cs.toList[j]? = some u → (w.alloc (.cells cs T)).cell? ((⟨w.heap.size, 0, none⟩ : Addr).add j) = some u := by
  intro j u h
  rw [add_off, World.cell?_alloc_mark]
  simpa using h
theorem cells_part {w : World} {g : Nat} {l : List UInt8} (h : PartAt w g l) : ∀ (j : Nat) (u : Value), (Lib.byteCells l)[j]? = some u → w.cell? ((⟨g, 0, none⟩ : Addr).add j) = some u := by
  intro j u hu
  have hj : j < l.length := by have := (List.getElem?_eq_some_iff.1 hu).1; simpa [Lib.byteCells] using this
  rw [add_off, h j hj]
  simpa [Lib.byteCells, hj] using hu
/-- Behind an append of bytes. -/
theorem quot_push {B : Nat} {w wr wx w1 : World} {v v' : Value} {l r : List UInt8} {n : Nat} {xs : List Value} (hown : wx.ownsRow B 5 1 v l.length (Lib.byteCells l)) (hbw : Below B w wr) (hB : B ≤ wr.heap.size) (hx : Below wr.heap.size wr wx)
    (h' : w1.ownsRow B 5 1 v' (l.length + n) (Lib.byteCells l ++ xs)) (hg : wx.grownBy w1 v.ownBlock) (hn : n = r.length) (hxs : xs = Lib.byteCells r) :
    w1.ownsRow B 5 1 v' (l ++ r).length (Lib.byteCells (l ++ r)) ∧ Below B w w1 := by
  subst hn; subst hxs
  refine ⟨?_, ?_⟩
  · rw [Lib.byteCells_append, List.length_append]; exact h'
  · exact (hbw.trans (hx.mono hB)).grown hg (Nat.le_trans hB hx.size) (fun k hk => (hown.lt k hk).1)

def tripB (s q1 : ByteArray) (i : Nat) : Bool := decide (q1.toList ≠ [96] ∧ startsB s i (q1 ++ q1 ++ q1) = true)
def nl1B (s q : ByteArray) (k : Nat) : Bool := decide (bt s k = 10 ∧ q.size = 1)
def nlB (s q : ByteArray) (k : Nat) : Bool := decide (isNL (bt s k) ∧ q.size = 1)
def QPost (r : QRes) (w : World) (e : Ending) (w' : World) : Prop :=
  (match r with
  | .good v n => e = .returned (.tuple #[.string ⟨v.toArray⟩, .int .i64 n, .bool true])
  | .bad n => e = .returned (.tuple #[.string ⟨#[]⟩, .int .i64 n, .bool false])) ∧ Below w.heap.size w w'


theorem qpost_good {r : QRes} {w w' : World} {l : List UInt8} {n : Nat} (h : r = .good l n) (hb : Below w.heap.size w w') : QPost r w (.returned (.tuple #[.string ⟨l.toArray⟩, .int .i64 n, .bool true])) w' := by subst h; exact ⟨rfl, hb⟩
theorem qpost_bad {r : QRes} {w w' : World} {n : Nat} (h : r = .bad n) (hb : Below w.heap.size w w') : QPost r w (.returned (.tuple #[.string ⟨#[]⟩, .int .i64 n, .bool false])) w' := by subst h; exact ⟨rfl, hb⟩

set_option maxHeartbeats 3200000 in
set_option maxRecDepth 100000 in
theorem Quoted_c (s : ByteArray) (i : Nat) (raw bytes : Bool) (w : World) (hs : s.size ≤ 35184372088832) (hi : i < s.size) :
    Calls Tryz.prog 27 #[.string s, .int .i64 i, .bool raw, .bool bytes] w (QPost (quotOf s i raw bytes) w) := by
  go_enter Tryz.func27, Tryz.ntmps27
  go_upto_region 2 with fail
  have hq1s : (s.extract i (i + 1)).size ≤ 1 := by rw [ByteArray.size_extract]; omega
  have hq1t : 1 ≤ (s.extract i (i + 1)).size := by rw [ByteArray.size_extract]; omega
  have hmk : ∀ q1, s.extract i (i + 1) = q1 → markOf s i = if q1.toList ≠ [96] ∧ startsB s i (q1 ++ q1 ++ q1) = true then q1 ++ q1 ++ q1 else q1 := fun q1 h => by rw [markOf, h]
  obtain ⟨q1, hq1⟩ : ∃ q1, s.extract i (i + 1) = q1 := ⟨_, rfl⟩
  have Hmk := Lib.hid (hmk q1 hq1)
  rw [hq1] at hq1s hq1t
  rw [hq1]
  clear hmk hq1
  go_cut [34] (fun v wc => v = .bool (tripB s q1 i) ∧ w = wc)
  case first => as_aux_lemma =>
    by_cases hq : q1.toList = [96]
    · have hd : Hid (tripB s q1 i = false) := by show _ = _; simp [tripB, hq]
      go_wp2_with fail
      go_meet
      case rel => exact ⟨by rw [hd.out], rfl⟩
    · have hd : Hid (tripB s q1 i = startsB s i (q1 ++ q1 ++ q1)) := by show _ = _; cases hs : startsB s i (q1 ++ q1 ++ q1) <;> simp [tripB, hq, hs]
      go_wp2_with (go_at_call 11; refine (lStarts_c _ _ _ _ (by omega) (by simp only [ByteArray.size_append]; omega) (by omega)).mono ?_; rintro e w' ⟨rfl, rfl⟩)
      go_meet
      case rel => exact ⟨by rw [hd.out]; simp [hq], rfl⟩
  case rest => as_aux_lemma =>
    obtain ⟨rfl, rfl⟩ := hcut
    go_upto_if 34 with fail
    go_cut [11] (fun v wc2 => ∃ q : ByteArray, v = .string q ∧ w = wc2 ∧ 1 ≤ q.size ∧ q.size ≤ 3 ∧ Hid (markOf s i = q))
    case first => as_aux_lemma =>
      by_cases hd : q1.toList ≠ [96] ∧ startsB s i (q1 ++ q1 ++ q1) = true
      · have hdb : tripB s q1 i = true := decide_eq_true hd
        have Hq : Hid (markOf s i = q1 ++ q1 ++ q1) := by show _ = _; rw [Hmk.out, if_pos hd]
        rw [hdb]
        clear hd hdb
        go_wp2_with fail
        go_meet
        case rel => exact ⟨q1 ++ q1 ++ q1, rfl, rfl, by simp only [ByteArray.size_append]; omega, by simp only [ByteArray.size_append]; omega, Hq⟩
      · have hdb : tripB s q1 i = false := decide_eq_false hd
        have Hq : Hid (markOf s i = q1) := by show _ = _; rw [Hmk.out, if_neg hd]
        rw [hdb]
        clear hd hdb
        go_wp2_with fail
        go_meet
        case rel => exact ⟨q1, rfl, rfl, hq1t, by omega, Hq⟩
    case rest => as_aux_lemma =>
      obtain ⟨q, rfl, rfl, hq1, hq3, Hq⟩ := hcut
      clear Hmk hq1s hq1t
      go_wp2_with fail
      have hfin : Hid (quotOf s i raw bytes = quotFrom s q raw bytes s.size (i + q.size) []) := by show _ = _; rw [quotOf, Hq.out]
      obtain ⟨i0, hi0, hz0, hz1, hz2⟩ := info_parts info_u8
      go_loopg [12, 13] s.size (fun kq v12 v13 wr => ∃ (k : Nat) (l : List UInt8), v13 = .int .i64 k ∧ s.size ≤ k + kq ∧ k ≤ s.size + 3 ∧ wr.ownsRow w.heap.size 5 1 v12 l.length (Lib.byteCells l) ∧ l.length ≤ 4 * k ∧ Below w.heap.size w wr ∧ Hid (quotFrom s q raw bytes kq k l = quotOf s i raw bytes))
      case atStart => exact ⟨i + q.size, [], by go_num, by omega, by omega, World.ownsRow_nil _ _ _ _, by simp, Below.refl _ _, by show _ = _; rw [hfin.out]⟩
      case round =>
        obtain ⟨k, l, rfl, hfu, hk3, hown, hlen, hbw, hr⟩ := hrel
        by_cases hlt : k < s.size
        · obtain ⟨f, rfl⟩ : ∃ g, gk = g + 1 := ⟨gk - 1, by omega⟩
          cases hst : startsB s k q
          case true =>
            have hcv := own_string hown
            have hgood : Hid (quotOf s i raw bytes = .good l (k + q.size)) := by show _ = _; rw [← hr.out]; exact quotFrom_stop hlt hst
            go_wp2_with (go_at_call 11; refine (lStarts_c _ _ _ _ (by omega) (by omega) (by omega)).mono ?_; rintro e w' ⟨rfl, rfl⟩)
            go_ret3
            exact qpost_good hgood.out hbw
          case false =>
            have hb := get_bt s
            have hb0 : ((s[k]'hlt).toNat : Int) = bt s k := hb k hlt
            obtain ⟨c, hc⟩ : ∃ c, bt s k = c := ⟨_, rfl⟩
            rw [hc] at hb0
            have hc0 : 0 ≤ c := by rw [← hc]; exact bt_nonneg s k
            have hc1 : c ≤ 255 := by rw [← hc]; exact bt_le s k
            have hba : ((byteAt s k).toNat : Int) = c := by rw [byteAt_val]; exact hc
            have Hba := Lib.hid hba
            have Hc := Lib.hid hc
            have Hb := Lib.hid hb
            clear hba hc hb
            go_upto_region 12 with (go_at_call 11; refine (lStarts_c _ _ _ _ (by omega) (by omega) (by omega)).mono ?_; rintro e w' ⟨rfl, rfl⟩)
            go_cut [67] (fun v wc2 => v = .bool (nl1B s q k) ∧ wr = wc2)
            case first => as_aux_lemma =>
              by_cases h10 : c = 10
              · have h10b : (c == 10) = true := by simp [h10]
                have hd : Hid (nl1B s q k = ((q.size : Int) == 1)) := by show _ = _; apply bool_ext; simp [nl1B, Hc.out, h10]; omega
                clear h10
                go_wp2_with fail
                go_meet
                case rel => exact ⟨by rw [hd.out], rfl⟩
              · have h10b : (c == 10) = false := by simp [h10]
                have hd : Hid (nl1B s q k = false) := by show _ = _; simp [nl1B, Hc.out, h10]
                clear h10
                go_wp2_with fail
                go_meet
                case rel => exact ⟨by rw [hd.out], rfl⟩
            case rest => as_aux_lemma =>
              obtain ⟨rfl, rfl⟩ := hcut
              go_upto_if 67 with fail
              go_cut [67] (fun v wc2 => v = .bool (nlB s q k) ∧ wr = wc2)
              case first => as_aux_lemma =>
                cases hn1 : nl1B s q k
                · by_cases h13 : c = 13
                  · have h13b : (c == 13) = true := by simp [h13]
                    have hd : Hid (nlB s q k = ((q.size : Int) == 1)) := by show _ = _; apply bool_ext; simp [nlB, isNL, Hc.out, h13]; omega
                    clear h13
                    go_wp2_with fail
                    go_meet
                    case rel => exact ⟨by rw [hd.out], rfl⟩
                  · have h13b : (c == 13) = false := by simp [h13]
                    have hd : Hid (nlB s q k = false) := by
                      show _ = _
                      have : nlB s q k = nl1B s q k := by simp [nlB, nl1B, isNL, Hc.out, h13]
                      rw [this, hn1]
                    clear h13
                    go_wp2_with fail
                    go_meet
                    case rel => exact ⟨by rw [hd.out], rfl⟩
                · have hd : Hid (nlB s q k = true) := by
                    show _ = _
                    have h1 : bt s k = 10 ∧ q.size = 1 := by simpa [nl1B] using hn1
                    exact decide_eq_true ⟨Or.inl h1.1, h1.2⟩
                  go_wp2_with fail
                  go_meet
                  case rel => exact ⟨by rw [hd.out], rfl⟩
              case rest => as_aux_lemma =>
                obtain ⟨rfl, rfl⟩ := hcut
                cases hn : nlB s q k
                case true =>
                  have hbad : Hid (quotOf s i raw bytes = .bad k) := by
                    show _ = _; rw [← hr.out]; exact quotFrom_nl hlt hst (by simpa [nlB] using hn)
                  go_wp2_with fail
                  go_ret3
                  exact qpost_bad hbad.out hbw
                case false =>
                  have hnn : Hid (¬ (isNL (bt s k) ∧ q.size = 1)) := by show ¬ _; intro h; rw [nlB, decide_eq_true h] at hn; cases hn
                  by_cases h92 : c = 92
                  · have h92b : (c == 92) = true := by simp [h92]
                    cases raw
                    case true => as_aux_lemma =>
                      by_cases hend : k + 1 = s.size
                      · have hb1 : ((k : Int) + 1 == (s.size : Int)) = true := by simp; omega
                        have hbad : Hid (quotOf s i true bytes = .bad k) := by show _ = _; rw [← hr.out]; exact quotFrom_rawbad hlt hst hnn.out (by rw [Hc.out]; exact h92) (Or.inl hend)
                        clear h92
                        have Hend := Lib.hid hend
                        clear hend
                        go_wp2_with fail
                        go_ret3
                        exact qpost_bad hbad.out hbw
                      · have hb1 : ((k : Int) + 1 == (s.size : Int)) = false := by simp; omega
                        have hlt1 : k + 1 < s.size := by omega
                        obtain ⟨d, hd⟩ : ∃ d, bt s (k + 1) = d := ⟨_, rfl⟩
                        have hb2 : ((s[k + 1]'hlt1).toNat : Int) = d := by rw [Hb.out (k + 1) hlt1]; exact hd
                        have hd0 : 0 ≤ d := by rw [← hd]; exact bt_nonneg s (k + 1)
                        have hd1 : d ≤ 255 := by rw [← hd]; exact bt_le s (k + 1)
                        have hba2 : Hid (((byteAt s (k + 1)).toNat : Int) = d) := by show _ = _; rw [byteAt_val]; exact hd
                        have Hd := Lib.hid hd
                        clear hd
                        by_cases hnl : d = 10 ∧ q.size = 1
                        · have hbad : Hid (quotOf s i true bytes = .bad k) := by show _ = _; rw [← hr.out]; exact quotFrom_rawbad hlt hst hnn.out (by rw [Hc.out]; exact h92) (Or.inr (by rw [Hd.out]; exact hnl))
                          have hx1 : (d == 10) = true := by simp [hnl.1]
                          have hx2 : ((q.size : Int) == 1) = true := by simp; omega
                          clear h92 hnl
                          go_wp2_with fail
                          go_ret3
                          exact qpost_bad hbad.out hbw
                        · have hgo : Hid (quotFrom s q true bytes f (k + 2) (l ++ [byteAt s k, byteAt s (k + 1)]) = quotOf s i true bytes) := by
                            show _ = _; rw [← hr.out]; exact (quotFrom_raw hlt hst hnn.out (by rw [Hc.out]; exact h92) (fun h => by rcases h with h | h; exact hend h; rw [Hd.out] at h; exact hnl h)).symm
                          have hall : (d == 10) = false ∨ ((d == 10) = true ∧ ((q.size : Int) == 1) = false) := by
                            by_cases e : d = 10
                            · right; exact ⟨by simp [e], by simp; omega⟩
                            · left; simp [e]
                          clear h92 hnl hend
                          rcases hall with hx1 | ⟨hx1, hx2⟩
                          all_goals
                            go_wp2_with (at_builtin; refine wpList_append_own _ rfl _ _ 89 rfl w.heap.size 5 i0 (.int .u8 0) 1 1 Tryz.underlying89 hi0 hz0 hz1 hz2 rfl (by decide) _ _ _ rfl (hown.alloc _) ⟨wr.heap.size, 0, none⟩ 2 2 [.int .u8 c, .int .u8 d] rfl rfl (cells_new wr #[.int .u8 c, .int .u8 d] 5) (by intro u hu; simp at hu; rcases hu with rfl | rfl <;> rfl) (by unfold maxLen; omega) (by omega) (by have := hbw.size; simp; omega) ?_; intro v' w1 hown' hgrow _)
                            have R := quot_push (r := [byteAt s k, byteAt s (k + 1)]) (hown.alloc _) hbw hbw.size ((Below.refl _ _).alloc (Nat.le_refl _) _) hown' hgrow rfl (by rw [cells_two, Hba.out, hba2.out])
                            obtain ⟨R1, R2⟩ := R
                            clear hown' hgrow hown hbw
                            go_wp2_with fail
                            go_roundg f
                            case measure => omega
                            case rel => exact ⟨k + 2, l ++ [byteAt s k, byteAt s (k + 1)], by go_num, by omega, by omega, R1, by simp; omega, R2, hgo⟩
                    case false => as_aux_lemma =>
                      cases he : escOf s k bytes
                      case none =>
                        have hbad : Hid (quotOf s i false bytes = .bad k) := by show _ = _; rw [← hr.out]; exact quotFrom_escbad hlt hst hnn.out (by rw [Hc.out]; exact h92) he
                        clear h92
                        go_wp2_with fail
                        refine (Escape_c s k bytes wr (by omega) hlt).mono ?_
                        intro e w' hp
                        rw [he] at hp
                        obtain ⟨rfl, hb1⟩ := hp
                        go_wp2_with fail
                        go_ret3
                        exact qpost_bad hbad.out (hbw.trans (hb1.mono hbw.size))
                      case some p =>
                        have hgo : Hid (quotFrom s q false bytes f p.2 (l ++ p.1) = quotOf s i false bytes) := by
                          show _ = _; rw [← hr.out]; exact (quotFrom_esc hlt hst hnn.out (by rw [Hc.out]; exact h92) he).symm
                        have hp4 := escOf_le he
                        obtain ⟨hp2, hp3⟩ := escOf_gt he
                        clear h92
                        go_wp2_with fail
                        refine (Escape_c s k bytes wr (by omega) hlt).mono ?_
                        intro e w' hp
                        rw [he] at hp
                        obtain ⟨g, cap, rfl, hpart, hg, hb1⟩ := hp
                        have hown1 := own_below hown hb1
                        have hsz1 := hb1.size
                        have hsz0 := hbw.size
                        clear he
                        go_wp2_with (at_builtin; refine wpList_append_own _ rfl _ _ 89 rfl w.heap.size 5 i0 (.int .u8 0) 1 1 Tryz.underlying89 hi0 hz0 hz1 hz2 rfl (by decide) _ _ _ rfl hown1 ⟨g, 0, none⟩ p.1.length cap (Lib.byteCells p.1) rfl (by simp [Lib.byteCells]) (cells_part hpart) (Lib.byteCells_one _) (by unfold maxLen; omega) (by omega) (by omega) ?_; intro v' w1 hown' hgrow _)
                        have R := quot_push (r := p.1) hown1 hbw hsz0 hb1 hown' hgrow rfl rfl
                        obtain ⟨R1, R2⟩ := R
                        clear hown' hgrow hown hbw hown1 hb1 hpart
                        go_wp2_with fail
                        go_roundg f
                        case measure => omega
                        case rel => exact ⟨p.2, l ++ p.1, by go_num, by omega, by omega, R1, by simp; omega, R2, hgo⟩
                  · have h92b : (c == 92) = false := by simp [h92]
                    have hgo : Hid (quotFrom s q raw bytes f (k + 1) (l ++ [byteAt s k]) = quotOf s i raw bytes) := by
                      show _ = _; rw [← hr.out]; exact (quotFrom_plain hlt hst hnn.out (by rw [Hc.out]; exact h92)).symm
                    clear h92
                    go_wp2_with (at_builtin; refine wpList_append_own _ rfl _ _ 89 rfl w.heap.size 5 i0 (.int .u8 0) 1 1 Tryz.underlying89 hi0 hz0 hz1 hz2 rfl (by decide) _ _ _ rfl (hown.alloc _) ⟨wr.heap.size, 0, none⟩ 1 1 [.int .u8 c] rfl rfl (cells_new wr #[.int .u8 c] 5) (by intro u hu; simp at hu; subst hu; rfl) (by unfold maxLen; omega) (by omega) (by have := hbw.size; simp; omega) ?_; intro v' w1 hown' hgrow _)
                    have R := quot_push (r := [byteAt s k]) (hown.alloc _) hbw hbw.size ((Below.refl _ _).alloc (Nat.le_refl _) _) hown' hgrow rfl (by rw [cells_byte, Hba.out])
                    obtain ⟨R1, R2⟩ := R
                    clear hown' hgrow hown hbw
                    go_wp2_with fail
                    go_roundg f
                    case measure => omega
                    case rel => exact ⟨k + 1, l ++ [byteAt s k], by go_num, by omega, by omega, R1, by simp; omega, R2, hgo⟩
        · have hbad : Hid (quotOf s i raw bytes = .bad s.size) := by show _ = _; rw [← hr.out]; exact quotFrom_end hlt
          go_wp2
          go_ret3
          exact qpost_bad hbad.out hbw
end Go.Proofs.YtmkkeacbabmaeaaGreatDoor
namespace Go.Proofs.YtmkkeacbabmaeaaGreatDoor
open Go.RowKit Go.PlainAid

def nl : ByteArray := ⟨#[10]⟩
theorem nl_size : nl.size = 1 := rfl

set_option maxHeartbeats 1000000 in
theorem zzIndex_c (s : ByteArray) (w : World) (hs : s.size ≤ 274877906944) :
    Calls Tryz.prog 122 #[.string s, .string nl] w fun e w' => (e = .returned (.int .i64 (-1)) ∨ ∃ k : Nat, k + 1 ≤ s.size ∧ e = .returned (.int .i64 k)) ∧ w' = w := by
  have hz : nl.size = 1 := rfl
  obtain ⟨q, hq⟩ : ∃ q, nl = q := ⟨_, rfl⟩
  rw [hq] at hz ⊢
  clear hq
  go_enter Tryz.func122, Tryz.ntmps122
  go_wp2
  go_loopw [5] (fun v5 wr => ∃ k : Nat, k ≤ s.size ∧ v5 = .int .i64 k ∧ wr = w) (fun v5 _ => s.size - (intOf v5).toNat)
  case atStart => exact ⟨0, Nat.zero_le _, rfl, rfl⟩
  case round =>
    obtain ⟨k, hk, rfl, rfl⟩ := hrel
    by_cases hlt : k + 1 ≤ s.size
    · go_wp2
      · go_ret
        exact ⟨Or.inr ⟨k, hlt, rfl⟩, rfl⟩
      · exact ⟨⟨k + 1, by omega, by go_num, trivial⟩, by simp [intOf]; omega⟩
    · go_wp2
      go_ret
      exact ⟨Or.inl rfl, rfl⟩

theorem info_str : (Tryz.prog.info? 9).map (fun i => (i.zero, i.size, i.bytes)) = some (some (.string ByteArray.empty), 1, 16) := by kernel_rfl
/-- The bytes of lines with their ends. -/
def lineSum : List ByteArray → Nat
  | [] => 0
  | p :: l => p.size + 1 + lineSum l
theorem lineSum_snoc (l : List ByteArray) (p : ByteArray) : lineSum (l ++ [p]) = lineSum l + (p.size + 1) := by
  induction l with
  | nil => simp [lineSum]
  | cons a l ih => simp [lineSum, ih]; omega
theorem lineSum_len (l : List ByteArray) : l.length ≤ lineSum l := by
  induction l with
  | nil => exact Nat.le_refl _
  | cons a l ih => simp [lineSum]; omega
def strCells (l : List ByteArray) : List Value := l.map Value.string

theorem str_push {B : Nat} {w wr w1 : World} {v v' : Value} {l : List ByteArray} {p : ByteArray} {o : Obj} (hown : (wr.alloc o).ownsRow B 9 1 v l.length (strCells l)) (hbw : Below B w wr) (hB : B ≤ wr.heap.size)
    (h' : w1.ownsRow B 9 1 v' (l.length + 1) (strCells l ++ [.string p])) (hg : (wr.alloc o).grownBy w1 v.ownBlock) :
    w1.ownsRow B 9 1 v' (l ++ [p]).length (strCells (l ++ [p])) ∧ Below B w w1 := by
  refine ⟨?_, ?_⟩
  · have e : strCells (l ++ [p]) = strCells l ++ [.string p] := by simp [strCells]
    rw [e, List.length_append]; exact h'
  · exact (hbw.alloc hB o).grown hg (by simp; omega) (fun k hk => (hown.lt k hk).1)

set_option maxHeartbeats 4000000 in
set_option maxRecDepth 100000 in
theorem zzSplit_c (s : ByteArray) (w : World) (hs : s.size ≤ 274877906944) :
    Calls Tryz.prog 112 #[.string s, .string nl] w fun e w' => ∃ (v : Value) (l : List ByteArray), e = .returned v ∧ lineSum l = s.size + 1 ∧ w'.ownsRow w.heap.size 9 1 v l.length (strCells l) ∧ Below w.heap.size w w' := by
  have hz : nl.size = 1 := rfl
  have hI := Lib.hid (fun (s : ByteArray) W (h : s.size ≤ 274877906944) => zzIndex_c s W h)
  obtain ⟨q, hq⟩ : ∃ q, nl = q := ⟨_, rfl⟩
  rw [hq] at hz hI ⊢
  clear hq
  obtain ⟨i0, hi0, hz0, hz1, hz2⟩ := info_parts info_str
  go_enter Tryz.func112, Tryz.ntmps112
  go_wp2
  go_loopw [0, 5] (fun v0 v5 wr => ∃ (r : ByteArray) (l : List ByteArray), v0 = .string r ∧ lineSum l + (r.size + 1) = s.size + 1 ∧ wr.ownsRow w.heap.size 9 1 v5 l.length (strCells l) ∧ Below w.heap.size w wr) (fun v0 _ _ => match v0 with | .string r => r.size | _ => 0)
  case atStart => exact ⟨s, [], rfl, by simp [lineSum], World.ownsRow_nil _ _ _ _, Below.refl _ _⟩
  case round =>
    obtain ⟨r, l, rfl, hsum, hown, hbw⟩ := hrel
    have hll := lineSum_len l
    go_wp2_with fail
    refine (hI.out r _ (by omega)).mono ?_
    rintro e w' ⟨he, rfl⟩
    rcases he with rfl | ⟨k, hk, rfl⟩
    · go_wp2_with (at_builtin; refine wpList_append_own _ rfl _ _ 179 rfl w.heap.size 9 i0 (.string ByteArray.empty) 1 16 Tryz.underlying179 hi0 hz0 hz1 hz2 rfl (by decide) _ _ _ rfl (hown.alloc _) ⟨w'.heap.size, 0, none⟩ 1 1 [.string r] rfl rfl (cells_new w' #[.string r] 9) (by intro u hu; simp at hu; subst hu; rfl) (by unfold maxLen; omega) (by omega) (by have := hbw.size; simp; omega) ?_; intro v' w1 hown' hgrow _)
      go_wp2_with fail
      go_ret
      obtain ⟨R1, R2⟩ := str_push (hown.alloc _) hbw hbw.size hown' hgrow
      exact ⟨v', l ++ [r], rfl, by rw [lineSum_snoc]; omega, R1, R2⟩
    · go_wp2_with (at_builtin; refine wpList_append_own _ rfl _ _ 179 rfl w.heap.size 9 i0 (.string ByteArray.empty) 1 16 Tryz.underlying179 hi0 hz0 hz1 hz2 rfl (by decide) _ _ _ rfl (hown.alloc _) ⟨w'.heap.size, 0, none⟩ 1 1 [.string (r.extract 0 k)] rfl rfl (cells_new w' #[.string (r.extract 0 k)] 9) (by intro u hu; simp at hu; subst hu; rfl) (by unfold maxLen; omega) (by omega) (by have := hbw.size; simp; omega) ?_; intro v' w1 hown' hgrow _)
      go_wp2_with fail
      obtain ⟨R1, R2⟩ := str_push (hown.alloc _) hbw hbw.size hown' hgrow
      have e1 : (r.extract 0 k).size = k := by rw [ByteArray.size_extract]; omega
      have e2 : (r.extract (k + 1) r.size).size = r.size - (k + 1) := by rw [ByteArray.size_extract]; omega
      refine ⟨⟨r.extract (k + 1) r.size, l ++ [r.extract 0 k], rfl, by rw [lineSum_snoc, e1, e2]; omega, R1, R2⟩, ?_⟩
      show (r.extract (k + 1) r.size).size < r.size
      omega
end Go.Proofs.YtmkkeacbabmaeaaGreatDoor
namespace Go.Proofs.YtmkkeacbabmaeaaGreatDoor
open Go.RowKit Go.PlainAid

theorem own_open {w : World} {B n : Nat} {e : TypeId} {v : Value} {xs : List Value} (h : w.ownsRow B e 1 v n xs) (hn : 0 < n) :
    ∃ g cap, v = .slice (some ⟨g, 0, none⟩) n cap ∧ B ≤ g ∧ (∃ cur, w.heap[g]? = some (.cells cur e (0, 0))) ∧ ∀ (j : Nat) u, xs[j]? = some u → w.cell? ⟨g, j, none⟩ = some u := by
  have hc := h
  rcases h.2 with ⟨_, h0⟩ | ⟨g, cap, cur, rfl, hb, hg, _, _, _, _⟩
  · omega
  · refine ⟨g, cap, rfl, hb, ⟨cur, hg⟩, fun j u hu => ?_⟩
    have := hc.cells (g := g) rfl j u hu
    rw [add_off] at this
    exact this
theorem own_ne {w : World} {B B' n n' : Nat} {e e' : TypeId} {v v' : Value} {xs xs' : List Value} (h : w.ownsRow B e 1 v n xs) (h' : w.ownsRow B' e' 1 v' n' xs') (hne : e ≠ e') : v.ownBlock = none ∨ v.ownBlock ≠ v'.ownBlock := by
  rcases h.2 with ⟨rfl, _⟩ | ⟨g, cap, cur, rfl, _, hg, _⟩
  · exact Or.inl rfl
  · right
    rcases h'.2 with ⟨rfl, _⟩ | ⟨g', cap', cur', rfl, _, hg', _⟩
    · exact fun h => by cases h
    · intro e1
      have e2 : g = g' := Option.some.inj e1
      subst e2
      rw [hg] at hg'
      cases hg'
      exact hne rfl

/-- Where line j begins. -/
def lineAt (l : List ByteArray) (j : Nat) : Nat := lineSum (l.take j)
def posCells (l : List ByteArray) (n : Nat) : List Value := (List.range n).map fun j => .int .i64 (lineAt l j : Int)
theorem posCells_len (l : List ByteArray) (n : Nat) : (posCells l n).length = n := by simp [posCells]
theorem posCells_snoc (l : List ByteArray) (n : Nat) : posCells l (n + 1) = posCells l n ++ [.int .i64 (lineAt l n : Int)] := by simp [posCells, List.range_succ]
theorem posCells_at (l : List ByteArray) (n j : Nat) (h : j < n) : (posCells l n)[j]? = some (.int .i64 (lineAt l j : Int)) := by simp [posCells, h]
theorem lineAt_next (l : List ByteArray) (j : Nat) (h : j < l.length) : lineAt l (j + 1) = lineAt l j + ((l[j]'h).size + 1) := by
  unfold lineAt
  rw [List.take_succ_eq_append_getElem h, lineSum_snoc]
theorem lineAt_all (l : List ByteArray) : lineAt l l.length = lineSum l := by unfold lineAt; rw [List.take_length]
theorem lineAt_le (l : List ByteArray) : ∀ (m j : Nat), l.length - j = m → j ≤ l.length → lineAt l j ≤ lineSum l
  | 0, j, h, hj => by
    obtain rfl : j = l.length := by omega
    rw [lineAt_all]; exact Nat.le_refl _
  | m + 1, j, h, hj => by
    have h1 := lineAt_le l m (j + 1) (by omega) (by omega)
    rw [lineAt_next l j (by omega)] at h1
    omega

/-- The file's list of lines. -/
def LinesAt (w : World) (s : ByteArray) (ln : Value) : Prop :=
  ∃ (l : List ByteArray) (B : Nat), lineSum l = s.size + 1 ∧ w.ownsRow B 43 1 ln (l.length + 1) (posCells l (l.length + 1))

theorem info_pos : (Tryz.prog.info? 43).map (fun i => (i.zero, i.size, i.bytes)) = some (some (.int .i64 0), 1, 8) := by kernel_rfl
theorem run_back_nil (W : World) (a : Option Addr) (l c : Nat) : (binOp .neq 54 (.slice a l c) (.slice none 0 0)).run Tryz.prog W = .ok (.bool (!a.isNone)) W := Go.run_neq_slice_nil W _ _ a l c Tryz.underlying54
set_option maxHeartbeats 1000000 in
set_option maxRecDepth 100000 in
theorem init_again (s : ByteArray) (f : Nat) (ln : Value) (w : World) (hf : FileAt w f s ln) (hl : LinesAt w s ln) :
    Calls Tryz.prog 100 #[.pointer (some ⟨f, 0, none⟩)] w fun e w' => e = .returned (.tuple #[]) ∧ w' = w := by
  obtain ⟨l, B, _, ho⟩ := hl
  obtain ⟨g, cap, rfl, _⟩ := own_open ho (by omega)
  have c2 := hf.cell2
  have hn := run_back_nil
  clear hf ho
  go_enter Tryz.func100, Tryz.ntmps100
  go_wp2
  refine bodyPost_ret (results_none rfl _ _ _) rfl ?_
  exact ⟨rfl, rfl⟩

theorem FileAt.setLines {w : World} {f : Nat} {s : ByteArray} {ln : Value} (h : FileAt w f s ln) (k : Value) : FileAt (w.setCell ⟨f, 2, none⟩ k) f s k := setCell_block h
theorem FileAt.ne_row {w : World} {f g : Nat} {s : ByteArray} {ln : Value} {C : Array Value} {T : TypeId} (h : FileAt w f s ln) (hg : w.heap[g]? = some (.cells C T (0, 0))) (hT : T ≠ 56) : f ≠ g := by
  intro e
  subst e
  unfold FileAt at h
  rw [h] at hg
  cases hg
  exact hT rfl
theorem own_set {w : World} {B n f j : Nat} {e : TypeId} {v u : Value} {xs : List Value} {s : ByteArray} {ln : Value} (h : w.ownsRow B e 1 v n xs) (hf : FileAt w f s ln) (hT : e ≠ 56) : (w.setCell ⟨f, j, none⟩ u).ownsRow B e 1 v n xs := by
  refine ⟨h.1, ?_⟩
  rcases h.2 with h1 | ⟨g, cap, cur, rfl, hb, hg, h2, h3, h4, h5⟩
  · exact Or.inl h1
  · refine Or.inr ⟨g, cap, cur, rfl, hb, ?_, h2, h3, h4, h5⟩
    rw [Below.heap_setCell _ _ _ _ (fun e => hf.ne_row hg hT e.symm)]
    exact hg

set_option maxHeartbeats 4000000 in
set_option maxRecDepth 100000 in
theorem init_first (s : ByteArray) (f : Nat) (w : World) (hs : s.size ≤ 274877906944) (hf : FileAt w f s (.slice none 0 0)) :
    Calls Tryz.prog 100 #[.pointer (some ⟨f, 0, none⟩)] w fun e w' => e = .returned (.tuple #[]) ∧ Only f w w' ∧ ∃ ln, FileAt w' f s ln ∧ LinesAt w' s ln := by
  obtain ⟨i0, hi0, hz0, hz1, hz2⟩ := info_parts info_pos
  have c1 := hf.cell1
  have c2 := hf.cell2
  have f2 := hf.free 2
  have hn := run_back_nil
  have hlt := hf.lt
  have hsp := Lib.hid (fun W => zzSplit_c s W hs)
  go_enter Tryz.func100, Tryz.ntmps100
  go_wp2_with fail
  refine (hsp.out _).mono ?_
  rintro e w1 ⟨v, l, rfl, hsum, hstr, hb1⟩
  clear hsp
  have hn0 : 0 < l.length := by
    cases l with
    | nil => simp [lineSum] at hsum
    | cons a r => simp
  have hB0 : Below w.heap.size w w1 := ((Below.refl _ w).alloc (Nat.le_refl _) _).trans (hb1.mono (by simp))
  have hown0 : w1.ownsRow w.heap.size 43 1 (.slice (some ⟨w.heap.size, 0, none⟩) 1 1) 1 (posCells l 1) := by
    refine ⟨rfl, Or.inr ⟨w.heap.size, 1, #[.int .i64 0], rfl, Nat.le_refl _, ?_, Nat.le_refl _, by unfold maxLen; decide, rfl, rfl⟩⟩
    rw [hb1.block _ (by simp)]
    exact heap_alloc_new w _
  obtain ⟨gs, cs, rfl, _, _, _⟩ := own_open hstr hn0
  go_wp2_with fail
  go_loopw [2, 17] (fun v2 v17 wr => ∃ k : Nat, k ≤ l.length ∧ v17 = .int .i64 k ∧ wr.ownsRow w.heap.size 43 1 v2 (k + 1) (posCells l (k + 1)) ∧ wr.ownsRow (w.alloc (.cells #[.int .i64 0] 43)).heap.size 9 1 (.slice (some ⟨gs, 0, none⟩) l.length cs) l.length (strCells l) ∧ Below w.heap.size w wr) (fun _ v17 _ => l.length - (intOf v17).toNat)
  case atStart => exact ⟨0, Nat.zero_le _, rfl, hown0, hstr, hB0⟩
  case round =>
    obtain ⟨k, hk, rfl, hown, hst, hbw⟩ := hrel
    have hll := lineSum_len l
    by_cases hlk : k < l.length
    · obtain ⟨gl, cl, rfl, _, _, hcl⟩ := own_open hown (by omega)
      obtain ⟨_, _, e1, _, _, hcs⟩ := own_open hst hn0
      cases e1
      have hnext := lineAt_next l k hlk
      have hle := lineAt_le l _ (k + 1) rfl hlk
      have hc1 := hcl k _ (posCells_at l (k + 1) k (by omega))
      have hc2 := hcs k (.string (l[k]'hlk)) (by simp [strCells, hlk])
      obtain ⟨a, ha⟩ : ∃ a, lineAt l k = a := ⟨_, rfl⟩
      obtain ⟨p, hp⟩ : ∃ p, l[k]'hlk = p := ⟨_, rfl⟩
      rw [ha, hp] at hnext
      rw [ha] at hc1
      rw [hp] at hc2
      have Hnext := Lib.hid hnext
      have hps : a + p.size + 1 ≤ s.size + 1 := by omega
      clear hnext ha hp hcl hcs hn0
      go_wp2_with (at_builtin; refine wpList_append_own _ rfl _ _ 54 rfl w.heap.size 43 i0 (.int .i64 0) 1 8 Tryz.underlying54 hi0 hz0 hz1 hz2 rfl (by decide) _ _ _ rfl (hown.alloc _) ⟨wr.heap.size, 0, none⟩ 1 1 [.int .i64 ((a : Int) + (p.size : Int) + 1)] rfl rfl (cells_new wr #[.int .i64 ((a : Int) + (p.size : Int) + 1)] 43) (by intro u hu; simp at hu; subst hu; rfl) (by unfold maxLen; omega) (by omega) (by have := hbw.size; simp; omega) ?_; intro v' w2 hown' hgrow _)
      go_wp2_with fail
      have hst1 := hst.alloc (.cells #[.int .i64 ((a : Int) + (p.size : Int) + 1)] 43)
      have hown1 := hown.alloc (.cells #[.int .i64 ((a : Int) + (p.size : Int) + 1)] 43)
      have hst2 := hst1.kept hgrow (own_ne hst1 hown1 (by decide))
      refine ⟨⟨k + 1, hlk, by go_num, ?_, hst2, (hbw.alloc hbw.size (.cells #[.int .i64 ((a : Int) + (p.size : Int) + 1)] 43)).grown hgrow (by have := hbw.size; simp; omega) (fun j hj => (hown.lt j hj).1)⟩, by simp [intOf]; omega⟩
      rw [posCells_snoc l (k + 1), Hnext.out]
      have e : ((a + (p.size + 1) : Nat) : Int) = (a : Int) + (p.size : Int) + 1 := by omega
      rw [e]
      exact hown'
    · obtain rfl : k = l.length := by omega
      have hfr := hf.below hbw
      have f2r := hfr.free 2
      have c2r := hfr.cell2
      have c0r := hfr.cell0
      obtain ⟨gl, cl, rfl, _, _, _⟩ := own_open hown (by omega)
      clear c1 c2 f2
      go_wp2_with fail
      go_end0
      refine ⟨rfl, (Only.of_below hbw).setCell 2 _, _, hfr.setLines _, l, w.heap.size, hsum, own_set hown hfr (by decide)⟩
end Go.Proofs.YtmkkeacbabmaeaaGreatDoor
namespace Go.Proofs.YtmkkeacbabmaeaaGreatDoor
open Go.RowKit Go.PlainAid

theorem Invalid_c (p : Nat) (w : World) : Calls Tryz.prog 89 #[.int .i64 p] w fun e w' => e = .returned (.bool false) ∧ w = w' := by
  go_enter Tryz.func89, Tryz.ntmps89
  go_wp2
  go_ret
  refine ⟨ret_bool ?_, rfl⟩
  exact decide_eq_false (by omega)

theorem lineAt_zero (l : List ByteArray) : lineAt l 0 = 0 := rfl
/-- A file's lines, known. -/
structure Lines (w : World) (s : ByteArray) (f : Nat) (l : List ByteArray) (B : Nat) (ln : Value) : Prop where
  file : FileAt w f s ln
  sum : lineSum l = s.size + 1
  row : w.ownsRow B 43 1 ln (l.length + 1) (posCells l (l.length + 1))

set_option maxHeartbeats 4000000 in
set_option maxRecDepth 100000 in
theorem resolve_c {R : World → List ByteArray → Nat → Value → Prop} (s : ByteArray) (f p : Nat) (w : World) (hs : s.size ≤ 274877906944) (hp : p ≤ s.size)
    (hinit : Calls Tryz.prog 100 #[.pointer (some ⟨f, 0, none⟩)] w fun e w' => e = .returned (.tuple #[]) ∧ ∃ l B ln, R w' l B ln)
    (hR : ∀ w' l B ln, R w' l B ln → Lines w' s f l B ln) :
    Calls Tryz.prog 88 #[.pointer (some ⟨f, 0, none⟩), .int .i64 p] w fun e w' => ∃ l B ln k, R w' l B ln ∧ k < l.length ∧ lineAt l k ≤ p ∧ e = .returned (.tuple #[.int .i64 (k : Nat), .int .i64 ((p - lineAt l k : Nat) : Int)]) := by
  have hI := Lib.hid (fun W => Invalid_c p W)
  have hinit := Lib.hid hinit
  have hR := Lib.hid hR
  go_enter Tryz.func88, Tryz.ntmps88
  go_wp2_with fail
  refine (hI.out _).mono ?_
  rintro e w0 ⟨rfl, rfl⟩
  go_wp2_with fail
  refine hinit.out.mono ?_
  rintro e w1 ⟨rfl, l, B, ln, hr⟩
  obtain ⟨hf, hsum, hrow⟩ := hR.out _ _ _ _ hr
  have hr := Lib.hid hr
  clear hI hinit hR
  have hll := lineSum_len l
  obtain ⟨g, cap, rfl, _, _, hc⟩ := own_open hrow (by omega)
  have hn1 : 1 ≤ l.length := by
    cases l with
    | nil => simp [lineSum] at hsum
    | cons a r => simp
  have c2 := hf.cell2
  have hc := Lib.hid hc
  clear hf hrow
  go_wp2_with fail
  go_loopw [4] (fun v4 wr => ∃ k : Nat, k ≤ l.length ∧ v4 = .int .i64 k ∧ wr = w1) (fun v4 _ => (intOf v4).toNat)
  case atStart => exact ⟨l.length, Nat.le_refl _, by go_num, rfl⟩
  case round =>
    obtain ⟨k, hk, rfl, rfl⟩ := hrel
    have hck := hc.out k _ (posCells_at l _ k (by omega))
    have hlast := lineAt_all l
    have hzero := lineAt_zero l
    have hle := lineAt_le l _ k rfl hk
    by_cases hlt : lineAt l k ≤ p
    · have hkl : k < l.length := by
        rcases Nat.lt_or_ge k l.length with h | h
        · exact h
        · have e : k = l.length := by omega
          rw [e, hlast] at hlt
          omega
      go_wp2_with fail
      go_ret2
      refine ⟨l, B, _, k, hr.out, hkl, hlt, ?_⟩
      have e : ((p - lineAt l k : Nat) : Int) = (p : Int) - (lineAt l k : Int) := by omega
      rw [e]
      rfl
    · have hk0 : 1 ≤ k := by
        rcases Nat.eq_zero_or_pos k with h | h
        · rw [h, hzero] at hlt; omega
        · exact h
      go_wp2_with fail
      refine ⟨⟨k - 1, by omega, ?_, trivial⟩, by simp [intOf]; omega⟩
      have e : ((k - 1 : Nat) : Int) = (k : Int) - 1 := by omega
      rw [e]

/-- The first time. -/
theorem resolve_first (s : ByteArray) (f p : Nat) (w : World) (hs : s.size ≤ 274877906944) (hp : p ≤ s.size) (hf : FileAt w f s (.slice none 0 0)) :
    Calls Tryz.prog 88 #[.pointer (some ⟨f, 0, none⟩), .int .i64 p] w fun e w' => ∃ l B ln k, (Only f w w' ∧ Lines w' s f l B ln) ∧ k < l.length ∧ lineAt l k ≤ p ∧ e = .returned (.tuple #[.int .i64 (k : Nat), .int .i64 ((p - lineAt l k : Nat) : Int)]) :=
  resolve_c (R := fun w' l B ln => Only f w w' ∧ Lines w' s f l B ln) s f p w hs hp ((init_first s f w hs hf).mono fun _ _ ⟨h1, h2, ln, h3, l, B, h4, h5⟩ => ⟨h1, l, B, ln, h2, h3, h4, h5⟩) (fun _ _ _ _ h => h.2)
/-- Later. -/
theorem resolve_again (s : ByteArray) (f p : Nat) (w : World) (l : List ByteArray) (B : Nat) (ln : Value) (hs : s.size ≤ 274877906944) (hp : p ≤ s.size) (hl : Lines w s f l B ln) :
    Calls Tryz.prog 88 #[.pointer (some ⟨f, 0, none⟩), .int .i64 p] w fun e w' => ∃ k, w' = w ∧ k < l.length ∧ lineAt l k ≤ p ∧ e = .returned (.tuple #[.int .i64 (k : Nat), .int .i64 ((p - lineAt l k : Nat) : Int)]) :=
  (resolve_c (R := fun w' l' B' ln' => w' = w ∧ l' = l ∧ B' = B ∧ ln' = ln) s f p w hs hp ((init_again s f ln w hl.file ⟨l, B, hl.sum, hl.row⟩).mono fun _ _ ⟨h1, h2⟩ => ⟨h1, l, B, ln, h2, rfl, rfl, rfl⟩)
    (fun _ _ _ _ ⟨h1, h2, h3, h4⟩ => by subst h1; subst h2; subst h3; subst h4; exact hl)).mono fun _ _ ⟨l', B', ln', k, ⟨h1, h2, h3, h4⟩, h5, h6, h7⟩ => by
      subst h2
      exact ⟨k, h1, h5, h6, h7⟩
end Go.Proofs.YtmkkeacbabmaeaaGreatDoor
