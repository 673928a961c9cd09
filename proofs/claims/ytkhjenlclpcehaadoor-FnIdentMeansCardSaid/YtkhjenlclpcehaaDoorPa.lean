/- Plain words about bytes and places in a text: digits, letters, blanks, hexadecimal digits, 'a part stands at a place'; no program in sight. No condition. -/
import Derived.PlainAid
namespace Go.Proofs.YtkhjenlclpcehaaDoor
open Go.PlainAid

def digitB (c : Int) : Bool := decide (48 ≤ c) && decide (c ≤ 57)
def letterB (c : Int) : Bool := (decide (97 ≤ c) && decide (c ≤ 122)) || (decide (65 ≤ c) && decide (c ≤ 90)) || decide (c = 95)
def partB (c : Int) : Bool := digitB c || letterB c
def blankB (c : Int) : Bool := decide (c = 32) || decide (c = 9) || decide (c = 10) || decide (c = 13)
def hexV (c : Int) : Int := if 48 ≤ c ∧ c ≤ 57 then c - 48 else if 97 ≤ c ∧ c ≤ 102 then c - 87 else if 65 ≤ c ∧ c ≤ 70 then c - 55 else -1

theorem digitB_iff (c : Int) : digitB c = true ↔ 48 ≤ c ∧ c ≤ 57 := by simp [digitB]
theorem letterB_iff (c : Int) : letterB c = true ↔ (97 ≤ c ∧ c ≤ 122) ∨ (65 ≤ c ∧ c ≤ 90) ∨ c = 95 := by simp [letterB, or_assoc]
theorem partB_iff (c : Int) : partB c = true ↔ (48 ≤ c ∧ c ≤ 57) ∨ (97 ≤ c ∧ c ≤ 122) ∨ (65 ≤ c ∧ c ≤ 90) ∨ c = 95 := by simp [partB, digitB_iff, letterB_iff]
theorem blankB_iff (c : Int) : blankB c = true ↔ c = 32 ∨ c = 9 ∨ c = 10 ∨ c = 13 := by simp [blankB, or_assoc]

/-- Two Bools that are true together are one. -/
theorem bool_ext {a b : Bool} (h : a = true ↔ b = true) : a = b := Bool.eq_iff_iff.2 h
theorem bool_false {b : Bool} {p : Prop} (h : b = true ↔ p) (hp : ¬ p) : b = false := by cases b with
  | false => rfl
  | true => exact absurd (h.1 rfl) hp

/-- A part stands at a place of a text. -/
def startsB (s : ByteArray) (at_ : Nat) (p : ByteArray) : Bool := decide (at_ + p.size ≤ s.size) && ((s.extract at_ (at_ + p.size)).toList == p.toList)

/-- Where the blanks from a place on end. -/
def blanksEnd (s : ByteArray) (i : Nat) : Nat := if i < s.size ∧ blankB (bt s i) = true then blanksEnd s (i + 1) else i
termination_by s.size - i
decreasing_by omega

theorem blanksEnd_go {s : ByteArray} {i : Nat} (h : i < s.size) (hb : blankB (bt s i) = true) : blanksEnd s i = blanksEnd s (i + 1) := by rw [blanksEnd, if_pos ⟨h, hb⟩]
theorem blanksEnd_stop {s : ByteArray} {i : Nat} (h : ¬ (i < s.size ∧ blankB (bt s i) = true)) : blanksEnd s i = i := by rw [blanksEnd, if_neg h]

/-- Where the line from a place on ends: at its line feed, or with the text. -/
def lineEnd (s : ByteArray) (i : Nat) : Nat := if i < s.size ∧ bt s i ≠ 10 then lineEnd s (i + 1) else i
termination_by s.size - i
decreasing_by omega

/-- Where the letters, digits and underscores from a place on end. -/
def partsEnd (s : ByteArray) (i : Nat) : Nat := if i < s.size ∧ partB (bt s i) = true then partsEnd s (i + 1) else i
termination_by s.size - i
decreasing_by omega

theorem lineEnd_go {s : ByteArray} {i : Nat} (h : i < s.size) (hb : bt s i ≠ 10) : lineEnd s i = lineEnd s (i + 1) := by rw [lineEnd, if_pos ⟨h, hb⟩]
theorem lineEnd_stop {s : ByteArray} {i : Nat} (h : ¬ (i < s.size ∧ bt s i ≠ 10)) : lineEnd s i = i := by rw [lineEnd, if_neg h]
theorem partsEnd_go {s : ByteArray} {i : Nat} (h : i < s.size) (hb : partB (bt s i) = true) : partsEnd s i = partsEnd s (i + 1) := by rw [partsEnd, if_pos ⟨h, hb⟩]
theorem partsEnd_stop {s : ByteArray} {i : Nat} (h : ¬ (i < s.size ∧ partB (bt s i) = true)) : partsEnd s i = i := by rw [partsEnd, if_neg h]

/-- Where the first '*/' from a place on ends; none: the comment is not closed. -/
def starEnd (s : ByteArray) (i : Nat) : Option Nat := if i < s.size then (if startsB s i ⟨#[42, 47]⟩ = true then some (i + 2) else starEnd s (i + 1)) else none
termination_by s.size - i
decreasing_by omega

theorem starEnd_hit {s : ByteArray} {i : Nat} (h : i < s.size) (hb : startsB s i ⟨#[42, 47]⟩ = true) : starEnd s i = some (i + 2) := by rw [starEnd, if_pos h, if_pos hb]
theorem starEnd_go {s : ByteArray} {i : Nat} (h : i < s.size) (hb : startsB s i ⟨#[42, 47]⟩ = false) : starEnd s i = starEnd s (i + 1) := by rw [starEnd, if_pos h, if_neg (by simp [hb])]
theorem starEnd_end {s : ByteArray} {i : Nat} (h : ¬ i < s.size) : starEnd s i = none := by rw [starEnd, if_neg h]

/-- Where the comment at a place ends: the place itself, if there is none; none, if it is not closed. -/
def commentEnd (s : ByteArray) (i : Nat) : Option Nat :=
  if startsB s i ⟨#[35]⟩ = true ∨ startsB s i ⟨#[45, 45]⟩ = true then some (min (lineEnd s i + 1) s.size)
  else if startsB s i ⟨#[47, 42]⟩ = true then starEnd s (i + 2) else some i

/-- An end as the reference gives it: -1 for none. -/
def endInt : Option Nat → Int
  | some n => n
  | none => -1

theorem blanksEnd_ge (s : ByteArray) (i : Nat) : i ≤ blanksEnd s i := by
  fun_induction blanksEnd s i <;> omega
theorem blanksEnd_le (s : ByteArray) (i : Nat) (h : i ≤ s.size) : blanksEnd s i ≤ s.size := by
  fun_induction blanksEnd s i <;> omega
theorem lineEnd_ge (s : ByteArray) (i : Nat) : i ≤ lineEnd s i := by
  fun_induction lineEnd s i <;> omega
theorem lineEnd_le (s : ByteArray) (i : Nat) (h : i ≤ s.size) : lineEnd s i ≤ s.size := by
  fun_induction lineEnd s i <;> omega
theorem partsEnd_ge (s : ByteArray) (i : Nat) : i ≤ partsEnd s i := by
  fun_induction partsEnd s i <;> omega
theorem partsEnd_le (s : ByteArray) (i : Nat) (h : i ≤ s.size) : partsEnd s i ≤ s.size := by
  fun_induction partsEnd s i <;> omega

end Go.Proofs.YtkhjenlclpcehaaDoor
