/- Numbers and signs, plain: where a number ends, of which kind and base it is, and whether it is one. No condition. -/
import Derived.Test.YtkhjenlclpcehaaDoorPa
namespace Go.Proofs.YtkhjenlclpcehaaDoor
open Go.PlainAid

def digitsEnd (s : ByteArray) (i : Nat) : Nat := if i < s.size ∧ digitB (bt s i) = true then digitsEnd s (i + 1) else i
termination_by s.size - i
decreasing_by omega
theorem digitsEnd_go {s : ByteArray} {i : Nat} (h : i < s.size) (hb : digitB (bt s i) = true) : digitsEnd s i = digitsEnd s (i + 1) := by rw [digitsEnd, if_pos ⟨h, hb⟩]
theorem digitsEnd_stop {s : ByteArray} {i : Nat} (h : ¬ (i < s.size ∧ digitB (bt s i) = true)) : digitsEnd s i = i := by rw [digitsEnd, if_neg h]
theorem digitsEnd_ge (s : ByteArray) (i : Nat) : i ≤ digitsEnd s i := by
  fun_induction digitsEnd s i <;> omega
theorem digitsEnd_le (s : ByteArray) (i : Nat) (h : i ≤ s.size) : digitsEnd s i ≤ s.size := by
  fun_induction digitsEnd s i <;> omega

def hexEnd (s : ByteArray) (i : Nat) : Nat := if i < s.size ∧ 0 ≤ hexV (bt s i) then hexEnd s (i + 1) else i
termination_by s.size - i
decreasing_by omega
theorem hexEnd_go {s : ByteArray} {i : Nat} (h : i < s.size) (hb : 0 ≤ hexV (bt s i)) : hexEnd s i = hexEnd s (i + 1) := by rw [hexEnd, if_pos ⟨h, hb⟩]
theorem hexEnd_stop {s : ByteArray} {i : Nat} (h : ¬ (i < s.size ∧ 0 ≤ hexV (bt s i))) : hexEnd s i = i := by rw [hexEnd, if_neg h]
theorem hexEnd_ge (s : ByteArray) (i : Nat) : i ≤ hexEnd s i := by
  fun_induction hexEnd s i <;> omega
theorem hexEnd_le (s : ByteArray) (i : Nat) (h : i ≤ s.size) : hexEnd s i ≤ s.size := by
  fun_induction hexEnd s i <;> omega

/-- No letter, digit or underscore follows. -/
def loose (s : ByteArray) (e : Nat) : Bool := !(decide (e < s.size) && partB (bt s e))
theorem loose_end {s : ByteArray} {e : Nat} (h : ¬ e < s.size) : loose s e = true := by simp [loose, h]
theorem loose_in {s : ByteArray} {e : Nat} (h : e < s.size) : loose s e = !partB (bt s e) := by simp [loose, h]

/-- A number: where it ends, whether it is one, whether it is a float, its base. -/
structure NumR where
  stop : Nat
  ok : Bool
  float : Bool
  base : Int

/-- An exponent, or none, behind the digits. -/
def isE (c : Int) : Prop := c = 101 ∨ c = 69
def isPM (c : Int) : Prop := c = 43 ∨ c = 45
instance (c : Int) : Decidable (isE c) := by unfold isE; infer_instance
instance (c : Int) : Decidable (isPM c) := by unfold isPM; infer_instance
def expAt (s : ByteArray) (e : Nat) : Nat := if e + 1 < s.size ∧ isPM (bt s (e + 1)) then e + 2 else e + 1
def expPart (s : ByteArray) (e : Nat) (fl : Bool) (base : Int) : NumR :=
  if e < s.size ∧ isE (bt s e) then
    (if expAt s e < s.size ∧ digitB (bt s (expAt s e)) = true then ⟨digitsEnd s (expAt s e), loose s (digitsEnd s (expAt s e)), true, 0⟩ else ⟨e, false, fl, base⟩)
  else ⟨e, loose s e, fl, base⟩
def isHexAt (s : ByteArray) (i : Nat) : Prop := startsB s i ⟨#[48, 120]⟩ = true ∨ startsB s i ⟨#[48, 88]⟩ = true
instance (s : ByteArray) (i : Nat) : Decidable (isHexAt s i) := by unfold isHexAt; infer_instance
def numOf (s : ByteArray) (i : Nat) : NumR :=
  if isHexAt s i then ⟨hexEnd s (i + 2), loose s (hexEnd s (i + 2)), false, 16⟩
  else if digitsEnd s i < s.size ∧ bt s (digitsEnd s i) = 46 then expPart s (digitsEnd s (digitsEnd s i + 1)) true 0
  else expPart s (digitsEnd s i) false 10

theorem numOf_hex {s : ByteArray} {i : Nat} (h : isHexAt s i) : numOf s i = ⟨hexEnd s (i + 2), loose s (hexEnd s (i + 2)), false, 16⟩ := by rw [numOf, if_pos h]
theorem numOf_dot {s : ByteArray} {i : Nat} (h : ¬ isHexAt s i) (h2 : digitsEnd s i < s.size ∧ bt s (digitsEnd s i) = 46) : numOf s i = expPart s (digitsEnd s (digitsEnd s i + 1)) true 0 := by rw [numOf, if_neg h, if_pos h2]
theorem numOf_plain {s : ByteArray} {i : Nat} (h : ¬ isHexAt s i) (h2 : ¬ (digitsEnd s i < s.size ∧ bt s (digitsEnd s i) = 46)) : numOf s i = expPart s (digitsEnd s i) false 10 := by rw [numOf, if_neg h, if_neg h2]
theorem expPart_none {s : ByteArray} {e : Nat} {fl : Bool} {base : Int} (h : ¬ (e < s.size ∧ isE (bt s e))) : expPart s e fl base = ⟨e, loose s e, fl, base⟩ := by rw [expPart, if_neg h]
theorem expPart_bad {s : ByteArray} {e : Nat} {fl : Bool} {base : Int} (h : e < s.size ∧ isE (bt s e)) (h2 : ¬ (expAt s e < s.size ∧ digitB (bt s (expAt s e)) = true)) : expPart s e fl base = ⟨e, false, fl, base⟩ := by rw [expPart, if_pos h, if_neg h2]
theorem expPart_good {s : ByteArray} {e : Nat} {fl : Bool} {base : Int} (h : e < s.size ∧ isE (bt s e)) (h2 : expAt s e < s.size ∧ digitB (bt s (expAt s e)) = true) : expPart s e fl base = ⟨digitsEnd s (expAt s e), loose s (digitsEnd s (expAt s e)), true, 0⟩ := by rw [expPart, if_pos h, if_pos h2]

def dotAt (s : ByteArray) (e : Nat) : Bool := decide (e < s.size ∧ bt s e = 46)
def eAt (s : ByteArray) (e : Nat) : Bool := decide (e < s.size ∧ isE (bt s e))
def pmAt (s : ByteArray) (e : Nat) : Bool := decide (e < s.size ∧ isPM (bt s e))
def digAt (s : ByteArray) (e : Nat) : Bool := decide (e < s.size ∧ digitB (bt s e) = true)
theorem dotAt_yes {s : ByteArray} {e : Nat} (h : dotAt s e = true) : e < s.size ∧ bt s e = 46 := by simpa [dotAt] using h
theorem dotAt_no {s : ByteArray} {e : Nat} (h : dotAt s e = false) : ¬ (e < s.size ∧ bt s e = 46) := by simpa [dotAt] using h
theorem eAt_yes {s : ByteArray} {e : Nat} (h : eAt s e = true) : e < s.size ∧ isE (bt s e) := by simpa [eAt] using h
theorem eAt_no {s : ByteArray} {e : Nat} (h : eAt s e = false) : ¬ (e < s.size ∧ isE (bt s e)) := by simpa [eAt] using h
theorem digAt_yes {s : ByteArray} {e : Nat} (h : digAt s e = true) : e < s.size ∧ digitB (bt s e) = true := by simpa [digAt] using h
theorem digAt_no {s : ByteArray} {e : Nat} (h : digAt s e = false) : ¬ (e < s.size ∧ digitB (bt s e) = true) := by
  intro k; rw [digAt, decide_eq_true k] at h; cases h
theorem expAt_pm {s : ByteArray} {e : Nat} (h : pmAt s (e + 1) = true) : expAt s e = e + 2 := by rw [expAt, if_pos (by simpa [pmAt] using h)]
theorem expAt_no {s : ByteArray} {e : Nat} (h : pmAt s (e + 1) = false) : expAt s e = e + 1 := by
  rw [expAt, if_neg]
  intro k; rw [pmAt, decide_eq_true k] at h; cases h
theorem pmAt_lt {s : ByteArray} {e : Nat} (h : pmAt s e = true) : e < s.size := by
  have : e < s.size ∧ isPM (bt s e) := by simpa [pmAt] using h
  exact this.1

def kInt : ByteArray := ⟨#[60, 105, 110, 116, 62]⟩
def kFloat : ByteArray := ⟨#[60, 102, 108, 111, 97, 116, 62]⟩
def numKind (fl : Bool) : ByteArray := if fl = true then kFloat else kInt
end Go.Proofs.YtkhjenlclpcehaaDoor
