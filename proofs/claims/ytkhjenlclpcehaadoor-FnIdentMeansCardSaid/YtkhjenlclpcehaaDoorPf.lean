/- Escapes, plain: what an escape stands for, and where it ends. No condition. -/
import Derived.Test.YtkhjenlclpcehaaDoorPe
import Derived.Test.YtkhjenlclpcehaaDoorPd
import GoSem.Core.Utf8
namespace Go.Proofs.YtkhjenlclpcehaaDoor
open Go.PlainAid

/-- A number as a byte. -/
def asB (v : Int) : UInt8 := UInt8.ofNat v.toNat
theorem asB_val {v : Int} (h0 : 0 ≤ v) (h1 : v ≤ 255) : ((asB v).toNat : Int) = v := by
  unfold asB
  simp only [UInt8.toNat_ofNat']
  omega
def byteAt (s : ByteArray) (i : Nat) : UInt8 := asB (bt s i)
theorem byteAt_val (s : ByteArray) (i : Nat) : ((byteAt s i).toNat : Int) = bt s i := asB_val (bt_nonneg s i) (bt_le s i)

/-- The letters behind a backslash that stand for one byte, and these bytes. -/
def escF : ByteArray := ⟨#[97, 98, 102, 110, 114, 116, 118, 92, 63, 34, 39, 96]⟩
def escT : ByteArray := ⟨#[7, 8, 12, 10, 13, 9, 11, 92, 63, 34, 39, 96]⟩
def simpFrom (F T : ByteArray) (c : Int) (k : Nat) : Option Int := if k < 12 then (if bt F k = c then some (bt T k) else simpFrom F T c (k + 1)) else none
termination_by 12 - k
decreasing_by omega
theorem simpFrom_hit {F T : ByteArray} {c : Int} {k : Nat} (h : k < 12) (hh : bt F k = c) : simpFrom F T c k = some (bt T k) := by rw [simpFrom, if_pos h, if_pos hh]
theorem simpFrom_go {F T : ByteArray} {c : Int} {k : Nat} (h : k < 12) (hh : ¬ bt F k = c) : simpFrom F T c k = simpFrom F T c (k + 1) := by rw [simpFrom, if_pos h, if_neg hh]
theorem simpFrom_end {F T : ByteArray} {c : Int} {k : Nat} (h : ¬ k < 12) : simpFrom F T c k = none := by rw [simpFrom, if_neg h]
def simpleEsc (c : Int) : Option Int := simpFrom escF escT c 0

/-- n octal (hexadecimal) digits from a place on: their number; none: one of them is no digit. -/
def octVal (s : ByteArray) : Nat → Nat → Int → Option Int
  | 0, _, v => some v
  | n + 1, i, v => if 48 ≤ bt s i ∧ bt s i ≤ 55 then octVal s n (i + 1) (8 * v + (bt s i - 48)) else none
def hexVal (s : ByteArray) : Nat → Nat → Int → Option Int
  | 0, _, v => some v
  | n + 1, i, v => if 0 ≤ hexV (bt s i) then hexVal s n (i + 1) (16 * v + hexV (bt s i)) else none

/-- Bounds on the way. -/
def octBd (m : Nat) (v : Int) : Prop := (m = 3 ∧ v ≤ 0) ∨ (m = 2 ∧ v ≤ 7) ∨ (m = 1 ∧ v ≤ 63) ∨ (m = 0 ∧ v ≤ 511)
theorem octBd_step {m : Nat} {v x : Int} (h : octBd (m + 1) v) (hx : x ≤ 7) : octBd m (8 * v + x) := by unfold octBd at *; omega
theorem octBd_le {m : Nat} {v : Int} (h : octBd (m + 1) v) : v ≤ 63 := by unfold octBd at *; omega
def hexBd (k : Nat) (v : Int) : Prop := v + 1 ≤ 16 ^ k
theorem hexBd_zero : hexBd 0 0 := by unfold hexBd; decide
theorem hexBd_step {k : Nat} {v x : Int} (h : hexBd k v) (hx : x ≤ 15) : hexBd (k + 1) (16 * v + x) := by
  unfold hexBd at *
  rw [Int.pow_succ]
  omega
theorem pow16_le {k n : Nat} (h : k ≤ n) : (16 : Int) ^ k ≤ 16 ^ n := by
  induction n with
  | zero => obtain rfl : k = 0 := by omega
            exact Int.le_refl _
  | succ n ih =>
    by_cases e : k = n + 1
    · subst e; exact Int.le_refl _
    · have := ih (by omega)
      rw [Int.pow_succ]
      have h0 : (0 : Int) ≤ 16 ^ k := Int.pow_nonneg (by decide)
      omega
theorem hexBd_le {k : Nat} {v : Int} (h : hexBd k v) (hk : k ≤ 8) : v ≤ 4294967295 := by
  unfold hexBd at *
  have := pow16_le hk
  have e : (16 : Int) ^ 8 = 4294967296 := by decide
  omega
theorem hexBd_le7 {k : Nat} {v : Int} (h : hexBd k v) (hk : k ≤ 7) : v ≤ 268435455 := by
  unfold hexBd at *
  have := pow16_le hk
  have e : (16 : Int) ^ 7 = 268435456 := by decide
  omega
theorem hexV_le (c : Int) : hexV c ≤ 15 := by unfold hexV; split <;> (try split) <;> (try split) <;> omega

/-- How many digits follow the letter: \x 2, \u 4, \U 8 (not in bytes). -/
def escDigits (c : Int) (bytes : Bool) : Option Nat :=
  if c = 120 ∨ c = 88 then some 2 else if c = 117 ∧ bytes = false then some 4 else if c = 85 ∧ bytes = false then some 8 else none

/-- What a hexadecimal number of d digits stands for: a byte (two digits), or a code point's bytes. -/
def hexPart (d : Nat) (v : Int) : Option (List UInt8) :=
  if d = 2 then some [asB (v % 256)] else if 1114111 < v ∨ (55296 ≤ v ∧ v < 57344) then none else some (Utf8.encode v).data.toList

/-- An escape at a place (of its backslash): its bytes, and where it ends. -/
def escOct (s : ByteArray) (i : Nat) : Option (List UInt8 × Nat) :=
  if i + 4 ≤ s.size then (octVal s 3 (i + 1) 0).map fun v => ([asB (v % 256)], i + 4) else none
def escHex (s : ByteArray) (i d : Nat) : Option (List UInt8 × Nat) :=
  if i + 2 + d ≤ s.size then ((hexVal s d (i + 2) 0).bind (hexPart d)).map fun p => (p, i + 2 + d) else none
def escOf (s : ByteArray) (i : Nat) (bytes : Bool) : Option (List UInt8 × Nat) :=
  if i + 1 < s.size then
    match simpleEsc (bt s (i + 1)) with
    | some u => some ([asB u], i + 2)
    | none =>
      if 48 ≤ bt s (i + 1) ∧ bt s (i + 1) ≤ 51 then escOct s i
      else match escDigits (bt s (i + 1)) bytes with
        | none => none
        | some d => escHex s i d
  else none
theorem escOf_end {s : ByteArray} {i : Nat} {bytes : Bool} (h : ¬ i + 1 < s.size) : escOf s i bytes = none := by rw [escOf, if_neg h]
theorem escOf_simple {s : ByteArray} {i : Nat} {bytes : Bool} {u : Int} (h : i + 1 < s.size) (hu : simpleEsc (bt s (i + 1)) = some u) : escOf s i bytes = some ([asB u], i + 2) := by rw [escOf, if_pos h, hu]
theorem escOf_oct {s : ByteArray} {i : Nat} {bytes : Bool} (h : i + 1 < s.size) (hu : simpleEsc (bt s (i + 1)) = none) (ho : 48 ≤ bt s (i + 1) ∧ bt s (i + 1) ≤ 51) : escOf s i bytes = escOct s i := by rw [escOf, if_pos h, hu]; simp only []; rw [if_pos ho]
theorem escOf_hex {s : ByteArray} {i : Nat} {bytes : Bool} {d : Nat} (h : i + 1 < s.size) (hu : simpleEsc (bt s (i + 1)) = none) (ho : ¬ (48 ≤ bt s (i + 1) ∧ bt s (i + 1) ≤ 51)) (hd : escDigits (bt s (i + 1)) bytes = some d) : escOf s i bytes = escHex s i d := by rw [escOf, if_pos h, hu]; simp only []; rw [if_neg ho, hd]
theorem escOf_no {s : ByteArray} {i : Nat} {bytes : Bool} (h : i + 1 < s.size) (hu : simpleEsc (bt s (i + 1)) = none) (ho : ¬ (48 ≤ bt s (i + 1) ∧ bt s (i + 1) ≤ 51)) (hd : escDigits (bt s (i + 1)) bytes = none) : escOf s i bytes = none := by rw [escOf, if_pos h, hu]; simp only []; rw [if_neg ho, hd]
end Go.Proofs.YtkhjenlclpcehaaDoor
