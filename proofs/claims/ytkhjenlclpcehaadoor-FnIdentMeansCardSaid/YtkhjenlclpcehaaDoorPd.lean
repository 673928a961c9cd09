/- What stands ahead of a quotation mark, plain: how many letters, whether raw, whether bytes. No condition. -/
import Derived.Test.YtkhjenlclpcehaaDoorPa
namespace Go.Proofs.YtkhjenlclpcehaaDoor
open Go.PlainAid

/-- What one byte says: a quotation mark, an r, a b, or something else. -/
def prefFrom (s : ByteArray) (at_ : Nat) : Nat → Bool → Bool → Nat → Option (Nat × Bool × Bool)
  | 0, _, _, _ => none
  | f + 1, raw, bytes, n =>
    if at_ + n < s.size then
      if bt s (at_ + n) = 34 ∨ bt s (at_ + n) = 39 then some (n, raw, bytes)
      else if (bt s (at_ + n) = 114 ∨ bt s (at_ + n) = 82) ∧ raw = false then prefFrom s at_ f true bytes (n + 1)
      else if (bt s (at_ + n) = 98 ∨ bt s (at_ + n) = 66) ∧ bytes = false then prefFrom s at_ f raw true (n + 1)
      else none
    else none
def prefOf (s : ByteArray) (at_ : Nat) : Option (Nat × Bool × Bool) := prefFrom s at_ 3 false false 0
def prefNum : Option (Nat × Bool × Bool) → Int
  | some p => p.1
  | none => -1
def prefRaw : Option (Nat × Bool × Bool) → Bool
  | some p => p.2.1
  | none => false
def prefBytes : Option (Nat × Bool × Bool) → Bool
  | some p => p.2.2
  | none => false
/-- As the reference gives it. -/
def prefVal (o : Option (Nat × Bool × Bool)) : Value := .tuple #[.int .i64 (prefNum o), .bool (prefRaw o), .bool (prefBytes o)]

theorem prefFrom_end {s : ByteArray} {at_ f n : Nat} {raw bytes : Bool} (h : ¬ at_ + n < s.size) : prefFrom s at_ f raw bytes n = none := by
  cases f with
  | zero => rfl
  | succ f => rw [prefFrom, if_neg h]
theorem prefFrom_quote {s : ByteArray} {at_ f n : Nat} {raw bytes : Bool} (h : at_ + n < s.size) (hq : bt s (at_ + n) = 34 ∨ bt s (at_ + n) = 39) : prefFrom s at_ (f + 1) raw bytes n = some (n, raw, bytes) := by rw [prefFrom, if_pos h, if_pos hq]
theorem prefFrom_raw {s : ByteArray} {at_ f n : Nat} {bytes : Bool} (h : at_ + n < s.size) (hr : bt s (at_ + n) = 114 ∨ bt s (at_ + n) = 82) : prefFrom s at_ (f + 1) false bytes n = prefFrom s at_ f true bytes (n + 1) := by
  rw [prefFrom, if_pos h, if_neg (by omega), if_pos ⟨hr, rfl⟩]
theorem prefFrom_bytes {s : ByteArray} {at_ f n : Nat} {raw : Bool} (h : at_ + n < s.size) (hr : bt s (at_ + n) = 98 ∨ bt s (at_ + n) = 66) : prefFrom s at_ (f + 1) raw false n = prefFrom s at_ f raw true (n + 1) := by
  rw [prefFrom, if_pos h, if_neg (by omega), if_neg (by omega), if_pos ⟨hr, rfl⟩]
theorem prefFrom_none {s : ByteArray} {at_ f n : Nat} {raw bytes : Bool} (h : at_ + n < s.size) (h1 : ¬ (bt s (at_ + n) = 34 ∨ bt s (at_ + n) = 39)) (h2 : ¬ ((bt s (at_ + n) = 114 ∨ bt s (at_ + n) = 82) ∧ raw = false)) (h3 : ¬ ((bt s (at_ + n) = 98 ∨ bt s (at_ + n) = 66) ∧ bytes = false)) : prefFrom s at_ (f + 1) raw bytes n = none := by
  rw [prefFrom, if_pos h, if_neg h1, if_neg h2, if_neg h3]
end Go.Proofs.YtkhjenlclpcehaaDoor
