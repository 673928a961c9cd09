/- Capitals of a text, plain. No condition. -/
import Derived.Test.YtkhjenlclpcehaaDoorPa
namespace Go.Proofs.YtkhjenlclpcehaaDoor
open Go.PlainAid

def upB (c : UInt8) : UInt8 := if 97 ≤ c.toNat ∧ c.toNat ≤ 122 then c - 32 else c
def upperL (l : List UInt8) : List UInt8 := l.map upB
theorem upB_yes {c : UInt8} (h1 : 97 ≤ (c.toNat : Int)) (h2 : (c.toNat : Int) ≤ 122) : ((upB c).toNat : Int) = (c.toNat : Int) - 32 := by
  unfold upB
  rw [if_pos (by omega)]
  have : 32 ≤ c := by rw [UInt8.le_iff_toNat_le]; have : (32 : UInt8).toNat = 32 := rfl; omega
  rw [UInt8.toNat_sub_of_le _ _ this]
  have : (32 : UInt8).toNat = 32 := rfl
  omega
theorem upB_no {c : UInt8} (h : ¬ (97 ≤ (c.toNat : Int) ∧ (c.toNat : Int) ≤ 122)) : upB c = c := by
  unfold upB
  rw [if_neg (by omega)]

/-- The first k letters are capitals, the rest stands. -/
def upTo (l : List UInt8) (k : Nat) : List UInt8 := upperL (l.take k) ++ l.drop k
theorem upTo_zero (l : List UInt8) : upTo l 0 = l := by simp [upTo, upperL]
theorem upTo_all (l : List UInt8) (k : Nat) (h : l.length ≤ k) : upTo l k = upperL l := by simp [upTo, List.take_of_length_le h, List.drop_eq_nil_of_le h]
theorem upTo_length (l : List UInt8) (k : Nat) : (upTo l k).length = l.length := by simp [upTo, upperL]; omega
theorem upTo_get (l : List UInt8) (k : Nat) (h : k < l.length) : (upTo l k)[k]'(by rw [upTo_length]; exact h) = l[k] := by
  simp only [upTo, upperL]
  rw [List.getElem_append_right (by simp; omega)]
  simp [Nat.min_eq_left (Nat.le_of_lt h)]
theorem upTo_succ (l : List UInt8) (k : Nat) (h : k < l.length) : upTo l (k + 1) = (upTo l k).set k (upB l[k]) := by
  simp only [upTo, upperL]
  rw [List.take_succ_eq_append_getElem h, List.map_append, List.set_append, if_neg (by simp; omega)]
  have e : k - (List.map upB (l.take k)).length = 0 := by simp; omega
  rw [e]
  have e2 : l.drop k = l[k] :: l.drop (k + 1) := List.drop_eq_getElem_cons h
  rw [e2, List.set_cons_zero]
  simp
end Go.Proofs.YtkhjenlclpcehaaDoor
