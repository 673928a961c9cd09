/- Signs, plain. No condition. -/
import Derived.Test.YtkhjenlclpcehaaDoorPa
namespace Go.Proofs.YtkhjenlclpcehaaDoor
open Go.PlainAid

def symText : ByteArray := ⟨#[60, 60, 62, 62, 60, 61, 62, 61, 60, 62, 33, 61, 124, 124, 61, 62, 45, 62, 124, 62, 64, 64]⟩
def sigText : ByteArray := ⟨#[40, 41, 91, 93, 123, 125, 44, 59, 58, 46, 64, 61, 60, 62, 43, 45, 42, 47, 38, 94, 37, 124, 126, 36, 63, 92]⟩
theorem symText_size : symText.size = 22 := rfl
theorem sigText_size : sigText.size = 26 := rfl
def symFrom (K s : ByteArray) (i k : Nat) : Option (ByteArray × Nat) := if k < 22 then (if startsB s i (K.extract k (k + 2)) = true then some (K.extract k (k + 2), i + 2) else symFrom K s i (k + 2)) else none
termination_by 22 - k
decreasing_by omega
def sigFrom (K s : ByteArray) (i k : Nat) : Option (ByteArray × Nat) := if k < 26 then (if bt K k = bt s i then some (K.extract k (k + 1), i + 1) else sigFrom K s i (k + 1)) else none
termination_by 26 - k
decreasing_by omega
theorem symFrom_hit {K s : ByteArray} {i k : Nat} (h : k < 22) (hh : startsB s i (K.extract k (k + 2)) = true) : symFrom K s i k = some (K.extract k (k + 2), i + 2) := by rw [symFrom, if_pos h, if_pos hh]
theorem symFrom_go {K s : ByteArray} {i k : Nat} (h : k < 22) (hh : startsB s i (K.extract k (k + 2)) = false) : symFrom K s i k = symFrom K s i (k + 2) := by rw [symFrom, if_pos h, if_neg (by simp [hh])]
theorem symFrom_end {K s : ByteArray} {i k : Nat} (h : ¬ k < 22) : symFrom K s i k = none := by rw [symFrom, if_neg h]
theorem sigFrom_hit {K s : ByteArray} {i k : Nat} (h : k < 26) (hh : bt K k = bt s i) : sigFrom K s i k = some (K.extract k (k + 1), i + 1) := by rw [sigFrom, if_pos h, if_pos hh]
theorem sigFrom_go {K s : ByteArray} {i k : Nat} (h : k < 26) (hh : ¬ bt K k = bt s i) : sigFrom K s i k = sigFrom K s i (k + 1) := by rw [sigFrom, if_pos h, if_neg hh]
theorem sigFrom_end {K s : ByteArray} {i k : Nat} (h : ¬ k < 26) : sigFrom K s i k = none := by rw [sigFrom, if_neg h]
/-- A sign at a place, and where it ends. -/
def signOf (s : ByteArray) (i : Nat) : Option (ByteArray × Nat) :=
  match symFrom symText s i 0 with
  | some p => some p
  | none => sigFrom sigText s i 0
theorem signOf_sym {s : ByteArray} {i : Nat} {p : ByteArray × Nat} (h : symFrom symText s i 0 = some p) : signOf s i = some p := by rw [signOf, h]
theorem signOf_sig {s : ByteArray} {i : Nat} (h : symFrom symText s i 0 = none) : signOf s i = sigFrom sigText s i 0 := by rw [signOf, h]
end Go.Proofs.YtkhjenlclpcehaaDoor
