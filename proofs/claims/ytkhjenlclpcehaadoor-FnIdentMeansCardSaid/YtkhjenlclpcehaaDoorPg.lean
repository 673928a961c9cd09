/- What stands between quotation marks, plain: its value, and where it ends. No condition. -/
import Derived.Test.YtkhjenlclpcehaaDoorPf
namespace Go.Proofs.YtkhjenlclpcehaaDoor
open Go.PlainAid

/-- The quotation mark at a place: one byte, or (no backquote) three of them. -/
def markOf (s : ByteArray) (i : Nat) : ByteArray :=
  if (s.extract i (i + 1)).toList ≠ [96] ∧ startsB s i (s.extract i (i + 1) ++ s.extract i (i + 1) ++ s.extract i (i + 1)) = true then s.extract i (i + 1) ++ s.extract i (i + 1) ++ s.extract i (i + 1) else s.extract i (i + 1)

/-- What stands between the marks q from a place on: the value, and where the mark ends; or where the fault is. -/
inductive QRes where
  | good (v : List UInt8) (stop : Nat)
  | bad (at_ : Nat)

def isNL (c : Int) : Prop := c = 10 ∨ c = 13
instance (c : Int) : Decidable (isNL c) := by unfold isNL; infer_instance

theorem escOf_gt {s : ByteArray} {i : Nat} {bytes : Bool} {p : List UInt8 × Nat} (h : escOf s i bytes = some p) : i + 2 ≤ p.2 ∧ p.2 ≤ s.size := by
  unfold escOf at h
  split at h
  · rename_i hlt
    split at h
    · cases h; exact ⟨Nat.le_refl _, by show i + 2 ≤ s.size; omega⟩
    · split at h
      · unfold escOct at h
        split at h
        · cases ho : octVal s 3 (i + 1) 0 with
          | none => rw [ho] at h; cases h
          | some v => rw [ho] at h; cases h; exact ⟨by show i + 2 ≤ i + 4; omega, by assumption⟩
        · cases h
      · split at h
        · cases h
        · unfold escHex at h
          split at h
          · rename_i d _ _
            cases ho : (hexVal s d (i + 2) 0).bind (hexPart d) with
            | none => rw [ho] at h; cases h
            | some v => rw [ho] at h; cases h; exact ⟨by show i + 2 ≤ i + 2 + d; omega, by assumption⟩
          · cases h
  · cases h

/-- The bytes an escape stands for: at most four. -/
theorem encode_le (v : Int) : (Utf8.encode v).size ≤ 4 := by
  unfold Utf8.encode
  simp only []
  generalize (if Utf8.valid v = true then v.toNat else Utf8.runeError) = c
  split
  · show 1 ≤ 4; omega
  · split
    · show 2 ≤ 4; omega
    · split
      · show 3 ≤ 4; omega
      · show 4 ≤ 4; omega
theorem hexPart_le {d : Nat} {v : Int} {l : List UInt8} (h : hexPart d v = some l) : l.length ≤ 4 := by
  unfold hexPart at h
  split at h
  · cases h; show 1 ≤ 4; omega
  · split at h
    · cases h
    · cases h
      have := encode_le v
      simpa using this
theorem escOf_le {s : ByteArray} {i : Nat} {bytes : Bool} {p : List UInt8 × Nat} (h : escOf s i bytes = some p) : p.1.length ≤ 4 := by
  unfold escOf at h
  split at h
  · split at h
    · cases h; show 1 ≤ 4; omega
    · split at h
      · unfold escOct at h
        split at h
        · cases ho : octVal s 3 (i + 1) 0 with
          | none => rw [ho] at h; cases h
          | some v => rw [ho] at h; cases h; show 1 ≤ 4; omega
        · cases h
      · split at h
        · cases h
        · unfold escHex at h
          split at h
          · rename_i d _ _
            cases ho : (hexVal s d (i + 2) 0).bind (hexPart d) with
            | none => rw [ho] at h; cases h
            | some v =>
              rw [ho] at h; cases h
              cases h1 : hexVal s d (i + 2) 0 with
              | none => rw [h1] at ho; cases ho
              | some u => rw [h1] at ho; exact hexPart_le (v := u) ho
          · cases h
  · cases h

/-- From place i on, with what has been read so far. (f: rounds enough.) -/
def quotFrom (s q : ByteArray) (raw bytes : Bool) : Nat → Nat → List UInt8 → QRes
  | 0, _, _ => .bad s.size
  | f + 1, i, v =>
    if i < s.size then
      if startsB s i q = true then .good v (i + q.size)
      else if isNL (bt s i) ∧ q.size = 1 then .bad i
      else if bt s i = 92 ∧ raw = true then
        (if i + 1 = s.size ∨ (bt s (i + 1) = 10 ∧ q.size = 1) then .bad i else quotFrom s q raw bytes f (i + 2) (v ++ [byteAt s i, byteAt s (i + 1)]))
      else if bt s i = 92 then
        (match escOf s i bytes with
        | none => .bad i
        | some p => quotFrom s q raw bytes f p.2 (v ++ p.1))
      else quotFrom s q raw bytes f (i + 1) (v ++ [byteAt s i])
    else .bad s.size
def quotOf (s : ByteArray) (i : Nat) (raw bytes : Bool) : QRes := quotFrom s (markOf s i) raw bytes s.size (i + (markOf s i).size) []

section
variable {s q : ByteArray} {raw bytes : Bool} {f i : Nat} {v : List UInt8}
theorem quotFrom_end (h : ¬ i < s.size) : quotFrom s q raw bytes f i v = .bad s.size := by
  cases f with
  | zero => rfl
  | succ f => rw [quotFrom, if_neg h]
theorem quotFrom_stop (h : i < s.size) (hq : startsB s i q = true) : quotFrom s q raw bytes (f + 1) i v = .good v (i + q.size) := by rw [quotFrom, if_pos h, if_pos hq]
theorem quotFrom_nl (h : i < s.size) (hq : startsB s i q = false) (hn : isNL (bt s i) ∧ q.size = 1) : quotFrom s q raw bytes (f + 1) i v = .bad i := by rw [quotFrom, if_pos h, if_neg (by simp [hq]), if_pos hn]
theorem quotFrom_rawbad (h : i < s.size) (hq : startsB s i q = false) (hn : ¬ (isNL (bt s i) ∧ q.size = 1)) (hb : bt s i = 92) (hx : i + 1 = s.size ∨ (bt s (i + 1) = 10 ∧ q.size = 1)) : quotFrom s q true bytes (f + 1) i v = .bad i := by
  rw [quotFrom, if_pos h, if_neg (by simp [hq]), if_neg hn, if_pos ⟨hb, rfl⟩, if_pos hx]
theorem quotFrom_raw (h : i < s.size) (hq : startsB s i q = false) (hn : ¬ (isNL (bt s i) ∧ q.size = 1)) (hb : bt s i = 92) (hx : ¬ (i + 1 = s.size ∨ (bt s (i + 1) = 10 ∧ q.size = 1))) : quotFrom s q true bytes (f + 1) i v = quotFrom s q true bytes f (i + 2) (v ++ [byteAt s i, byteAt s (i + 1)]) := by
  rw [quotFrom, if_pos h, if_neg (by simp [hq]), if_neg hn, if_pos ⟨hb, rfl⟩, if_neg hx]
theorem quotFrom_escbad (h : i < s.size) (hq : startsB s i q = false) (hn : ¬ (isNL (bt s i) ∧ q.size = 1)) (hb : bt s i = 92) (he : escOf s i bytes = none) : quotFrom s q false bytes (f + 1) i v = .bad i := by
  rw [quotFrom, if_pos h, if_neg (by simp [hq]), if_neg hn, if_neg (by simp), if_pos hb, he]
theorem quotFrom_esc {p : List UInt8 × Nat} (h : i < s.size) (hq : startsB s i q = false) (hn : ¬ (isNL (bt s i) ∧ q.size = 1)) (hb : bt s i = 92) (he : escOf s i bytes = some p) : quotFrom s q false bytes (f + 1) i v = quotFrom s q false bytes f p.2 (v ++ p.1) := by
  rw [quotFrom, if_pos h, if_neg (by simp [hq]), if_neg hn, if_neg (by simp), if_pos hb, he]
theorem quotFrom_plain (h : i < s.size) (hq : startsB s i q = false) (hn : ¬ (isNL (bt s i) ∧ q.size = 1)) (hb : ¬ bt s i = 92) : quotFrom s q raw bytes (f + 1) i v = quotFrom s q raw bytes f (i + 1) (v ++ [byteAt s i]) := by
  rw [quotFrom, if_pos h, if_neg (by simp [hq]), if_neg hn, if_neg (fun k => hb k.1), if_neg hb]
end
end Go.Proofs.YtkhjenlclpcehaaDoor
