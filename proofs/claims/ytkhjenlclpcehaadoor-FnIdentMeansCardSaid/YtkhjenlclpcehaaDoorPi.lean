/- One token at a place, plain. No condition. -/
import Derived.Test.YtkhjenlclpcehaaDoorPb
import Derived.Test.YtkhjenlclpcehaaDoorPc
import Derived.Test.YtkhjenlclpcehaaDoorPg
import Derived.Test.YtkhjenlclpcehaaDoorPh
namespace Go.Proofs.YtkhjenlclpcehaaDoor
open Go.PlainAid

def kEof : ByteArray := ⟨#[60, 101, 111, 102, 62]⟩
def kIdent : ByteArray := ⟨#[60, 105, 100, 101, 110, 116, 62]⟩
def kParam : ByteArray := ⟨#[60, 112, 97, 114, 97, 109, 62]⟩
def kString : ByteArray := ⟨#[60, 115, 116, 114, 105, 110, 103, 62]⟩
def kBytes : ByteArray := ⟨#[60, 98, 121, 116, 101, 115, 62]⟩
def dottedB (k : ByteArray) : Bool := (k.toList == [60, 105, 100, 101, 110, 116, 62]) || (k.toList == [60, 112, 97, 114, 97, 109, 62]) || (k.toList == [41]) || (k.toList == [93])

/-- A text's capitals. -/
def upperS (s : ByteArray) : ByteArray := ⟨(upperL s.data.toList).toArray⟩

/-- A token: its kind, its text and base (none: as they were), and where it ends. -/
structure TokR where
  kind : ByteArray
  text : Option ByteArray
  base : Option Int
  stop : Nat

def dotNum (s : ByteArray) (i : Nat) (after : Bool) : Prop := bt s i = 46 ∧ after = false ∧ i + 1 < s.size ∧ digitB (bt s (i + 1)) = true
instance (s : ByteArray) (i : Nat) (after : Bool) : Decidable (dotNum s i after) := by unfold dotNum; infer_instance
def atName (s : ByteArray) (i : Nat) : Prop := bt s i = 64 ∧ i + 1 < s.size ∧ letterB (bt s (i + 1)) = true
instance (s : ByteArray) (i : Nat) : Decidable (atName s i) := by unfold atName; infer_instance

def backTok (s : ByteArray) (i : Nat) : Option TokR :=
  match quotOf s i false false with
  | .good v n => if v = [] then none else some ⟨kIdent, some ⟨v.toArray⟩, none, n⟩
  | .bad _ => none
def numTok (s : ByteArray) (i : Nat) : Option TokR := if (numOf s i).ok = true then some ⟨numKind (numOf s i).float, none, some (numOf s i).base, (numOf s i).stop⟩ else none
def quotTok (s : ByteArray) (i : Nat) (raw bytes : Bool) : Option TokR :=
  match quotOf s i raw bytes with
  | .good v n => some ⟨if bytes = true then kBytes else kString, some ⟨v.toArray⟩, none, n⟩
  | .bad _ => none
def wordTok (s : ByteArray) (i : Nat) : TokR :=
  if kwB (upperS (s.extract i (partsEnd s i))) = true then ⟨upperS (s.extract i (partsEnd s i)), none, none, partsEnd s i⟩ else ⟨kIdent, some (s.extract i (partsEnd s i)), none, partsEnd s i⟩
def signTok (s : ByteArray) (i : Nat) : Option TokR := (signOf s i).map fun p => ⟨p.1, none, none, p.2⟩
def tokOf (s : ByteArray) (i : Nat) (path after : Bool) : Option TokR :=
  if i = s.size then some ⟨kEof, none, none, i⟩
  else if path = true ∧ partB (bt s i) = true then some ⟨kIdent, some (s.extract i (partsEnd s i)), none, partsEnd s i⟩
  else if bt s i = 96 then backTok s i
  else if digitB (bt s i) = true ∨ dotNum s i after then numTok s i
  else if atName s i then some ⟨kParam, some (s.extract (i + 1) (partsEnd s (i + 1))), none, partsEnd s (i + 1)⟩
  else match prefOf s i with
  | some p => quotTok s (i + p.1) p.2.1 p.2.2
  | none => if letterB (bt s i) = true then some (wordTok s i) else signTok s i

theorem prefFrom_lt {s : ByteArray} {i : Nat} : ∀ (f : Nat) (raw bytes : Bool) (n : Nat) (p : Nat × Bool × Bool), prefFrom s i f raw bytes n = some p → i + p.1 < s.size
  | 0, _, _, _, _, h => by cases h
  | f + 1, raw, bytes, n, p, h => by
    rw [prefFrom] at h
    split at h
    · rename_i hlt
      split at h
      · cases h; exact hlt
      · split at h
        · exact prefFrom_lt f _ _ _ _ h
        · split at h
          · exact prefFrom_lt f _ _ _ _ h
          · cases h
    · cases h
theorem prefOf_lt {s : ByteArray} {i : Nat} {p : Nat × Bool × Bool} (h : prefOf s i = some p) : i + p.1 < s.size := prefFrom_lt _ _ _ _ _ h
end Go.Proofs.YtkhjenlclpcehaaDoor
