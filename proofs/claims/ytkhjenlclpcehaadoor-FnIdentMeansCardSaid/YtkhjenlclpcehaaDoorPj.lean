/- The tokens of a text, plain. No condition. -/
import Derived.Test.YtkhjenlclpcehaaDoorPi
namespace Go.Proofs.YtkhjenlclpcehaaDoor
open Go.PlainAid

/-- A comment; a token with the comments ahead of it. -/
structure CmtD where
  space : ByteArray
  raw : ByteArray
  pos : Nat
  stop : Nat
structure TokD where
  kind : ByteArray
  space : ByteArray
  raw : ByteArray
  text : ByteArray
  base : Int
  pos : Nat
  stop : Nat
  comments : List CmtD

/-- The blanks and comments from a place on: the comments, where the last blanks begin, where they end. -/
def gapFrom (s : ByteArray) : Nat → Nat → List CmtD → Option (List CmtD × Nat × Nat)
  | 0, _, _ => none
  | f + 1, i, cs =>
    match commentEnd s (blanksEnd s i) with
    | none => none
    | some e => if e = blanksEnd s i then some (cs, i, e) else gapFrom s f e (cs ++ [⟨s.extract i (blanksEnd s i), s.extract (blanksEnd s i) e, blanksEnd s i, e⟩])
theorem gapFrom_none {s : ByteArray} {f i : Nat} {cs : List CmtD} (h : commentEnd s (blanksEnd s i) = none) : gapFrom s (f + 1) i cs = none := by rw [gapFrom, h]
theorem gapFrom_done {s : ByteArray} {f i : Nat} {cs : List CmtD} (h : commentEnd s (blanksEnd s i) = some (blanksEnd s i)) : gapFrom s (f + 1) i cs = some (cs, i, blanksEnd s i) := by rw [gapFrom, h]; simp
theorem gapFrom_go {s : ByteArray} {f i e : Nat} {cs : List CmtD} (h : commentEnd s (blanksEnd s i) = some e) (hne : ¬ e = blanksEnd s i) : gapFrom s (f + 1) i cs = gapFrom s f e (cs ++ [⟨s.extract i (blanksEnd s i), s.extract (blanksEnd s i) e, blanksEnd s i, e⟩]) := by rw [gapFrom, h]; simp only []; rw [if_neg hne]

def eofB (k : ByteArray) : Bool := k.toList == [60, 101, 111, 102, 62]
def lastKind (ts : List TokD) : ByteArray := (ts.getLast?.map fun t => t.kind).getD ⟨#[]⟩
def kindAt (ts : List TokD) (j : Nat) : ByteArray := (ts[j]?.map fun t => t.kind).getD ⟨#[]⟩
def pathB (ts : List TokD) : Bool := (lastKind ts).toList == [46] && decide (1 < ts.length) && dottedB (kindAt ts (ts.length - 2))
def afterB (ts : List TokD) : Bool := dottedB (lastKind ts)
def mkTok (s : ByteArray) (g : List CmtD × Nat × Nat) (r : TokR) : TokD := ⟨r.kind, s.extract g.2.1 g.2.2, s.extract g.2.2 r.stop, r.text.getD ⟨#[]⟩, r.base.getD 0, g.2.2, r.stop, g.1⟩

/-- The tokens from a place on, behind those read so far; none: a fault. -/
def lexFrom (s : ByteArray) : Nat → Nat → List TokD → Option (List TokD)
  | 0, _, _ => none
  | f + 1, i, ts =>
    match gapFrom s (s.size + 1) i [] with
    | none => none
    | some g =>
      match tokOf s g.2.2 (pathB ts) (afterB ts) with
      | none => none
      | some r => if eofB r.kind = true then some (ts ++ [mkTok s g r]) else lexFrom s f r.stop (ts ++ [mkTok s g r])
def specLex (s : ByteArray) : Option (List TokD) := lexFrom s (s.size + 2) 0 []
section
variable {s : ByteArray} {f i : Nat} {ts : List TokD}
theorem lexFrom_gap (h : gapFrom s (s.size + 1) i [] = none) : lexFrom s (f + 1) i ts = none := by rw [lexFrom, h]
theorem lexFrom_tok {g : List CmtD × Nat × Nat} (h : gapFrom s (s.size + 1) i [] = some g) (ht : tokOf s g.2.2 (pathB ts) (afterB ts) = none) : lexFrom s (f + 1) i ts = none := by rw [lexFrom, h]; simp only []; rw [ht]
theorem lexFrom_eof {g : List CmtD × Nat × Nat} {r : TokR} (h : gapFrom s (s.size + 1) i [] = some g) (ht : tokOf s g.2.2 (pathB ts) (afterB ts) = some r) (he : eofB r.kind = true) : lexFrom s (f + 1) i ts = some (ts ++ [mkTok s g r]) := by rw [lexFrom, h]; simp only []; rw [ht]; simp only []; rw [if_pos he]
theorem lexFrom_go {g : List CmtD × Nat × Nat} {r : TokR} (h : gapFrom s (s.size + 1) i [] = some g) (ht : tokOf s g.2.2 (pathB ts) (afterB ts) = some r) (he : eofB r.kind = false) : lexFrom s (f + 1) i ts = lexFrom s f r.stop (ts ++ [mkTok s g r]) := by rw [lexFrom, h]; simp only []; rw [ht]; simp only []; rw [if_neg (by simp [he])]
end

/-! Where a comment, a token ends. -/
theorem starEnd_le (s : ByteArray) (i e : Nat) : starEnd s i = some e → i + 2 ≤ e ∧ e ≤ s.size := by
  fun_induction starEnd s i with
  | case1 i h hb =>
    intro he
    cases he
    unfold startsB at hb
    simp at hb
    have : (ByteArray.mk #[42, 47]).size = 2 := rfl
    omega
  | case2 i h hb ih =>
    intro he
    have := ih he
    omega
  | case3 i h => intro he; cases he
theorem startsB_le {s p : ByteArray} {i : Nat} (h : startsB s i p = true) : i + p.size ≤ s.size := by
  unfold startsB at h; simp at h; exact h.1
theorem commentEnd_le {s : ByteArray} {i e : Nat} (hi : i ≤ s.size) (h : commentEnd s i = some e) : i ≤ e ∧ e ≤ s.size := by
  unfold commentEnd at h
  have h1 := lineEnd_ge s i
  have h2 := lineEnd_le s i hi
  split at h
  · cases h; omega
  · split at h
    · have := starEnd_le s _ _ h
      omega
    · cases h; omega
theorem quotFrom_gt {s q : ByteArray} {raw bytes : Bool} : ∀ (f i : Nat) (v : List UInt8) (l : List UInt8) (n : Nat), quotFrom s q raw bytes f i v = .good l n → i + q.size ≤ n ∧ n ≤ s.size
  | 0, _, _, _, _, h => by cases h
  | f + 1, i, v, l, n, h => by
    rw [quotFrom] at h
    split at h
    · split at h
      · rename_i hq
        have := startsB_le hq
        cases h; omega
      · split at h
        · cases h
        · split at h
          · split at h
            · cases h
            · have := quotFrom_gt f _ _ _ _ h
              omega
          · split at h
            · split at h
              · cases h
              · rename_i p hp
                have := quotFrom_gt f _ _ _ _ h
                have := escOf_gt hp
                omega
            · have := quotFrom_gt f _ _ _ _ h
              omega
    · cases h
theorem markOf_pos (s : ByteArray) (i : Nat) (h : i < s.size) : 1 ≤ (markOf s i).size := by
  have : (s.extract i (i + 1)).size = 1 := by rw [ByteArray.size_extract]; omega
  unfold markOf
  split
  · simp only [ByteArray.size_append]; omega
  · omega
theorem quotOf_gt {s : ByteArray} {i n : Nat} {raw bytes : Bool} {l : List UInt8} (hi : i < s.size) (h : quotOf s i raw bytes = .good l n) : i < n ∧ n ≤ s.size := by
  have h1 := quotFrom_gt _ _ _ _ _ h
  have h2 := markOf_pos s i hi
  omega
theorem expAt_ge (s : ByteArray) (e : Nat) : e + 1 ≤ expAt s e := by unfold expAt; split <;> omega
theorem expPart_ge {s : ByteArray} {e : Nat} {fl : Bool} {b : Int} (h : e ≤ s.size) : e ≤ (expPart s e fl b).stop ∧ (expPart s e fl b).stop ≤ s.size := by
  unfold expPart
  have h3 := expAt_ge s e
  have h1 := digitsEnd_ge s (expAt s e)
  split
  · split
    · rename_i hx
      have h2 := digitsEnd_le s (expAt s e) (Nat.le_of_lt hx.1)
      exact ⟨by show e ≤ digitsEnd s (expAt s e); omega, h2⟩
    · exact ⟨Nat.le_refl _, h⟩
  · exact ⟨Nat.le_refl _, h⟩
theorem numOf_gt {s : ByteArray} {i : Nat} (hi : i < s.size) (hd : digitB (bt s i) = true ∨ bt s i = 46) : i < (numOf s i).stop ∧ (numOf s i).stop ≤ s.size := by
  unfold numOf
  split
  · rename_i hx
    have : i + 2 ≤ s.size := by
      rcases hx with h | h
      · exact startsB_le h
      · exact startsB_le h
    have h1 := hexEnd_ge s (i + 2)
    have h2 := hexEnd_le s (i + 2) this
    exact ⟨by show i < hexEnd s (i + 2); omega, h2⟩
  · have g1 := digitsEnd_ge s i
    have g2 := digitsEnd_le s i (Nat.le_of_lt hi)
    split
    · rename_i hx
      have g3 := digitsEnd_ge s (digitsEnd s i + 1)
      have g4 := digitsEnd_le s (digitsEnd s i + 1) (by omega)
      have := expPart_ge (fl := true) (b := 0) g4
      omega
    · rename_i hx
      have := expPart_ge (fl := false) (b := 10) g2
      rcases hd with hd | hd
      · have e1 := digitsEnd_go hi hd
        have e2 := digitsEnd_ge s (i + 1)
        omega
      · have : digitsEnd s i = i := digitsEnd_stop (fun h => by rw [hd] at h; exact absurd h.2 (by decide))
        rw [this] at hx
        exact absurd ⟨hi, hd⟩ hx
theorem partsEnd_gt {s : ByteArray} {i : Nat} (hi : i < s.size) (hp : partB (bt s i) = true) : i < partsEnd s i ∧ partsEnd s i ≤ s.size := by
  have h1 := partsEnd_go hi hp
  have h2 := partsEnd_ge s (i + 1)
  have h3 := partsEnd_le s i (Nat.le_of_lt hi)
  omega
theorem symFrom_gt {K s : ByteArray} {i k : Nat} {p : ByteArray × Nat} : symFrom K s i k = some p → (22 ≤ K.size → k % 2 = 0 → i < p.2 ∧ p.2 ≤ s.size) := by
  fun_induction symFrom K s i k with
  | case1 k h hb =>
    intro he hK hk
    cases he
    have := startsB_le hb
    rw [ByteArray.size_extract] at this
    exact ⟨by show i < i + 2; omega, by show i + 2 ≤ s.size; omega⟩
  | case2 k h hb ih => intro he hK hk; exact ih he hK (by omega)
  | case3 k h => intro he; cases he
theorem sigFrom_gt {K s : ByteArray} {i k : Nat} {p : ByteArray × Nat} (hi : i < s.size) : sigFrom K s i k = some p → i < p.2 ∧ p.2 ≤ s.size := by
  fun_induction sigFrom K s i k with
  | case1 k h hb => intro he; cases he; exact ⟨by show i < i + 1; omega, by show i + 1 ≤ s.size; omega⟩
  | case2 k h hb ih => exact ih
  | case3 k h => intro he; cases he
theorem signOf_gt {s : ByteArray} {i : Nat} {p : ByteArray × Nat} (hi : i < s.size) (h : signOf s i = some p) : i < p.2 ∧ p.2 ≤ s.size := by
  unfold signOf at h
  split at h
  · cases h
    rename_i q hq
    exact symFrom_gt hq (by decide) rfl
  · exact sigFrom_gt hi h
theorem letter_part {c : Int} (h : letterB c = true) : partB c = true := by simp [partB, h]
theorem tokOf_gt {s : ByteArray} {i : Nat} {path after : Bool} {r : TokR} (hi : i ≤ s.size) (h : tokOf s i path after = some r) : (i = s.size → r.stop = i ∧ eofB r.kind = true) ∧ (i < s.size → i < r.stop) ∧ r.stop ≤ s.size := by
  unfold tokOf at h
  split at h
  · cases h
    exact ⟨fun _ => ⟨rfl, (by show eofB kEof = true; decide +kernel)⟩, fun h => by omega, hi⟩
  · rename_i hne
    have hlt : i < s.size := by omega
    have key : i < r.stop ∧ r.stop ≤ s.size := by
      split at h
      · rename_i hp
        cases h
        exact partsEnd_gt hlt hp.2
      · split at h
        · unfold backTok at h
          split at h
          · rename_i v n hq
            split at h
            · cases h
            · cases h
              exact quotOf_gt hlt hq
          · cases h
        · split at h
          · rename_i hd
            unfold numTok at h
            split at h
            · cases h
              exact numOf_gt hlt (by rcases hd with hd | hd; exact Or.inl hd; exact Or.inr hd.1)
            · cases h
          · split at h
            · rename_i ha
              cases h
              have := partsEnd_gt ha.2.1 (letter_part ha.2.2)
              exact ⟨by show i < partsEnd s (i + 1); omega, this.2⟩
            · split at h
              · rename_i p hp
                unfold quotTok at h
                split at h
                · rename_i v n hq
                  cases h
                  have := quotOf_gt (prefOf_lt hp) hq
                  exact ⟨by show i < n; omega, this.2⟩
                · cases h
              · split at h
                · rename_i hl
                  cases h
                  unfold wordTok
                  split
                  · exact partsEnd_gt hlt (letter_part hl)
                  · exact partsEnd_gt hlt (letter_part hl)
                · unfold signTok at h
                  cases hs : signOf s i with
                  | none => rw [hs] at h; cases h
                  | some p => rw [hs] at h; cases h; exact signOf_gt hlt hs
    exact ⟨fun e => absurd e hne, fun _ => key.1, key.2⟩
end Go.Proofs.YtkhjenlclpcehaaDoor
