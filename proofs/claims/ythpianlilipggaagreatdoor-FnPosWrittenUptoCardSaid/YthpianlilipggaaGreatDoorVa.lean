/- The language of positions, its plain side: the shapes of its expressions, their texts, how they are written; the trees that the law is handed, their sort and their tokens. Condition: none; no program in sight. -/
import Derived.Lib.ItoaNum
import Derived.Lib.Atoi
namespace Go.Proofs.YthpianlilipggaaGreatDoor

/-- A text, byte by byte. -/
abbrev Bs := List UInt8

/-- A letter of ASCII. -/
def lch (c : UInt8) : Bool := (decide (65 ≤ c.toNat) && decide (c.toNat ≤ 90)) || (decide (97 ≤ c.toNat) && decide (c.toNat ≤ 122))
/-- A digit. -/
def dch (c : UInt8) : Bool := decide (48 ≤ c.toNat) && decide (c.toNat ≤ 57)
/-- A letter, a digit, or the low line. -/
def wch (c : UInt8) : Bool := lch c || dch c || c == 95
/-- A name: a letter ahead. -/
def nameOk (v : Bs) : Bool := match v with
  | [] => false
  | c :: r => lch c && r.all wch

/-- A number. -/
inductive IE where
  | lit (n : Nat)
  | len (v : Bs)
  | ite (c : Bs) (t e : IE)
/-- A node without a choice. -/
inductive NA where
  | var (v : Bs)
  | last (v : Bs)
  | index (v : Bs) (i : IE)
/-- A node. -/
inductive NE where
  | one (a : NA)
  | many (a : NA) (l : List NA)
/-- A position without a sum. -/
inductive PA where
  | var (v : Bs)
  | pos (n : NE)
  | fin (n : NE)
/-- A position without a choice. -/
structure PX where
  atom : PA
  adds : List IE
/-- A position. -/
structure PC where
  first : PX
  rest : List PX

def IE.ok : IE → Bool
  | .lit n => decide (n < 1099511627776)
  | .len v => nameOk v
  | .ite c t e => nameOk c && t.ok && e.ok
def NA.ok : NA → Bool
  | .var v => nameOk v
  | .last v => nameOk v
  | .index v i => nameOk v && i.ok
def NE.ok : NE → Bool
  | .one a => a.ok
  | .many a l => a.ok && l.all NA.ok && !l.isEmpty
def PA.ok : PA → Bool
  | .var v => nameOk v
  | .pos n => n.ok
  | .fin n => n.ok
def PX.ok (x : PX) : Bool := x.atom.ok && x.adds.all IE.ok
def PC.ok (x : PC) : Bool := x.first.ok && x.rest.all PX.ok

/-- The text of the tokens, nothing between them. -/
def IE.txt : IE → Bs
  | .lit n => Lib.decDigits n
  | .len v => [108, 101, 110, 40] ++ v ++ [41]
  | .ite c t e => [40] ++ c ++ [63] ++ t.txt ++ [58] ++ e.txt ++ [41]
def NA.txt : NA → Bs
  | .var v => v
  | .last v => v ++ [91, 36, 93]
  | .index v i => v ++ [91] ++ i.txt ++ [93]
def NE.txt : NE → Bs
  | .one a => a.txt
  | .many a l => [40] ++ a.txt ++ l.flatMap (fun b => [63, 63] ++ b.txt) ++ [41]
def PA.txt : PA → Bs
  | .var v => v
  | .pos n => n.txt ++ [46, 112, 111, 115]
  | .fin n => n.txt ++ [46, 101, 110, 100]
def PX.txt (x : PX) : Bs := x.atom.txt ++ x.adds.flatMap (fun i => [43] ++ i.txt)
def PC.txt (x : PC) : Bs := x.first.txt ++ x.rest.flatMap (fun y => [124, 124] ++ y.txt)

/-- As the package writes it. -/
def IE.unp : IE → Bs
  | .lit n => Lib.decDigits n
  | .len v => [108, 101, 110, 40] ++ v ++ [41]
  | .ite c t e => [40] ++ c ++ [32, 63, 32] ++ t.unp ++ [32, 58, 32] ++ e.unp ++ [41]
def NA.unp : NA → Bs
  | .var v => v
  | .last v => v ++ [91, 36, 93]
  | .index v i => v ++ [91] ++ i.unp ++ [93]
def NE.unp : NE → Bs
  | .one a => a.unp
  | .many a l => [40] ++ (a.unp ++ l.flatMap (fun b => [32, 63, 63, 32] ++ b.unp)) ++ [41]
def PA.unp : PA → Bs
  | .var v => v
  | .pos n => n.unp ++ [46, 112, 111, 115]
  | .fin n => n.unp ++ [46, 101, 110, 100]
def PX.unp (x : PX) : Bs := x.atom.unp ++ x.adds.flatMap (fun i => [32, 43, 32] ++ i.unp)
def PC.unp (x : PC) : Bs := x.first.unp ++ x.rest.flatMap (fun y => [32, 124, 124, 32] ++ y.unp)

/-! ### Without its blanks what is written is the text of the tokens -/
/-- No blank in it. -/
abbrev unb (l : Bs) : Bs := l.filter (fun c => c != 32)
theorem unb_all {l : Bs} (h : ∀ c ∈ l, c ≠ 32) : unb l = l := List.filter_eq_self.2 fun c hc => by simpa using h c hc
theorem wch_not {c : UInt8} (h : wch c = true) (d : UInt8) (hd : wch d = false) : c ≠ d := fun e => by subst e; rw [h] at hd; cases hd
theorem name_wch {v : Bs} (h : nameOk v = true) : ∀ c ∈ v, wch c = true := by
  cases v with
  | nil => cases h
  | cons a r =>
    simp only [nameOk, Bool.and_eq_true, List.all_eq_true] at h
    intro c hc
    rcases List.mem_cons.1 hc with rfl | hc
    · simp [wch, h.1]
    · exact h.2 c hc
theorem dg_wch {d : Nat} (hd : d < 10) : dch (UInt8.ofNat (48 + d)) = true := by
  have : d = 0 ∨ d = 1 ∨ d = 2 ∨ d = 3 ∨ d = 4 ∨ d = 5 ∨ d = 6 ∨ d = 7 ∨ d = 8 ∨ d = 9 := by omega
  rcases this with rfl | rfl | rfl | rfl | rfl | rfl | rfl | rfl | rfl | rfl <;> decide
theorem dec_dch : ∀ (n : Nat), ∀ c ∈ Lib.decDigits n, dch c = true := by
  intro n
  induction n using Nat.strongRecOn with
  | _ n ih =>
    rw [Lib.decDigits]
    split
    · rename_i h
      intro c hc
      rw [List.mem_singleton.1 hc]
      exact dg_wch h
    · rename_i h
      intro c hc
      rcases List.mem_append.1 hc with hc | hc
      · exact ih (n / 10) (by omega) c hc
      · rw [List.mem_singleton.1 hc]
        exact dg_wch (by omega)
theorem dec_ne (n : Nat) : Lib.decDigits n ≠ [] := by
  rw [Lib.decDigits]
  split <;> simp
theorem unb_name {v : Bs} (h : nameOk v = true) : unb v = v := unb_all fun c hc => wch_not (name_wch h c hc) 32 (by decide)
theorem unb_dec (n : Nat) : unb (Lib.decDigits n) = Lib.decDigits n := unb_all fun c hc => wch_not (by simp [wch, dec_dch n c hc]) 32 (by decide)
theorem unb_app (a b : Bs) : unb (a ++ b) = unb a ++ unb b := List.filter_append ..
theorem unb_flat {α : Type} (f g : α → Bs) : ∀ (l : List α), (∀ a ∈ l, unb (f a) = g a) → unb (l.flatMap f) = l.flatMap g
  | [], _ => rfl
  | a :: l, h => by
    rw [List.flatMap_cons, List.flatMap_cons, unb_app, h a (by simp), unb_flat f g l fun b hb => h b (by simp [hb])]
theorem IE.unb_unp : ∀ (i : IE), i.ok = true → unb i.unp = i.txt
  | .lit n, _ => unb_dec n
  | .len v, h => by
    simp only [IE.unp, IE.txt, unb_app, unb_name (show nameOk v = true from h)]
    rfl
  | .ite c t e, h => by
    simp only [IE.ok, Bool.and_eq_true] at h
    simp only [IE.unp, IE.txt, unb_app, unb_name h.1.1, IE.unb_unp t h.1.2, IE.unb_unp e h.2]
    rfl
theorem NA.unb_unp : ∀ (a : NA), a.ok = true → unb a.unp = a.txt
  | .var v, h => unb_name h
  | .last v, h => by
    simp only [NA.unp, NA.txt, unb_app, unb_name (show nameOk v = true from h)]
    rfl
  | .index v i, h => by
    simp only [NA.ok, Bool.and_eq_true] at h
    simp only [NA.unp, NA.txt, unb_app, unb_name h.1, IE.unb_unp i h.2]
    rfl
theorem NE.unb_unp : ∀ (a : NE), a.ok = true → unb a.unp = a.txt
  | .one a, h => NA.unb_unp a h
  | .many a l, h => by
    simp only [NE.ok, Bool.and_eq_true, List.all_eq_true] at h
    have hl : unb (l.flatMap fun b => [32, 63, 63, 32] ++ b.unp) = l.flatMap fun b => [63, 63] ++ b.txt :=
      unb_flat _ _ l fun b hb => by rw [unb_app, NA.unb_unp b (h.1.2 b hb)]; rfl
    simp only [NE.unp, NE.txt, unb_app, NA.unb_unp a h.1.1]
    rw [hl]
    simp
theorem PA.unb_unp : ∀ (a : PA), a.ok = true → unb a.unp = a.txt
  | .var v, h => unb_name h
  | .pos n, h => by
    simp only [PA.unp, PA.txt, unb_app, NE.unb_unp n h]
    rfl
  | .fin n, h => by
    simp only [PA.unp, PA.txt, unb_app, NE.unb_unp n h]
    rfl
theorem PX.unb_unp (x : PX) (h : x.ok = true) : unb x.unp = x.txt := by
  simp only [PX.ok, Bool.and_eq_true, List.all_eq_true] at h
  have hl : unb (x.adds.flatMap fun b => [32, 43, 32] ++ b.unp) = x.adds.flatMap fun b => [43] ++ b.txt :=
    unb_flat _ _ _ fun b hb => by rw [unb_app, IE.unb_unp b (h.2 b hb)]; rfl
  rw [PX.unp, PX.txt, unb_app, PA.unb_unp _ h.1, hl]
theorem PC.unb_unp (x : PC) (h : x.ok = true) : unb x.unp = x.txt := by
  simp only [PC.ok, Bool.and_eq_true, List.all_eq_true] at h
  have hl : unb (x.rest.flatMap fun b => [32, 124, 124, 32] ++ b.unp) = x.rest.flatMap fun b => [124, 124] ++ b.txt :=
    unb_flat _ _ _ fun b hb => by rw [unb_app, PX.unb_unp b (h.2 b hb)]; rfl
  rw [PC.unp, PC.txt, unb_app, PX.unb_unp _ h.1, hl]

/-! ### The trees that the law is handed -/
inductive PE where
  | mk (kind name : Bs) (n : Int) (args : List PE)
def PE.kind : PE → Bs
  | .mk k _ _ _ => k
def PE.args : PE → List PE
  | .mk _ _ _ l => l
mutual
def PE.size : PE → Nat
  | .mk _ _ _ l => 1 + PE.sizeL l
def PE.sizeL : List PE → Nat
  | [] => 0
  | e :: r => e.size + PE.sizeL r
end
def kVar : Bs := [118, 97, 114]
def kInt : Bs := [105, 110, 116]
def kPos : Bs := [112, 111, 115]
def kEnd : Bs := [101, 110, 100]
def kAdd : Bs := [97, 100, 100]
def kChoice : Bs := [99, 104, 111, 105, 99, 101]
def kNodes : Bs := [110, 111, 100, 101, 115]
def kIndex : Bs := [105, 110, 100, 101, 120]
def kLast : Bs := [108, 97, 115, 116]
def kLen : Bs := [108, 101, 110]
def kIf : Bs := [105, 102]
/-- A word of the checker: the low line is a letter to it. -/
def wordB (v : Bs) : Bool := match v with
  | [] => false
  | c :: r => (lch c || c == 95) && r.all wch
def nth {α : Type} (l : List α) (d : α) (i : Nat) : α := l.getD i d
/-- The kind of the i-th part. -/
def kindAt (l : List PE) (i : Nat) : Bs := match l[i]? with
  | some e => e.kind
  | none => []
mutual
/-- Is the tree of the sort that is wanted? (112 a position, 110 a node, 105 a number, 115 a variable.) -/
def PE.sortB : PE → UInt8 → Bool
  | .mk k nm n l, want =>
    if k = kVar then decide (n = 0) && l.isEmpty && wordB nm && decide (nm.head? ≠ some 95) && decide (nm ≠ kLen) && decide (want ≠ 105)
    else if k = kInt then decide (want = 105) && nm.isEmpty && decide (0 ≤ n) && decide (n < 1099511627776) && l.isEmpty
    else if k = kPos ∨ k = kEnd then decide (want = 112) && (nm.isEmpty && decide (n = 0)) && decide (l.length = 1) && nth (PE.sortL l 110) false 0
    else if k = kAdd then decide (want = 112) && (nm.isEmpty && decide (n = 0)) && decide (l.length = 2) && nth (PE.sortL l 112) false 0 && nth (PE.sortL l 105) false 1 && decide (kindAt l 0 ≠ kChoice)
    else if k = kChoice then (PE.sortL l 112).all id && l.all (fun a => decide (a.kind ≠ kChoice)) && decide (want = 112) && (nm.isEmpty && decide (n = 0)) && decide (1 < l.length)
    else if k = kNodes then (PE.sortL l 110).all id && l.all (fun a => decide (a.kind ≠ kNodes)) && decide (want = 110) && (nm.isEmpty && decide (n = 0)) && decide (1 < l.length)
    else if k = kIndex then decide (want = 110) && (nm.isEmpty && decide (n = 0)) && decide (l.length = 2) && nth (PE.sortL l 115) false 0 && nth (PE.sortL l 105) false 1 && decide (kindAt l 0 = kVar)
    else if k = kLast then decide (want = 110) && (nm.isEmpty && decide (n = 0)) && decide (l.length = 1) && nth (PE.sortL l 115) false 0 && decide (kindAt l 0 = kVar)
    else if k = kLen then decide (want = 105) && (nm.isEmpty && decide (n = 0)) && decide (l.length = 1) && nth (PE.sortL l 115) false 0 && decide (kindAt l 0 = kVar)
    else if k = kIf then decide (want = 105) && (nm.isEmpty && decide (n = 0)) && decide (l.length = 3) && nth (PE.sortL l 115) false 0 && nth (PE.sortL l 105) false 1 && nth (PE.sortL l 105) false 2 && decide (kindAt l 0 = kVar)
    else false
def PE.sortL : List PE → UInt8 → List Bool
  | [], _ => []
  | e :: r, c => e.sortB c :: PE.sortL r c
end
mutual
/-- Its tokens. -/
def PE.toks : PE → List Bs
  | .mk k nm n l =>
    if k = kVar then [nm]
    else if k = kInt then [Lib.decDigits n.toNat]
    else if k = kPos ∨ k = kEnd then nth (PE.toksL l) [] 0 ++ [[46], k]
    else if k = kAdd then nth (PE.toksL l) [] 0 ++ [[43]] ++ nth (PE.toksL l) [] 1
    else if k = kIndex then nth (PE.toksL l) [] 0 ++ [[91]] ++ nth (PE.toksL l) [] 1 ++ [[93]]
    else if k = kLast then nth (PE.toksL l) [] 0 ++ [[91], [36], [93]]
    else if k = kLen then [kLen, [40]] ++ nth (PE.toksL l) [] 0 ++ [[41]]
    else if k = kIf then [[40]] ++ nth (PE.toksL l) [] 0 ++ [[63]] ++ nth (PE.toksL l) [] 1 ++ [[58]] ++ nth (PE.toksL l) [] 2 ++ [[41]]
    else if k = kNodes then [[40]] ++ PE.joined [[63, 63]] (PE.toksL l) ++ [[41]]
    else PE.joined (if k = kChoice then [[124, 124]] else [[63, 63]]) (PE.toksL l)
def PE.toksL : List PE → List (List Bs)
  | [] => []
  | e :: r => e.toks :: PE.toksL r
/-- Rows of tokens, one behind the other, a sign between them. -/
def PE.joined (sep : List Bs) : List (List Bs) → List Bs
  | [] => []
  | x :: r => x ++ r.flatMap fun y => sep ++ y
end
theorem toksL_eq : ∀ (l : List PE), PE.toksL l = l.map PE.toks
  | [] => rfl
  | e :: r => by rw [PE.toksL, toksL_eq r]; rfl
theorem sortL_eq (c : UInt8) : ∀ (l : List PE), PE.sortL l c = l.map fun e => e.sortB c
  | [] => rfl
  | e :: r => by rw [PE.sortL, sortL_eq c r]; rfl
theorem sizeL_mem : ∀ {l : List PE} {e : PE}, e ∈ l → e.size ≤ PE.sizeL l
  | a :: r, e, h => by
    rw [PE.sizeL]
    rcases List.mem_cons.1 h with rfl | h
    · omega
    · have := sizeL_mem h; omega
theorem size_part {k nm : Bs} {n : Int} {l : List PE} {e : PE} (h : e ∈ l) : e.size < (PE.mk k nm n l).size := by
  have := sizeL_mem h
  rw [PE.size]; omega
theorem word_name {v : Bs} (h : wordB v = true) (h1 : v.head? ≠ some 95) : nameOk v = true := by
  cases v with
  | nil => cases h
  | cons c r =>
    simp only [wordB, Bool.and_eq_true, Bool.or_eq_true, beq_iff_eq] at h
    rcases h with ⟨h | h, h2⟩
    · simp [nameOk, h, h2]
    · subst h; exact absurd rfl h1
end Go.Proofs.YthpianlilipggaaGreatDoor
