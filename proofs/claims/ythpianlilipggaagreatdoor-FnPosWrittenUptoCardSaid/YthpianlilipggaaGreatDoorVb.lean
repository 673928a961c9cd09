/- The language of positions, its plain side: a tree of a sort is an expression of the language, and its tokens are that expression's text. Condition: none. -/
import Derived.Test.YthpianlilipggaaGreatDoorVa
namespace Go.Proofs.YthpianlilipggaaGreatDoor

/-- The trees of each sort. -/
inductive Sd : UInt8 → PE → Prop
  | var {c : UInt8} {v : Bs} : nameOk v = true → c ≠ 105 → Sd c (.mk kVar v 0 [])
  | int {n : Nat} : n < 1099511627776 → Sd 105 (.mk kInt [] (n : Int) [])
  | pos {k : Bs} {a : PE} : k = kPos ∨ k = kEnd → Sd 110 a → Sd 112 (.mk k [] 0 [a])
  | add {a b : PE} : Sd 112 a → Sd 105 b → a.kind ≠ kChoice → Sd 112 (.mk kAdd [] 0 [a, b])
  | choice {l : List PE} : (∀ a ∈ l, Sd 112 a) → (∀ a ∈ l, a.kind ≠ kChoice) → 1 < l.length → Sd 112 (.mk kChoice [] 0 l)
  | nodes {l : List PE} : (∀ a ∈ l, Sd 110 a) → (∀ a ∈ l, a.kind ≠ kNodes) → 1 < l.length → Sd 110 (.mk kNodes [] 0 l)
  | index {v : Bs} {b : PE} : nameOk v = true → Sd 105 b → Sd 110 (.mk kIndex [] 0 [.mk kVar v 0 [], b])
  | last {v : Bs} : nameOk v = true → Sd 110 (.mk kLast [] 0 [.mk kVar v 0 []])
  | len {v : Bs} : nameOk v = true → Sd 105 (.mk kLen [] 0 [.mk kVar v 0 []])
  | ite {v : Bs} {a b : PE} : nameOk v = true → Sd 105 a → Sd 105 b → Sd 105 (.mk kIf [] 0 [.mk kVar v 0 [], a, b])

theorem var_of_sort {e : PE} {c : UInt8} (h : e.sortB c = true) (hk : e.kind = kVar) : ∃ v, nameOk v = true ∧ e = .mk kVar v 0 [] := by
  obtain ⟨k, nm, n, l⟩ := e
  obtain rfl : k = kVar := hk
  rw [PE.sortB, if_pos rfl] at h
  simp only [Bool.and_eq_true, decide_eq_true_eq, List.isEmpty_iff] at h
  obtain ⟨⟨⟨⟨⟨rfl, rfl⟩, h3⟩, h4⟩, _⟩, _⟩ := h
  exact ⟨nm, word_name h3 h4, rfl⟩
theorem len_one {α : Type} {l : List α} (h : l.length = 1) : ∃ a, l = [a] := by
  match l, h with
  | [a], _ => exact ⟨a, rfl⟩
theorem len_two {α : Type} {l : List α} (h : l.length = 2) : ∃ a b, l = [a, b] := by
  match l, h with
  | [a, b], _ => exact ⟨a, b, rfl⟩
theorem len_three {α : Type} {l : List α} (h : l.length = 3) : ∃ a b c, l = [a, b, c] := by
  match l, h with
  | [a, b, c], _ => exact ⟨a, b, c, rfl⟩

/-- The test says what it should. -/
theorem sd_of_sort : ∀ (m : Nat) (e : PE), e.size ≤ m → ∀ c, e.sortB c = true → Sd c e := by
  intro m
  induction m with
  | zero =>
    intro e he
    obtain ⟨k, nm, n, l⟩ := e
    rw [PE.size] at he; omega
  | succ m ih =>
    intro e he c h
    obtain ⟨k, nm, n, l⟩ := e
    have hp : ∀ a ∈ l, ∀ c, a.sortB c = true → Sd c a := fun a ha c hc => ih a (by have := size_part (k := k) (nm := nm) (n := n) ha; omega) c hc
    rw [PE.sortB] at h
    simp only [sortL_eq] at h
    split at h
    · subst k
      simp only [Bool.and_eq_true, decide_eq_true_eq, List.isEmpty_iff] at h
      obtain ⟨⟨⟨⟨⟨rfl, rfl⟩, h3⟩, h4⟩, _⟩, h6⟩ := h
      exact .var (word_name h3 h4) h6
    split at h
    · subst k
      simp only [Bool.and_eq_true, decide_eq_true_eq, List.isEmpty_iff] at h
      obtain ⟨⟨⟨⟨rfl, rfl⟩, h3⟩, h4⟩, rfl⟩ := h
      obtain ⟨n, rfl⟩ := Int.eq_ofNat_of_zero_le h3
      exact .int (by omega)
    split at h
    · rename_i hk
      simp only [Bool.and_eq_true, decide_eq_true_eq, List.isEmpty_iff] at h
      obtain ⟨⟨⟨rfl, rfl, rfl⟩, h3⟩, h4⟩ := h
      obtain ⟨a, rfl⟩ := len_one h3
      exact .pos hk (hp a (by simp) _ (by simpa [nth] using h4))
    split at h
    · subst k
      simp only [Bool.and_eq_true, decide_eq_true_eq, List.isEmpty_iff] at h
      obtain ⟨⟨⟨⟨⟨rfl, rfl, rfl⟩, h3⟩, h4⟩, h5⟩, h6⟩ := h
      obtain ⟨a, b, rfl⟩ := len_two h3
      exact .add (hp a (by simp) _ (by simpa [nth] using h4)) (hp b (by simp) _ (by simpa [nth] using h5)) (by simpa [kindAt] using h6)
    split at h
    · subst k
      simp only [Bool.and_eq_true, decide_eq_true_eq, List.isEmpty_iff, List.all_eq_true, List.mem_map] at h
      obtain ⟨⟨⟨⟨h1, h2⟩, rfl⟩, rfl, rfl⟩, h4⟩ := h
      exact .choice (fun a ha => hp a ha _ (h1 _ ⟨a, ha, rfl⟩)) h2 h4
    split at h
    · subst k
      simp only [Bool.and_eq_true, decide_eq_true_eq, List.isEmpty_iff, List.all_eq_true, List.mem_map] at h
      obtain ⟨⟨⟨⟨h1, h2⟩, rfl⟩, rfl, rfl⟩, h4⟩ := h
      exact .nodes (fun a ha => hp a ha _ (h1 _ ⟨a, ha, rfl⟩)) h2 h4
    split at h
    · subst k
      simp only [Bool.and_eq_true, decide_eq_true_eq, List.isEmpty_iff] at h
      obtain ⟨⟨⟨⟨⟨rfl, rfl, rfl⟩, h3⟩, h4⟩, h5⟩, h6⟩ := h
      obtain ⟨a, b, rfl⟩ := len_two h3
      obtain ⟨v, hv, rfl⟩ := var_of_sort (e := a) (c := 115) (by simpa [nth] using h4) (by simpa [kindAt] using h6)
      exact .index hv (hp b (by simp) _ (by simpa [nth] using h5))
    split at h
    · subst k
      simp only [Bool.and_eq_true, decide_eq_true_eq, List.isEmpty_iff] at h
      obtain ⟨⟨⟨⟨rfl, rfl, rfl⟩, h3⟩, h4⟩, h6⟩ := h
      obtain ⟨a, rfl⟩ := len_one h3
      obtain ⟨v, hv, rfl⟩ := var_of_sort (e := a) (c := 115) (by simpa [nth] using h4) (by simpa [kindAt] using h6)
      exact .last hv
    split at h
    · subst k
      simp only [Bool.and_eq_true, decide_eq_true_eq, List.isEmpty_iff] at h
      obtain ⟨⟨⟨⟨rfl, rfl, rfl⟩, h3⟩, h4⟩, h6⟩ := h
      obtain ⟨a, rfl⟩ := len_one h3
      obtain ⟨v, hv, rfl⟩ := var_of_sort (e := a) (c := 115) (by simpa [nth] using h4) (by simpa [kindAt] using h6)
      exact .len hv
    split at h
    · subst k
      simp only [Bool.and_eq_true, decide_eq_true_eq, List.isEmpty_iff] at h
      obtain ⟨⟨⟨⟨⟨⟨rfl, rfl, rfl⟩, h3⟩, h4⟩, h5⟩, h7⟩, h6⟩ := h
      obtain ⟨a, b, d, rfl⟩ := len_three h3
      obtain ⟨v, hv, rfl⟩ := var_of_sort (e := a) (c := 115) (by simpa [nth] using h4) (by simpa [kindAt] using h6)
      exact .ite hv (hp b (by simp) _ (by simpa [nth] using h5)) (hp d (by simp) _ (by simpa [nth] using h7))
    · cases h

/-! ### The tokens of each kind -/
theorem toks_var (v : Bs) (n : Int) (l : List PE) : (PE.mk kVar v n l).toks = [v] := by rw [PE.toks, if_pos rfl]
theorem toks_int (v : Bs) (n : Int) (l : List PE) : (PE.mk kInt v n l).toks = [Lib.decDigits n.toNat] := by rw [PE.toks, if_neg (by decide), if_pos rfl]
theorem toks_pos (k v : Bs) (n : Int) (a : PE) (h : k = kPos ∨ k = kEnd) : (PE.mk k v n [a]).toks = a.toks ++ [[46], k] := by
  rw [PE.toks, if_neg (by rcases h with rfl | rfl <;> decide), if_neg (by rcases h with rfl | rfl <;> decide), if_pos h]
  rfl
theorem toks_add (v : Bs) (n : Int) (a b : PE) : (PE.mk kAdd v n [a, b]).toks = a.toks ++ [[43]] ++ b.toks := by
  rw [PE.toks, if_neg (by decide), if_neg (by decide), if_neg (by decide), if_pos rfl]
  rfl
theorem toks_index (v : Bs) (n : Int) (a b : PE) : (PE.mk kIndex v n [a, b]).toks = a.toks ++ [[91]] ++ b.toks ++ [[93]] := by
  rw [PE.toks, if_neg (by decide), if_neg (by decide), if_neg (by decide), if_neg (by decide), if_pos rfl]
  rfl
theorem toks_last (v : Bs) (n : Int) (a : PE) : (PE.mk kLast v n [a]).toks = a.toks ++ [[91], [36], [93]] := by
  rw [PE.toks, if_neg (by decide), if_neg (by decide), if_neg (by decide), if_neg (by decide), if_neg (by decide), if_pos rfl]
  rfl
theorem toks_len (v : Bs) (n : Int) (a : PE) : (PE.mk kLen v n [a]).toks = [kLen, [40]] ++ a.toks ++ [[41]] := by
  rw [PE.toks, if_neg (by decide), if_neg (by decide), if_neg (by decide), if_neg (by decide), if_neg (by decide), if_neg (by decide), if_pos rfl]
  rfl
theorem toks_ite (v : Bs) (n : Int) (a b c : PE) : (PE.mk kIf v n [a, b, c]).toks = [[40]] ++ a.toks ++ [[63]] ++ b.toks ++ [[58]] ++ c.toks ++ [[41]] := by
  rw [PE.toks, if_neg (by decide), if_neg (by decide), if_neg (by decide), if_neg (by decide), if_neg (by decide), if_neg (by decide), if_neg (by decide), if_pos rfl]
  rfl
theorem toks_nodes (v : Bs) (n : Int) (l : List PE) : (PE.mk kNodes v n l).toks = [[40]] ++ PE.joined [[63, 63]] (l.map PE.toks) ++ [[41]] := by
  rw [PE.toks, if_neg (by decide), if_neg (by decide), if_neg (by decide), if_neg (by decide), if_neg (by decide), if_neg (by decide), if_neg (by decide), if_neg (by decide), if_pos rfl, toksL_eq]
theorem toks_choice (v : Bs) (n : Int) (l : List PE) : (PE.mk kChoice v n l).toks = PE.joined [[124, 124]] (l.map PE.toks) := by
  rw [PE.toks, if_neg (by decide), if_neg (by decide), if_neg (by decide), if_neg (by decide), if_neg (by decide), if_neg (by decide), if_neg (by decide), if_neg (by decide), if_neg (by decide), if_pos rfl, toksL_eq]

theorem choose_all {α β : Type} {p : α → β → Prop} : ∀ (l : List α), (∀ a ∈ l, ∃ b, p a b) → ∃ m : List β, m.length = l.length ∧ ∀ i (h : i < l.length) (h' : i < m.length), p l[i] m[i]
  | [], _ => ⟨[], rfl, fun i h => absurd h (Nat.not_lt_zero i)⟩
  | a :: l, h => by
    obtain ⟨b, hb⟩ := h a (by simp)
    obtain ⟨m, hm, hp⟩ := choose_all l fun x hx => h x (by simp [hx])
    refine ⟨b :: m, by simp [hm], fun i h1 h2 => ?_⟩
    cases i with
    | zero => exact hb
    | succ i => exact hp i (by simpa using h1) (by simpa using h2)
theorem flat_same {α β : Type} {f : α → List Bs} {g : β → Bs} {sep : List Bs} {s : Bs} (hs : sep.flatten = s) : ∀ (l : List α) (m : List β), m.length = l.length → (∀ i (h : i < l.length) (h' : i < m.length), (f l[i]).flatten = g m[i]) →
    (l.flatMap fun x => sep ++ f x).flatten = m.flatMap fun y => s ++ g y
  | [], [], _, _ => rfl
  | [], _ :: _, h, _ => by cases h
  | _ :: _, [], h, _ => by cases h
  | a :: l, b :: m, h, hp => by
    rw [List.flatMap_cons, List.flatMap_cons, List.flatten_append, List.flatten_append, hs, flat_same hs l m (by simpa using h) fun i h1 h2 => hp (i + 1) (by simpa using h1) (by simpa using h2)]
    have := hp 0 (by simp) (by simp)
    simp only [List.getElem_cons_zero] at this
    rw [this]

/-- WHAT A TREE OF EACH SORT SAYS. -/
def Says (c : UInt8) (e : PE) : Prop :=
  (c = 105 → ∃ i : IE, i.ok = true ∧ e.toks.flatten = i.txt) ∧
  (c = 110 → ∃ g : NE, g.ok = true ∧ e.toks.flatten = g.txt ∧ (e.kind ≠ kNodes → ∃ a, g = .one a)) ∧
  (c = 112 → ∃ g : PC, g.ok = true ∧ e.toks.flatten = g.txt ∧ (e.kind ≠ kChoice → g.rest = []))

theorem says_of_sd {c : UInt8} {e : PE} (h : Sd c e) : Says c e := by
  induction h with
  | @var c v hv hc =>
    refine ⟨fun e => absurd e hc, fun _ => ⟨.one (.var v), hv, ?_, fun _ => ⟨_, rfl⟩⟩, fun _ => ⟨⟨⟨.var v, []⟩, []⟩, ?_, ?_, fun _ => rfl⟩⟩
    · rw [toks_var]; simp [NE.txt, NA.txt]
    · simp [PC.ok, PX.ok, PA.ok, hv]
    · rw [toks_var]; simp [PC.txt, PX.txt, PA.txt]
  | @int n hn =>
    refine ⟨fun _ => ⟨.lit n, by simp [IE.ok, hn], ?_⟩, fun e => absurd e (by decide), fun e => absurd e (by decide)⟩
    rw [toks_int]; simp [IE.txt]
  | @pos k a hk _ ih =>
    refine ⟨fun e => absurd e (by decide), fun e => absurd e (by decide), fun _ => ?_⟩
    obtain ⟨g, h1, h2, _⟩ := ih.2.1 rfl
    rw [toks_pos k _ _ a hk, List.flatten_append, h2]
    rcases hk with rfl | rfl
    · exact ⟨⟨⟨.pos g, []⟩, []⟩, by simp [PC.ok, PX.ok, PA.ok, h1], by simp [PC.txt, PX.txt, PA.txt, kPos], fun _ => rfl⟩
    · exact ⟨⟨⟨.fin g, []⟩, []⟩, by simp [PC.ok, PX.ok, PA.ok, h1], by simp [PC.txt, PX.txt, PA.txt, kEnd], fun _ => rfl⟩
  | @add a b _ _ hk iha ihb =>
    refine ⟨fun e => absurd e (by decide), fun e => absurd e (by decide), fun _ => ?_⟩
    obtain ⟨g, h1, h2, h3⟩ := iha.2.2 rfl
    obtain ⟨i, k1, k2⟩ := ihb.1 rfl
    obtain ⟨⟨at0, adds⟩, rest⟩ := g
    obtain rfl : rest = [] := h3 hk
    simp only [PC.ok, PX.ok, Bool.and_eq_true, List.all_nil, and_true] at h1
    refine ⟨⟨⟨at0, adds ++ [i]⟩, []⟩, ?_, ?_, fun _ => rfl⟩
    · simp only [PC.ok, PX.ok, Bool.and_eq_true, List.all_append, List.all_cons, List.all_nil, and_true]
      exact ⟨h1.1, h1.2, k1⟩
    · rw [toks_add, List.flatten_append, List.flatten_append, h2, k2]
      simp [PC.txt, PX.txt]
  | @choice l hs hk hl ih =>
    refine ⟨fun e => absurd e (by decide), fun e => absurd e (by decide), fun _ => ?_⟩
    obtain ⟨m, hm, hp⟩ := choose_all (p := fun (a : PE) (x : PX) => x.ok = true ∧ a.toks.flatten = x.txt) l fun a ha => by
      obtain ⟨⟨x, rest⟩, h1, h2, h3⟩ := (ih a ha).2.2 rfl
      obtain rfl : rest = [] := h3 (hk a ha)
      exact ⟨x, by simpa [PC.ok] using h1, by simpa [PC.txt] using h2⟩
    match l, m, hm with
    | a :: l, x :: m, hm =>
      refine ⟨⟨x, m⟩, ?_, ?_, fun h => absurd rfl h⟩
      · simp only [PC.ok, Bool.and_eq_true, List.all_eq_true]
        refine ⟨(hp 0 (by simp) (by simp)).1, fun y hy => ?_⟩
        obtain ⟨i, hi, rfl⟩ := List.getElem_of_mem hy
        exact (hp (i + 1) (by simp at hm ⊢; omega) (by simpa using hi)).1
      · rw [toks_choice, List.map_cons, PE.joined, List.flatten_append]
        have h0 := (hp 0 (by simp) (by simp)).2
        simp only [List.getElem_cons_zero] at h0
        rw [h0, List.flatMap_map]
        have := flat_same (f := PE.toks) (g := PX.txt) (sep := [[124, 124]]) (s := [124, 124]) rfl l m (by simpa using hm) fun i h1 h2 => (hp (i + 1) (by simpa using h1) (by simpa using h2)).2
        rw [this, PC.txt]
    | [], _, _ => simp at hl
  | @nodes l hs hk hl ih =>
    refine ⟨fun e => absurd e (by decide), fun _ => ?_, fun e => absurd e (by decide)⟩
    obtain ⟨m, hm, hp⟩ := choose_all (p := fun (a : PE) (x : NA) => x.ok = true ∧ a.toks.flatten = x.txt) l fun a ha => by
      obtain ⟨g, h1, h2, h3⟩ := (ih a ha).2.1 rfl
      obtain ⟨x, rfl⟩ := h3 (hk a ha)
      exact ⟨x, h1, h2⟩
    match l, m, hm with
    | a :: l, x :: m, hm =>
      refine ⟨.many x m, ?_, ?_, fun h => absurd rfl h⟩
      · simp only [NE.ok, Bool.and_eq_true, List.all_eq_true]
        refine ⟨⟨(hp 0 (by simp) (by simp)).1, fun y hy => ?_⟩, ?_⟩
        · obtain ⟨i, hi, rfl⟩ := List.getElem_of_mem hy
          exact (hp (i + 1) (by simp at hm ⊢; omega) (by simpa using hi)).1
        · cases m with
          | nil => simp only [List.length_cons, List.length_nil] at hm hl; omega
          | cons _ _ => rfl
      · rw [toks_nodes, List.map_cons, PE.joined, List.flatten_append, List.flatten_append, List.flatten_append]
        have h0 := (hp 0 (by simp) (by simp)).2
        simp only [List.getElem_cons_zero] at h0
        rw [h0, List.flatMap_map]
        have := flat_same (f := PE.toks) (g := NA.txt) (sep := [[63, 63]]) (s := [63, 63]) rfl l m (by simpa using hm) fun i h1 h2 => (hp (i + 1) (by simpa using h1) (by simpa using h2)).2
        rw [this, NE.txt]
        simp
    | [], _, _ => simp at hl
  | @index v b hv _ ih =>
    refine ⟨fun e => absurd e (by decide), fun _ => ?_, fun e => absurd e (by decide)⟩
    obtain ⟨i, k1, k2⟩ := ih.1 rfl
    refine ⟨.one (.index v i), by simp [NE.ok, NA.ok, hv, k1], ?_, fun _ => ⟨_, rfl⟩⟩
    rw [toks_index, toks_var, List.flatten_append, List.flatten_append, List.flatten_append, k2]
    simp [NE.txt, NA.txt]
  | @last v hv =>
    refine ⟨fun e => absurd e (by decide), fun _ => ?_, fun e => absurd e (by decide)⟩
    refine ⟨.one (.last v), by simp [NE.ok, NA.ok, hv], ?_, fun _ => ⟨_, rfl⟩⟩
    rw [toks_last, toks_var]
    simp [NE.txt, NA.txt]
  | @len v hv =>
    refine ⟨fun _ => ?_, fun e => absurd e (by decide), fun e => absurd e (by decide)⟩
    refine ⟨.len v, by simp [IE.ok, hv], ?_⟩
    rw [toks_len, toks_var]
    simp [IE.txt, kLen]
  | @ite v a b hv _ _ iha ihb =>
    refine ⟨fun _ => ?_, fun e => absurd e (by decide), fun e => absurd e (by decide)⟩
    obtain ⟨i, i1, i2⟩ := iha.1 rfl
    obtain ⟨j, j1, j2⟩ := ihb.1 rfl
    refine ⟨.ite v i j, by simp [IE.ok, hv, i1, j1], ?_⟩
    rw [toks_ite, toks_var]
    simp only [List.flatten_append, i2, j2]
    simp [IE.txt]

/-- THE LAW IN PLAIN: a tree that is a position's is the tree of an expression whose text its tokens make. -/
theorem pos_says {e : PE} (h : e.sortB 112 = true) : ∃ g : PC, g.ok = true ∧ e.toks.flatten = g.txt := by
  obtain ⟨g, h1, h2, _⟩ := (says_of_sd (sd_of_sort e.size e (Nat.le_refl _) 112 h)).2.2 rfl
  exact ⟨g, h1, h2⟩
end Go.Proofs.YthpianlilipggaaGreatDoor
