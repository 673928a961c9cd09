/- Lists of comments and of tokens in memory. No condition. -/
import Derived.Test.YtkhjenlclpcehaaDoorBb
import Derived.Test.YtkhjenlclpcehaaDoorPj
import Derived.Deep.AppendLies
namespace Go.Proofs.YtkhjenlclpcehaaDoor
open Go.RowKit Go.PlainAid

theorem info_cmt : (Tryd.prog.info? 33).map (fun i => (i.zero, i.size, i.bytes)) = some (some (.agg #[.string ⟨#[]⟩, .string ⟨#[]⟩, .int .i64 0, .int .i64 0]), 4, 48) := by kernel_rfl
theorem info_tok : (Tryd.prog.info? 30).map (fun i => (i.zero, i.size, i.bytes)) = some (some (.agg #[.string ⟨#[]⟩, .string ⟨#[]⟩, .string ⟨#[]⟩, .string ⟨#[]⟩, .int .i64 0, .int .i64 0, .int .i64 0, .slice none 0 0]), 8, 112) := by kernel_rfl

def cmtCells (c : CmtD) : List Value := [.string c.space, .string c.raw, .int .i64 c.pos, .int .i64 c.stop]
def tokCells (p : TokD × Value) : List Value := [.string p.1.kind, .string p.1.space, .string p.1.raw, .string p.1.text, .int .i64 p.1.base, .int .i64 p.1.pos, .int .i64 p.1.stop, p.2]
def CmtRow (w : World) (B : Nat) (v : Value) (cs : List CmtD) : Prop := w.ownsRow B 33 4 v cs.length (cs.flatMap cmtCells) ∧ ∃ A c, v = .slice A cs.length c
def TokRow (w : World) (B : Nat) (v : Value) (ts : List (TokD × Value)) : Prop := w.ownsRow B 30 8 v ts.length (ts.flatMap tokCells) ∧ ∀ p ∈ ts, CmtRow w B p.2 p.1.comments

/-- Two rows of unlike elements lie in unlike blocks. -/
theorem own_tags {w : World} {B1 B2 e1 e2 s1 s2 n1 n2 : Nat} {v1 v2 : Value} {x1 x2 : List Value} (h1 : w.ownsRow B1 e1 s1 v1 n1 x1) (h2 : w.ownsRow B2 e2 s2 v2 n2 x2) (hne : e1 ≠ e2) : v1.ownBlock = none ∨ v1.ownBlock ≠ v2.ownBlock := by
  rcases h1.2 with ⟨rfl, _⟩ | ⟨g, cap, cur, rfl, _, hg, _⟩
  · left; rfl
  · right
    rcases h2.2 with ⟨rfl, _⟩ | ⟨g', cap', cur', rfl, _, hg', _⟩
    · simp [Value.ownBlock]
    · intro h
      simp [Value.ownBlock] at h
      subst h
      rw [hg] at hg'
      cases hg'
      exact hne rfl
/-- A row's block is none that bears another tag. -/
theorem own_tag_ne {w : World} {B e s n b : Nat} {v : Value} {xs : List Value} {C : Array Value} {T : TypeId} {fr : Nat × Nat} (h : w.ownsRow B e s v n xs) (hb : w.heap[b]? = some (.cells C T fr)) (hne : e ≠ T) : v.ownBlock ≠ some b := by
  rcases h.2 with ⟨rfl, _⟩ | ⟨g, cap, cur, rfl, _, hg, _⟩
  · simp [Value.ownBlock]
  · intro k
    simp [Value.ownBlock] at k
    subst k
    rw [hg] at hb
    cases hb
    exact hne rfl
theorem own_set_other {w : World} {B e s n b j : Nat} {v x : Value} {xs : List Value} (h : w.ownsRow B e s v n xs) (hb : v.ownBlock ≠ some b) : (w.setCell ⟨b, j, none⟩ x).ownsRow B e s v n xs :=
  h.kept (row := some b) ⟨rfl, rfl, rfl, by simp [World.setCell], fun k _ hk => Below.heap_setCell _ _ _ _ (fun e => hk (by rw [e]))⟩ (Or.inr hb)
theorem own_base {w : World} {B B' e s n : Nat} {v : Value} {xs : List Value} (h : w.ownsRow B e s v n xs) (hB : B' ≤ B) : w.ownsRow B' e s v n xs := by
  refine ⟨h.1, ?_⟩
  rcases h.2 with k | ⟨g, cap, cur, hv, hg, r⟩
  · exact Or.inl k
  · exact Or.inr ⟨g, cap, cur, hv, Nat.le_trans hB hg, r⟩
theorem own_below' {w w' : World} {B e s n : Nat} {v : Value} {xs : List Value} (h : w.ownsRow B e s v n xs) (hb : Below w.heap.size w w') : w'.ownsRow B e s v n xs :=
  h.kept (row := none) ⟨hb.os, hb.tape, hb.output, hb.size, fun k hk _ => hb.block k hk⟩ (by cases v.ownBlock <;> simp)

theorem CmtRow.nil (w : World) (B : Nat) : CmtRow w B (.slice none 0 0) [] := ⟨World.ownsRow_nil _ _ _ _, none, 0, rfl⟩
theorem CmtRow.below {w w' : World} {B : Nat} {v : Value} {cs : List CmtD} (h : CmtRow w B v cs) (hb : Below w.heap.size w w') : CmtRow w' B v cs := ⟨own_below' h.1 hb, h.2⟩
theorem CmtRow.base {w : World} {B B' : Nat} {v : Value} {cs : List CmtD} (h : CmtRow w B v cs) (hB : B' ≤ B) : CmtRow w B' v cs := ⟨own_base h.1 hB, h.2⟩
theorem CmtRow.only {w w' : World} {B b : Nat} {v : Value} {cs : List CmtD} {x : TokS} (h : CmtRow w B v cs) (ht : TokAt w b x) (hb : Only b w w') : CmtRow w' B v cs :=
  ⟨h.1.kept (row := some b) ⟨hb.os, hb.tape, hb.output, hb.size, fun k hk hne => hb.block k hk (fun e => hne (by rw [e]))⟩ (Or.inr (own_tag_ne h.1 ht (by decide))), h.2⟩
theorem TokRow.nil (w : World) (B : Nat) : TokRow w B (.slice none 0 0) [] := ⟨World.ownsRow_nil _ _ _ _, fun p hp => by cases hp⟩
theorem TokRow.below {w w' : World} {B : Nat} {v : Value} {ts : List (TokD × Value)} (h : TokRow w B v ts) (hb : Below w.heap.size w w') : TokRow w' B v ts := ⟨own_below' h.1 hb, fun p hp => (h.2 p hp).below hb⟩

/-- Behind the append of a comment. -/
theorem cmt_push {w1 : World} {B g cap : Nat} {cs : List CmtD} {c : CmtD} {n : Nat} {xs : List Value} (hn : n = cs.length + 1) (hx : xs = cs.flatMap cmtCells ++ cmtCells c)
    (h : w1.ownsRow B 33 4 (.slice (some ⟨g, 0, none⟩) n cap) n xs) : CmtRow w1 B (.slice (some ⟨g, 0, none⟩) n cap) (cs ++ [c]) := by
  subst hn; subst hx
  refine ⟨?_, some ⟨g, 0, none⟩, cap, by simp⟩
  simpa [List.length_append, List.flatMap_append] using h

/-- Behind the append of a token. -/
theorem tok_push {w w1 : World} {B g cap : Nat} {v cv : Value} {ts : List (TokD × Value)} {t : TokD} {n : Nat} {xs : List Value} (hT : TokRow w B v ts) (hC : CmtRow w B cv t.comments) (hn : n = ts.length + 1) (hx : xs = ts.flatMap tokCells ++ tokCells (t, cv))
    (h : w1.ownsRow B 30 8 (.slice (some ⟨g, 0, none⟩) n cap) n xs) (hg : w.grownBy w1 v.ownBlock) : TokRow w1 B (.slice (some ⟨g, 0, none⟩) n cap) (ts ++ [(t, cv)]) := by
  subst hn; subst hx
  refine ⟨?_, ?_⟩
  · simpa [List.length_append, List.flatMap_append] using h
  · have keep : ∀ (u : Value) (ks : List CmtD), CmtRow w B u ks → CmtRow w1 B u ks := fun u ks hu => ⟨hu.1.kept hg (own_tags hu.1 hT.1 (by decide)), hu.2⟩
    intro p hp
    rcases List.mem_append.1 hp with hp | hp
    · exact keep _ _ (hT.2 p hp)
    · simp at hp; subst hp; exact keep _ _ hC

/-- A token's kind, read in the list. -/
theorem tokRow_kind {w : World} {B g n cap : Nat} {ts : List (TokD × Value)} (h : TokRow w B (.slice (some ⟨g, 0, none⟩) n cap) ts) (j : Nat) (hj : j < ts.length) : w.cell? ⟨g, j * 8, none⟩ = some (.string (ts[j]'hj).1.kind) := by
  have hc := h.1.cells (g := g) rfl (j * 8) (.string (ts[j]'hj).1.kind) ?_
  · rwa [add_off] at hc
  · have aux : ∀ (l : List (TokD × Value)) (k : Nat) (hk : k < l.length), (l.flatMap tokCells)[k * 8]? = some (.string (l[k]'hk).1.kind) := by
      intro l
      induction l with
      | nil => intro k hk; cases hk
      | cons a l ih =>
        intro k hk
        cases k with
        | zero => rfl
        | succ k =>
          rw [List.flatMap_cons, List.getElem?_append_right (by simp [tokCells]; omega)]
          have : (k + 1) * 8 - (tokCells a).length = k * 8 := by simp [tokCells]; omega
          rw [this]
          exact ih k (by simpa using hk)
    exact aux ts j hj

theorem lastKind_eq {ts : List (TokD × Value)} {m : Nat} (h : ts.length = m + 1) : lastKind (ts.map Prod.fst) = (ts[m]'(by omega)).1.kind := by
  have hne : (ts.map Prod.fst) ≠ [] := by intro e; rw [List.map_eq_nil_iff] at e; rw [e] at h; cases h
  have hl : (ts.map Prod.fst).length - 1 = m := by simp; omega
  unfold lastKind
  rw [List.getLast?_eq_getElem?, hl, List.getElem?_map, List.getElem?_eq_getElem (by omega)]
  rfl
theorem pathB_nil : pathB [] = false := by decide +kernel
theorem afterB_nil : afterB [] = false := by decide +kernel
theorem pathB_one {ts : List (TokD × Value)} (h : ts.length = 1) : pathB (ts.map Prod.fst) = false := by
  unfold pathB
  have : decide (1 < (ts.map Prod.fst).length) = false := by simp; omega
  rw [this]; simp
theorem pathB_two {ts : List (TokD × Value)} {q : Nat} (h : ts.length = q + 2) : pathB (ts.map Prod.fst) = ((ts[q + 1]'(by omega)).1.kind.toList == [46] && dottedB (ts[q]'(by omega)).1.kind) := by
  unfold pathB
  have h1 : decide (1 < (ts.map Prod.fst).length) = true := by simp; omega
  have h2 : (ts.map Prod.fst).length - 2 = q := by simp; omega
  have h3 : kindAt (ts.map Prod.fst) q = (ts[q]'(by omega)).1.kind := by
    unfold kindAt
    rw [List.getElem?_map, List.getElem?_eq_getElem (by omega)]
    rfl
  rw [h1, h2, h3, lastKind_eq (m := q + 1) (by omega), Bool.and_true]
end Go.Proofs.YtkhjenlclpcehaaDoor
