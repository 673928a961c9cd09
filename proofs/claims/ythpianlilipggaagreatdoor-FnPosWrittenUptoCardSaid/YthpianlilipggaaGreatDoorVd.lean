/- The language of positions in memory: blocks by their tags, what is kept, the parser, the expressions that it builds. No condition. -/
import Derived.Test.YthpianlilipggaaGreatDoorVr
import Derived.Test.YthpianlilipggaaGreatDoorProg
import Derived.WalkKit
import Derived.WalkSpells
import Derived.WalkLawsBesides
import Derived.Lib.Hide
import Derived.PlainAid
import Derived.Laws.IdiomStrings
import Derived.Laws.Cover4
import Derived.Lib.AppendIntMem
import Derived.Lib.Props
import Derived.Deep.AppendLies
namespace Go.Proofs.YthpianlilipggaaGreatDoor
open Go.RowKit Go.PlainAid

/-- Block k holds just these cells, under this tag, none of them frozen. -/
def AtB (w : World) (k : Nat) (T : TypeId) (C : Array Value) : Prop := w.heap[k]? = some (.cells C T (0, 0))
section
variable {w w' : World} {k : Nat} {T : TypeId} {C : Array Value}
theorem AtB.lt (h : AtB w k T C) : k < w.heap.size := (Array.getElem?_eq_some_iff.1 h).1
theorem AtB.free (h : AtB w k T C) (j : Nat) : w.frozen? ⟨k, j, none⟩ = false := by
  unfold AtB at h
  simp [World.frozen?, h]
theorem AtB.cell (h : AtB w k T C) (j : Nat) : w.cell? ⟨k, j, none⟩ = C[j]? := by
  unfold AtB at h
  simp [World.cell?, h]
theorem AtB.kept (h : AtB w k T C) (e : w'.heap[k]? = w.heap[k]?) : AtB w' k T C := by unfold AtB at *; rw [e, h]
theorem AtB.below (h : AtB w k T C) (e : Below w.heap.size w w') : AtB w' k T C := h.kept (e.block k h.lt)
theorem AtB.ne {k' : Nat} {T' : TypeId} {C' : Array Value} (h : AtB w k T C) (h' : AtB w k' T' C') (hT : T ≠ T') : k ≠ k' := by
  intro e
  subst e
  unfold AtB at h h'
  rw [h] at h'
  simp at h'
  exact hT h'.2
end
theorem setCell_block {w : World} {g : Nat} {C : Array Value} {T : TypeId} {fr : Nat × Nat} {j : Nat} {v : Value} (h : w.heap[g]? = some (.cells C T fr)) : (w.setCell ⟨g, j, none⟩ v).heap[g]? = some (.cells (C.set! j v) T fr) := by
  simp [World.setCell, Array.getElem?_modify, h]
theorem add_off (g j : Nat) : (⟨g, 0, none⟩ : Addr).add j = ⟨g, j, none⟩ := by unfold Addr.add; split <;> simp_all
theorem atB_new (w : World) (C : Array Value) (T : TypeId) : AtB (w.alloc (.cells C T)) w.heap.size T C := by
  unfold AtB
  show (w.heap.push _)[w.heap.size]? = _
  simp

/-- But for block b (and what is new), the world is as it was. -/
structure Only (b : Nat) (w w' : World) : Prop where
  os : w'.os = w.os
  tape : w'.tape = w.tape
  output : w'.output = w.output
  size : w.heap.size ≤ w'.heap.size
  block : ∀ k, k < w.heap.size → k ≠ b → w'.heap[k]? = w.heap[k]?
theorem Only.refl (b : Nat) (w : World) : Only b w w := ⟨rfl, rfl, rfl, Nat.le_refl _, fun _ _ _ => rfl⟩
theorem Only.trans {b : Nat} {u v w : World} (h : Only b u v) (k : Only b v w) : Only b u w :=
  ⟨k.os.trans h.os, k.tape.trans h.tape, k.output.trans h.output, Nat.le_trans h.size k.size, fun i hi hb => (k.block i (Nat.lt_of_lt_of_le hi h.size) hb).trans (h.block i hi hb)⟩
theorem Only.of_below {b : Nat} {w w' : World} (h : Below w.heap.size w w') : Only b w w' := ⟨h.os, h.tape, h.output, h.size, fun k hk _ => h.block k hk⟩
theorem Only.setCell {b : Nat} {u w : World} (h : Only b u w) (j : Nat) (v : Value) : Only b u (w.setCell ⟨b, j, none⟩ v) :=
  h.trans ⟨rfl, rfl, rfl, by simp [World.setCell], fun k _ hb => Below.heap_setCell _ _ _ _ hb⟩
theorem Only.alloc {b : Nat} {u w : World} (h : Only b u w) (o : Obj) : Only b u (w.alloc o) :=
  h.trans ⟨rfl, rfl, rfl, by simp, fun k hk _ => Below.heap_alloc _ _ _ hk⟩
theorem Only.drew {b : Nat} {u w : World} (h : Only b u w) : Only b u w.drew := ⟨h.os, h.tape, h.output, h.size, h.block⟩
theorem Only.drewN {b : Nat} {u w : World} (h : Only b u w) (n : Nat) : Only b u (w.drewN n) := ⟨h.os, h.tape, h.output, h.size, h.block⟩
theorem Only.below {b B : Nat} {w w' : World} (h : Only b w w') (hb : B ≤ b) (hB : B ≤ w.heap.size) : Below B w w' :=
  ⟨h.os, h.tape, h.output, h.size, fun k hk => h.block k (by omega) (by omega)⟩

/-! ### The parser -/
/-- The runes of the text src lie in block g. -/
def RowAt (w : World) (g : Nat) (src : Bs) : Prop := ∃ (C : Array Value) (fz : Nat × Nat), w.heap[g]? = some (.cells C 21 fz) ∧ ∀ (j : Nat) (c : UInt8), src[j]? = some c → C[j]? = some (rn c)
theorem RowAt.kept {w w' : World} {g : Nat} {src : Bs} (h : RowAt w g src) (e : w'.heap[g]? = w.heap[g]?) : RowAt w' g src := by
  obtain ⟨C, fz, h1, h2⟩ := h
  exact ⟨C, fz, e.trans h1, h2⟩
theorem RowAt.lt {w : World} {g : Nat} {src : Bs} (h : RowAt w g src) : g < w.heap.size := by
  obtain ⟨C, fz, h1, _⟩ := h
  exact (Array.getElem?_eq_some_iff.1 h1).1
/-- Block b is a parser of the text src, which lies in block g; it stands at the place off; what lies below B stays, and with it the table of letters. -/
structure PsAt (w : World) (B b g cap : Nat) (src : Bs) (off : Nat) : Prop where
  blk : AtB w b 53 #[.slice (some ⟨g, 0, none⟩) src.length cap, .int .i64 (off : Int)]
  row : RowAt w g src
  capL : src.length ≤ cap
  capS : cap ≤ 9223372036854775807
  small : src.length ≤ 16777216
  clean : src.all cln = true
  le : off ≤ src.length
  bb : B ≤ b
  bw : B ≤ w.heap.size
  tab : Lib.TabBelow Tryz.prog B w "unicode.properties" .u8 Lib.propertiesTab
section
variable {w w' : World} {B b g cap off : Nat} {src : Bs}
theorem PsAt.cell0 (h : PsAt w B b g cap src off) : w.cell? ⟨b, 0, none⟩ = some (.slice (some ⟨g, 0, none⟩) src.length cap) := h.blk.cell 0
theorem PsAt.cell1 (h : PsAt w B b g cap src off) : w.cell? ⟨b, 1, none⟩ = some (.int .i64 (off : Int)) := h.blk.cell 1
theorem PsAt.free (h : PsAt w B b g cap src off) (j : Nat) : w.frozen? ⟨b, j, none⟩ = false := h.blk.free j
theorem PsAt.rune (h : PsAt w B b g cap src off) (j : Nat) (c : UInt8) (hj : src[j]? = some c) : w.cell? ⟨g, j, none⟩ = some (rn c) := by
  obtain ⟨C, fz, h1, h2⟩ := h.row
  simp [World.cell?, h1, h2 j c hj]
theorem PsAt.ne (h : PsAt w B b g cap src off) : g ≠ b := by
  obtain ⟨C, fz, h1, h2⟩ := h.row
  intro e
  have h3 := h.blk
  unfold AtB at h3
  rw [← e, h1] at h3
  simp at h3
theorem PsAt.only (h : PsAt w B b g cap src off) (k : Only b w w') (off' : Nat) (hle : off' ≤ src.length) (hb : AtB w' b 53 #[.slice (some ⟨g, 0, none⟩) src.length cap, .int .i64 (off' : Int)]) : PsAt w' B b g cap src off' :=
  ⟨hb, h.row.kept (k.block g h.row.lt h.ne), h.capL, h.capS, h.small, h.clean, hle, h.bb, Nat.le_trans h.bw k.size, fun W hW => h.tab W ((k.below h.bb h.bw).trans hW)⟩
theorem PsAt.below (h : PsAt w B b g cap src off) (k : Below w.heap.size w w') : PsAt w' B b g cap src off :=
  ⟨h.blk.below k, h.row.kept (k.block g h.row.lt), h.capL, h.capS, h.small, h.clean, h.le, h.bb, Nat.le_trans h.bw k.size, fun W hW => h.tab W ((k.mono h.bw).trans hW)⟩
theorem PsAt.set (h : PsAt w B b g cap src off) (off' : Nat) (hle : off' ≤ src.length) : PsAt (w.setCell ⟨b, 1, none⟩ (.int .i64 (off' : Int))) B b g cap src off' :=
  h.only ((Only.refl b w).setCell 1 _) off' hle (setCell_block h.blk)
theorem PsAt.alloc (h : PsAt w B b g cap src off) (o : Obj) : PsAt (w.alloc o) B b g cap src off := h.below ((Below.refl _ _).alloc (Nat.le_refl _) _)
theorem PsAt.drewN (h : PsAt w B b g cap src off) (n : Nat) : PsAt (w.drewN n) B b g cap src off := ⟨h.blk, h.row, h.capL, h.capS, h.small, h.clean, h.le, h.bb, h.bw, fun W hW => h.tab W ((show Below B w (w.drewN n) from ⟨rfl, rfl, rfl, Nat.le_refl _, fun _ _ => rfl⟩).trans hW)⟩
end

/-! ### The expressions -/
/-- Every block of these tags is kept. -/
def Kp (tags : List TypeId) (w w' : World) : Prop := ∀ k T C, T ∈ tags → AtB w k T C → AtB w' k T C
theorem Kp.of_below {tags : List TypeId} {w w' : World} (h : Below w.heap.size w w') : Kp tags w w' := fun _ _ _ _ hk => hk.below h
theorem Kp.of_only {tags : List TypeId} {w w' : World} {B b g cap off : Nat} {src : Bs} (hp : PsAt w B b g cap src off) (h : Only b w w') (ht : 53 ∉ tags) : Kp tags w w' := fun k T C hT hk =>
  hk.kept (h.block k hk.lt (hk.ne hp.blk fun e => ht (e ▸ hT)))
theorem Kp.trans {tags : List TypeId} {u v w : World} (h : Kp tags u v) (k : Kp tags v w) : Kp tags u w := fun i T C hT hi => k i T C hT (h i T C hT hi)
theorem Kp.mono {t t' : List TypeId} {w w' : World} (h : Kp t w w') (hs : ∀ x ∈ t', x ∈ t) : Kp t' w w' := fun k T C hT => h k T C (hs T hT)

def ptr (k : Nat) : Value := .pointer (some ⟨k, 0, none⟩)
def strV (v : Bs) : Value := .string ⟨v.toArray⟩
/-- Block k is the variable v. -/
def VarAt (w : World) (k : Nat) (v : Bs) : Prop := AtB w k 60 #[strV v]
theorem VarAt.only {w w' : World} {B b g cap off k : Nat} {src v : Bs} (h : VarAt w k v) (hp : PsAt w B b g cap src off) (ho : Only b w w') : VarAt w' k v :=
  AtB.kept h (ho.block k (AtB.lt h) (AtB.ne h hp.blk (by decide)))
theorem VarAt.below {w w' : World} {k : Nat} {v : Bs} (h : VarAt w k v) (hb : Below w.heap.size w w') : VarAt w' k v := AtB.below h hb
/-- The value v is the number i. -/
def IEAt (w : World) : Value → IE → Prop
  | v, .lit n => ∃ k, v = .iface 94 (ptr k) ∧ AtB w k 96 #[.int .i64 (n : Int)]
  | v, .len x => ∃ k kv, v = .iface 89 (ptr k) ∧ AtB w k 93 #[.iface 58 (ptr kv)] ∧ VarAt w kv x
  | v, .ite c t e => ∃ k kc vt ve, v = .iface 97 (ptr k) ∧ AtB w k 101 #[.iface 58 (ptr kc), vt, ve] ∧ VarAt w kc c ∧ IEAt w vt t ∧ IEAt w ve e
theorem IEAt.shape {w : World} {i : IE} {v : Value} (h : IEAt w v i) : ∃ T p, v = .iface T (.pointer (some p)) := by
  cases i with
  | lit n => obtain ⟨k, e, _⟩ := h; exact ⟨_, _, e⟩
  | len x => obtain ⟨k, kv, e, _⟩ := h; exact ⟨_, _, e⟩
  | ite c t f => obtain ⟨k, kc, vt, ve, e, _⟩ := h; exact ⟨_, _, e⟩
/-- The value v is the node a. -/
def NAAt (w : World) (v : Value) : NA → Prop
  | .var x => ∃ k, v = .iface 58 (ptr k) ∧ VarAt w k x
  | .last x => ∃ k kv, v = .iface 86 (ptr k) ∧ AtB w k 88 #[.iface 58 (ptr kv)] ∧ VarAt w kv x
  | .index x i => ∃ k kv vi, v = .iface 81 (ptr k) ∧ AtB w k 85 #[.iface 58 (ptr kv), vi] ∧ VarAt w kv x ∧ IEAt w vi i
/-- Values, one for each of a list. -/
def All2 {α : Type} (p : Value → α → Prop) : List Value → List α → Prop
  | [], [] => True
  | v :: vs, a :: xs => p v a ∧ All2 p vs xs
  | _, _ => False
/-- These values stand ahead in the row that is block g. -/
def RowOf (w : World) (g : Nat) (T : TypeId) (vs : List Value) : Prop := ∃ C : Array Value, AtB w g T C ∧ ∀ (j : Nat) (v : Value), vs[j]? = some v → C[j]? = some v
def NEAt (w : World) (v : Value) : NE → Prop
  | .one a => NAAt w v a
  | .many a l => ∃ k g cap vs, v = .iface 72 (ptr k) ∧ AtB w k 75 #[.slice (some ⟨g, 0, none⟩) (l.length + 1) cap] ∧ l.length + 1 ≤ cap ∧ RowOf w g 63 vs ∧ All2 (NAAt w) vs (a :: l)
def PAAt (w : World) (v : Value) : PA → Prop
  | .var x => ∃ k, v = .iface 58 (ptr k) ∧ VarAt w k x
  | .pos n => ∃ k vn, v = .iface 61 (ptr k) ∧ AtB w k 65 #[vn] ∧ NEAt w vn n
  | .fin n => ∃ k vn, v = .iface 66 (ptr k) ∧ AtB w k 67 #[vn] ∧ NEAt w vn n
/-- The value v is v0 with these numbers added. -/
def AddsAt (w : World) : Value → List IE → Value → Prop
  | v0, [], v => v = v0
  | v0, i :: r, v => ∃ k vi, AtB w k 80 #[v0, vi] ∧ IEAt w vi i ∧ AddsAt w (.iface 76 (ptr k)) r v
def PXAt (w : World) (v : Value) (x : PX) : Prop := ∃ v0, PAAt w v0 x.atom ∧ AddsAt w v0 x.adds v
def PCAt (w : World) (v : Value) (x : PC) : Prop :=
  (x.rest = [] ∧ PXAt w v x.first) ∨
  ∃ k g cap vs, x.rest ≠ [] ∧ v = .iface 68 (ptr k) ∧ AtB w k 71 #[.slice (some ⟨g, 0, none⟩) (x.rest.length + 1) cap] ∧ x.rest.length + 1 ≤ cap ∧ RowOf w g 39 vs ∧ All2 (PXAt w) vs (x.first :: x.rest)

/-- The tags of a node without a choice; of a position without one. -/
def tagsN : List TypeId := [60, 96, 93, 101, 88, 85]
def tagsP : List TypeId := tagsN ++ [75, 63, 65, 67, 80]

theorem IEAt.kept {w w' : World} (h : Kp tagsN w w') : ∀ {i : IE} {v : Value}, IEAt w v i → IEAt w' v i
  | .lit _, _, ⟨k, e, a⟩ => ⟨k, e, h _ _ _ (by decide) a⟩
  | .len _, _, ⟨k, kv, e, a, b⟩ => ⟨k, kv, e, h _ _ _ (by decide) a, h _ _ _ (by decide) b⟩
  | .ite _ _ _, _, ⟨k, kc, vt, ve, e, a, b, c, d⟩ => ⟨k, kc, vt, ve, e, h _ _ _ (by decide) a, h _ _ _ (by decide) b, IEAt.kept h c, IEAt.kept h d⟩
theorem NAAt.kept {w w' : World} (h : Kp tagsN w w') : ∀ {i : NA} {v : Value}, NAAt w v i → NAAt w' v i
  | .var _, _, ⟨k, e, a⟩ => ⟨k, e, h _ _ _ (by decide) a⟩
  | .last _, _, ⟨k, kv, e, a, b⟩ => ⟨k, kv, e, h _ _ _ (by decide) a, h _ _ _ (by decide) b⟩
  | .index _ _, _, ⟨k, kv, vi, e, a, b, c⟩ => ⟨k, kv, vi, e, h _ _ _ (by decide) a, h _ _ _ (by decide) b, c.kept h⟩
theorem All2.imp {α : Type} {p q : Value → α → Prop} (h : ∀ v a, p v a → q v a) : ∀ {vs : List Value} {xs : List α}, All2 p vs xs → All2 q vs xs
  | [], [], _ => trivial
  | _ :: _, _ :: _, k => ⟨h _ _ k.1, All2.imp h k.2⟩
  | [], _ :: _, k => k
  | _ :: _, [], k => k
theorem All2.length {α : Type} {p : Value → α → Prop} : ∀ {vs : List Value} {xs : List α}, All2 p vs xs → vs.length = xs.length
  | [], [], _ => rfl
  | _ :: _, _ :: _, k => by simp [All2.length k.2]
  | [], _ :: _, k => k.elim
  | _ :: _, [], k => k.elim
theorem All2.app {α : Type} {p : Value → α → Prop} : ∀ {vs us : List Value} {xs bs : List α}, All2 p vs xs → All2 p us bs → All2 p (vs ++ us) (xs ++ bs)
  | [], _, [], _, _, k => k
  | _ :: _, _, _ :: _, _, h, k => ⟨h.1, All2.app h.2 k⟩
  | [], _, _ :: _, _, h, _ => h.elim
  | _ :: _, _, [], _, h, _ => h.elim
theorem NEAt.kept {w w' : World} (h : Kp tagsP w w') : ∀ {i : NE} {v : Value}, NEAt w v i → NEAt w' v i
  | .one _, _, k => NAAt.kept (h.mono (by decide)) k
  | .many _ _, _, ⟨k, g, cap, vs, e, a, b, ⟨C, c, c'⟩, d⟩ => ⟨k, g, cap, vs, e, h _ _ _ (by decide) a, b, ⟨C, h _ _ _ (by decide) c, c'⟩, d.imp fun _ _ x => x.kept (h.mono (by decide))⟩
theorem PAAt.kept {w w' : World} (h : Kp tagsP w w') : ∀ {i : PA} {v : Value}, PAAt w v i → PAAt w' v i
  | .var _, _, ⟨k, e, a⟩ => ⟨k, e, h _ _ _ (by decide) a⟩
  | .pos _, _, ⟨k, vn, e, a, b⟩ => ⟨k, vn, e, h _ _ _ (by decide) a, b.kept h⟩
  | .fin _, _, ⟨k, vn, e, a, b⟩ => ⟨k, vn, e, h _ _ _ (by decide) a, b.kept h⟩
theorem AddsAt.kept {w w' : World} (h : Kp tagsP w w') : ∀ {l : List IE} {v0 v : Value}, AddsAt w v0 l v → AddsAt w' v0 l v
  | [], _, _, k => k
  | _ :: _, _, _, ⟨k, vi, a, b, c⟩ => ⟨k, vi, h _ _ _ (by decide) a, b.kept (h.mono (by decide)), AddsAt.kept h c⟩
theorem PXAt.kept {w w' : World} (h : Kp tagsP w w') {x : PX} {v : Value} : PXAt w v x → PXAt w' v x
  | ⟨v0, a, b⟩ => ⟨v0, a.kept h, b.kept h⟩
theorem AddsAt.snoc {w : World} {i : IE} {vi : Value} {k : Nat} : ∀ {l : List IE} {v0 v : Value}, AddsAt w v0 l v → AtB w k 80 #[v, vi] → IEAt w vi i → AddsAt w v0 (l ++ [i]) (.iface 76 (ptr k))
  | [], _, _, rfl, hk, hi => ⟨k, vi, hk, hi, rfl⟩
  | _ :: _, _, _, ⟨k', vi', a, b, c⟩, hk, hi => ⟨k', vi', a, b, AddsAt.snoc c hk hi⟩
theorem NAAt.shape {w : World} {i : NA} {v : Value} (h : NAAt w v i) : ∃ T p, v = .iface T (.pointer (some p)) := by
  cases i with
  | var x => obtain ⟨k, e, _⟩ := h; exact ⟨_, _, e⟩
  | last x => obtain ⟨k, kv, e, _⟩ := h; exact ⟨_, _, e⟩
  | index x i => obtain ⟨k, kv, vi, e, _⟩ := h; exact ⟨_, _, e⟩
theorem NEAt.shape {w : World} {i : NE} {v : Value} (h : NEAt w v i) : ∃ T p, v = .iface T (.pointer (some p)) := by
  cases i with
  | one a => exact NAAt.shape h
  | many a l => obtain ⟨k, g, cap, vs, e, _⟩ := h; exact ⟨_, _, e⟩
theorem PAAt.shape {w : World} {i : PA} {v : Value} (h : PAAt w v i) : ∃ T p, v = .iface T (.pointer (some p)) := by
  cases i with
  | var x => obtain ⟨k, e, _⟩ := h; exact ⟨_, _, e⟩
  | pos x => obtain ⟨k, kv, e, _⟩ := h; exact ⟨_, _, e⟩
  | fin x => obtain ⟨k, kv, e, _⟩ := h; exact ⟨_, _, e⟩
theorem AddsAt.shape {w : World} : ∀ {l : List IE} {v0 v : Value}, AddsAt w v0 l v → (∃ T p, v0 = .iface T (.pointer (some p))) → ∃ T p, v = .iface T (.pointer (some p))
  | [], _, _, h, k => by cases h; exact k
  | _ :: _, _, _, ⟨_, _, _, _, c⟩, _ => AddsAt.shape c ⟨_, _, rfl⟩
theorem PXAt.shape {w : World} {x : PX} {v : Value} (h : PXAt w v x) : ∃ T p, v = .iface T (.pointer (some p)) := by
  obtain ⟨v0, h1, h2⟩ := h
  exact h2.shape h1.shape

/-! ### Rows that grow -/
theorem own_tag_ne {w : World} {B e s n b : Nat} {v : Value} {xs : List Value} {C : Array Value} {T : TypeId} {fr : Nat × Nat} (h : w.ownsRow B e s v n xs) (hb : w.heap[b]? = some (.cells C T fr)) (hne : e ≠ T) : v.ownBlock ≠ some b := by
  rcases h.2 with ⟨rfl, _⟩ | ⟨g, cap, cur, rfl, _, hg, _⟩
  · simp [Value.ownBlock]
  · intro k
    simp [Value.ownBlock] at k
    subst k
    rw [hg] at hb
    cases hb
    exact hne rfl
theorem own_below {w w' : World} {B e s n : Nat} {v : Value} {xs : List Value} (h : w.ownsRow B e s v n xs) (hb : Below w.heap.size w w') : w'.ownsRow B e s v n xs :=
  h.kept (row := none) ⟨hb.os, hb.tape, hb.output, hb.size, fun k hk _ => hb.block k hk⟩ (by cases v.ownBlock <;> simp)
theorem own_only {w w' : World} {B0 B b g cap off e s n : Nat} {src : Bs} {v : Value} {xs : List Value} (h : w.ownsRow B e s v n xs) (hp : PsAt w B0 b g cap src off) (ho : Only b w w') (hne : e ≠ 53) : w'.ownsRow B e s v n xs :=
  h.kept (row := some b) ⟨ho.os, ho.tape, ho.output, ho.size, fun k hk hn => ho.block k hk (fun e => hn (by rw [e]))⟩ (Or.inr (own_tag_ne h hp.blk hne))
/-- What a row's growth keeps: every block of another tag. -/
theorem Kp.grown {tags : List TypeId} {w w' : World} {B e s n : Nat} {v : Value} {xs : List Value} (hr : w.ownsRow B e s v n xs) (h : w.grownBy w' v.ownBlock) (he : e ∉ tags) : Kp tags w w' := fun k T C hT hk =>
  AtB.kept hk (h.block k (AtB.lt hk) (fun e1 => own_tag_ne hr hk (fun e2 => he (e2 ▸ hT)) e1.symm))
theorem PsAt.grown {w w' : World} {B0 B b g cap off e s n : Nat} {src : Bs} {v : Value} {xs : List Value} (h : PsAt w B0 b g cap src off) (hr : w.ownsRow B e s v n xs) (hg : w.grownBy w' v.ownBlock) (hB : B0 ≤ B) (h1 : e ≠ 53) (h2 : e ≠ 21) : PsAt w' B0 b g cap src off := by
  have hb : Below B0 w w' := ⟨hg.os, hg.tape, hg.output, hg.size, fun k hk => by
    refine hg.block k (Nat.lt_of_lt_of_le hk h.bw) fun e1 => ?_
    have := (hr.lt k e1.symm).1
    omega⟩
  obtain ⟨C, fz, hC, _⟩ := id h.row
  exact ⟨AtB.kept h.blk (hg.block b (AtB.lt h.blk) fun e1 => own_tag_ne hr h.blk h1 e1.symm), h.row.kept (hg.block g h.row.lt fun e1 => own_tag_ne hr hC h2 e1.symm), h.capL, h.capS, h.small, h.clean, h.le, h.bb, Nat.le_trans h.bw hg.size, fun W hW => h.tab W (hb.trans hW)⟩
theorem Only.grown {u w w' : World} {b B e s n : Nat} {v : Value} {xs : List Value} (h : Only b u w) (hr : w.ownsRow B e s v n xs) (hg : w.grownBy w' v.ownBlock) (hB : u.heap.size ≤ B) : Only b u w' :=
  ⟨hg.os.trans h.os, hg.tape.trans h.tape, hg.output.trans h.output, Nat.le_trans h.size hg.size, fun k hk hb => (hg.block k (Nat.lt_of_lt_of_le hk h.size) fun e1 => by
    have := (hr.lt k e1.symm).1
    omega).trans (h.block k hk hb)⟩
theorem cells_new (w : World) (cs : Array Value) (T : TypeId) : ∀ (j : Nat) (u : Value), cs.toList[j]? = some u → (w.alloc (.cells cs T)).cell? ((⟨w.heap.size, 0, none⟩ : Addr).add j) = some u := by
  intro j u h
  rw [add_off, (atB_new w cs T).cell j]
  simpa using h
/-- A row of one, just made. -/
theorem own_one (w : World) (B : Nat) (e : TypeId) (x : Value) (h : B ≤ w.heap.size) : (w.alloc (.cells #[x] e)).ownsRow B e 1 (.slice (some ⟨w.heap.size, 0, none⟩) 1 1) 1 [x] :=
  ⟨rfl, Or.inr ⟨_, 1, #[x], rfl, h, by show (w.heap.push _)[w.heap.size]? = _; simp, Nat.le_refl _, by decide, rfl, rfl⟩⟩
theorem own_two (w : World) (B : Nat) (e : TypeId) (x y : Value) (h : B ≤ w.heap.size) : (w.alloc (.cells #[x, y] e)).ownsRow B e 1 (.slice (some ⟨w.heap.size, 0, none⟩) 2 2) 2 [x, y] :=
  ⟨rfl, Or.inr ⟨_, 2, #[x, y], rfl, h, by show (w.heap.push _)[w.heap.size]? = _; simp, Nat.le_refl _, by decide, rfl, rfl⟩⟩
theorem own_slice {w : World} {B e s n : Nat} {v : Value} {xs : List Value} (h : w.ownsRow B e s v n xs) (hn : 0 < n) : ∃ g cap, v = .slice (some ⟨g, 0, none⟩) n cap := by
  rcases h.2 with ⟨_, h0⟩ | ⟨g, cap, _, hv, _⟩
  · omega
  · exact ⟨g, cap, hv⟩
theorem rowOf_own {w : World} {B e n g cap : Nat} {xs : List Value} (h : w.ownsRow B e 1 (.slice (some ⟨g, 0, none⟩) n cap) n xs) : RowOf w g e xs ∧ n ≤ cap := by
  rcases h.2 with ⟨hv, _⟩ | ⟨g', cap', cur, hv, _, hg, h1, _, _, h2⟩
  · cases hv
  · cases hv
    refine ⟨⟨cur, hg, fun j v hj => ?_⟩, h1⟩
    rw [← h2, List.getElem?_take] at hj
    split at hj
    · simpa using hj
    · cases hj
end Go.Proofs.YthpianlilipggaaGreatDoor
