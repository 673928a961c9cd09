/- Blocks of bytes that a call makes ('[]byte(s)'): what they hold, a store into them, and the text that they give back. No condition. -/
import Derived.Test.YtkhjenlclpcehaaDoorWa
import Derived.Laws.IdiomStrings
import Derived.Lib.ConvBytes
namespace Go.Proofs.YtkhjenlclpcehaaDoor
open Go.RowKit Go.PlainAid

/-- Block g holds the bytes l at its head, and none of these cells is frozen. -/
def BytesAt (w : World) (g : Nat) (l : List UInt8) : Prop :=
  ∃ C N, w.heap[g]? = some (.cells C 5 (N, N + 1)) ∧ C.size = N ∧ l.length ≤ N ∧ ∀ j (h : j < l.length), C[j]? = some (.int .u8 ((l[j]'h).toNat : Int))

theorem BytesAt.lt {w : World} {g : Nat} {l : List UInt8} (h : BytesAt w g l) : g < w.heap.size := by
  obtain ⟨C, N, hg, _⟩ := h
  exact (Array.getElem?_eq_some_iff.1 hg).1

theorem BytesAt.cell {w : World} {g : Nat} {l : List UInt8} (h : BytesAt w g l) (j : Nat) (hj : j < l.length) : w.cell? ⟨g, j, none⟩ = some (.int .u8 ((l[j]'hj).toNat : Int)) := by
  obtain ⟨C, N, hg, hN, hl, hc⟩ := h
  simp [World.cell?, hg, hc j hj]

theorem BytesAt.notFrozen {w : World} {g : Nat} {l : List UInt8} (h : BytesAt w g l) (j : Nat) (hj : j < l.length) : w.frozen? ⟨g, j, none⟩ = false := by
  obtain ⟨C, N, hg, hN, hl, hc⟩ := h
  simp [World.frozen?, hg]
  omega

theorem setCell_block {w : World} {g : Nat} {C : Array Value} {T : TypeId} {fr : Nat × Nat} {j : Nat} {v : Value} (h : w.heap[g]? = some (.cells C T fr)) : (w.setCell ⟨g, j, none⟩ v).heap[g]? = some (.cells (C.set! j v) T fr) := by
  simp [World.setCell, Array.getElem?_modify, h]

theorem add_off (g j : Nat) : (⟨g, 0, none⟩ : Addr).add j = ⟨g, j, none⟩ := by unfold Addr.add; split <;> simp_all

theorem BytesAt.set {w : World} {g : Nat} {l : List UInt8} (h : BytesAt w g l) (j : Nat) (x : UInt8) : BytesAt (w.setCell ⟨g, j, none⟩ (.int .u8 (x.toNat : Int))) g (l.set j x) := by
  obtain ⟨C, N, hg, hN, hl, hc⟩ := h
  refine ⟨C.set! j (.int .u8 (x.toNat : Int)), N, setCell_block hg, by simp [hN], by simpa using hl, ?_⟩
  intro i hi
  have hi' : i < l.length := by simpa using hi
  by_cases e : j = i
  · subst e
    simp [Array.set!, show j < C.size by omega]
  · simp [Array.set!, e]
    rw [hc i hi']

theorem BytesAt.kept {w w' : World} {g : Nat} {l : List UInt8} (h : BytesAt w g l) (hb : w'.heap[g]? = w.heap[g]?) : BytesAt w' g l := by
  obtain ⟨C, N, hg, r⟩ := h
  exact ⟨C, N, by rw [hb, hg], r⟩

theorem BytesAt.below {w w' : World} {g B : Nat} {l : List UInt8} (h : BytesAt w g l) (hb : Below B w w') (hg : g < B) : BytesAt w' g l := h.kept (hb.block g hg)

/-- '[]byte(s)': the new block. -/
theorem bytesAt_new (w : World) (s : ByteArray) : BytesAt (Lib.bytesWorld w 5 s) w.heap.size s.data.toList := by
  refine ⟨_, _, Lib.bytesWorld_at_new w 5 s, rfl, ?_, ?_⟩
  · simp [Lib.bytesCells]
  · intro j hj
    have hj' : j < s.size := by simpa using hj
    simp [Lib.bytesCells, Array.getElem?_append, hj']

theorem below_bytesWorld (w : World) (s : ByteArray) : Below w.heap.size w (Lib.bytesWorld w 5 s) :=
  ⟨rfl, rfl, rfl, by rw [Lib.bytesWorld_size]; omega, fun k hk => Lib.bytesWorld_at_old w 5 s k hk⟩

/-- 'string(b)' of such a block. -/
theorem run_bytes_back {w : World} {g : Nat} {l : List UInt8} (h : BytesAt w g l) (cap : Nat) :
    (convert 38 9 (.slice (some ⟨g, 0, none⟩) l.length cap)).run Tryd.prog w = .ok (.string ⟨l.toArray⟩) w :=
  run_convert_bytes_back w 38 9 5 ⟨g, 0, none⟩ cap l Tryd.underlying38 Tryd.underlying5 Tryd.underlying9 (fun j hj => by
    rw [add_off]
    exact h.cell j hj)

theorem run_bytes_of (w : World) (s : ByteArray) :
    (convert 9 38 (.string s)).run Tryd.prog w = .ok (.slice (some ⟨w.heap.size, 0, none⟩) s.size (grownCap w s.size 0 5)) (Lib.bytesWorld w 5 s) :=
  Lib.run_convert_string_bytes w 9 38 5 s Tryd.underlying9 Tryd.underlying38 Tryd.underlying5
end Go.Proofs.YtkhjenlclpcehaaDoor
