/- The reference's token in memory: one block of eight cells; stores into it; and the frame 'only this block may have changed'. No condition. -/
import Derived.Test.YtkhjenlclpcehaaDoorBa
namespace Go.Proofs.YtkhjenlclpcehaaDoor
open Go.RowKit Go.PlainAid

/-- But for block b (and what is new), the world is as it was. -/
structure Only (b : Nat) (w w' : World) : Prop where
  os : w'.os = w.os
  tape : w'.tape = w.tape
  output : w'.output = w.output
  size : w.heap.size ≤ w'.heap.size
  block : ∀ k, k < w.heap.size → k ≠ b → w'.heap[k]? = w.heap[k]?

theorem Only.refl (b : Nat) (w : World) : Only b w w := ⟨rfl, rfl, rfl, Nat.le_refl _, fun _ _ _ => rfl⟩
theorem Only.trans {b : Nat} {u v w : World} (h : Only b u v) (k : Only b v w) : Only b u w :=
  ⟨k.os.trans h.os, k.tape.trans h.tape, k.output.trans h.output, Nat.le_trans h.size k.size, fun i hi hb => (k.block i (Nat.lt_of_lt_of_le hi h.size) hb).trans (h.block i hi hb)⟩
theorem Only.of_below {b : Nat} {w w' : World} (h : Below w.heap.size w w') : Only b w w' := ⟨h.os, h.tape, h.output, h.size, fun k hk _ => h.block k hk⟩
theorem Only.setCell {b : Nat} {u w : World} (h : Only b u w) (j : Nat) (v : Value) : Only b u (w.setCell ⟨b, j, none⟩ v) :=
  h.trans ⟨rfl, rfl, rfl, by simp [World.setCell], fun k _ hb => Below.heap_setCell _ _ _ _ hb⟩
theorem Only.alloc {b : Nat} {u w : World} (h : Only b u w) (o : Obj) : Only b u (w.alloc o) :=
  h.trans ⟨rfl, rfl, rfl, by simp, fun k hk _ => Below.heap_alloc _ _ _ hk⟩
theorem Only.drew {b : Nat} {u w : World} (h : Only b u w) : Only b u w.drew := ⟨h.os, h.tape, h.output, h.size, h.block⟩
theorem Only.below {b B : Nat} {w w' : World} (h : Only b w w') (hb : B ≤ b) (hB : B ≤ w.heap.size) : Below B w w' :=
  ⟨h.os, h.tape, h.output, h.size, fun k hk => h.block k (by omega) (by omega)⟩

/-- What a token holds. -/
structure TokS where
  kind : ByteArray
  space : ByteArray
  raw : ByteArray
  text : ByteArray
  base : Int
  pos : Int
  stop : Int
  cm : Value

def TokAt (w : World) (b : Nat) (x : TokS) : Prop :=
  w.heap[b]? = some (.cells #[.string x.kind, .string x.space, .string x.raw, .string x.text, .int .i64 x.base, .int .i64 x.pos, .int .i64 x.stop, x.cm] 30 (0, 0))

section
variable {w : World} {b : Nat} {x : TokS}
theorem TokAt.lt (h : TokAt w b x) : b < w.heap.size := (Array.getElem?_eq_some_iff.1 h).1
theorem TokAt.free (h : TokAt w b x) (j : Nat) : w.frozen? ⟨b, j, none⟩ = false := by
  unfold TokAt at h
  simp [World.frozen?, h]
theorem TokAt.cell0 (h : TokAt w b x) : w.cell? ⟨b, 0, none⟩ = some (.string x.kind) := by unfold TokAt at h; simp [World.cell?, h]
theorem TokAt.cell1 (h : TokAt w b x) : w.cell? ⟨b, 1, none⟩ = some (.string x.space) := by unfold TokAt at h; simp [World.cell?, h]
theorem TokAt.cell2 (h : TokAt w b x) : w.cell? ⟨b, 2, none⟩ = some (.string x.raw) := by unfold TokAt at h; simp [World.cell?, h]
theorem TokAt.cell3 (h : TokAt w b x) : w.cell? ⟨b, 3, none⟩ = some (.string x.text) := by unfold TokAt at h; simp [World.cell?, h]
theorem TokAt.cell4 (h : TokAt w b x) : w.cell? ⟨b, 4, none⟩ = some (.int .i64 x.base) := by unfold TokAt at h; simp [World.cell?, h]
theorem TokAt.cell5 (h : TokAt w b x) : w.cell? ⟨b, 5, none⟩ = some (.int .i64 x.pos) := by unfold TokAt at h; simp [World.cell?, h]
theorem TokAt.cell6 (h : TokAt w b x) : w.cell? ⟨b, 6, none⟩ = some (.int .i64 x.stop) := by unfold TokAt at h; simp [World.cell?, h]
theorem TokAt.cell7 (h : TokAt w b x) : w.cell? ⟨b, 7, none⟩ = some x.cm := by unfold TokAt at h; simp [World.cell?, h]
theorem TokAt.setKind (h : TokAt w b x) (k : ByteArray) : TokAt (w.setCell ⟨b, 0, none⟩ (.string k)) b { x with kind := k } := setCell_block h
theorem TokAt.setSpace (h : TokAt w b x) (k : ByteArray) : TokAt (w.setCell ⟨b, 1, none⟩ (.string k)) b { x with space := k } := setCell_block h
theorem TokAt.setRaw (h : TokAt w b x) (k : ByteArray) : TokAt (w.setCell ⟨b, 2, none⟩ (.string k)) b { x with raw := k } := setCell_block h
theorem TokAt.setText (h : TokAt w b x) (k : ByteArray) : TokAt (w.setCell ⟨b, 3, none⟩ (.string k)) b { x with text := k } := setCell_block h
theorem TokAt.setBase (h : TokAt w b x) (k : Int) : TokAt (w.setCell ⟨b, 4, none⟩ (.int .i64 k)) b { x with base := k } := setCell_block h
theorem TokAt.setPos (h : TokAt w b x) (k : Int) : TokAt (w.setCell ⟨b, 5, none⟩ (.int .i64 k)) b { x with pos := k } := setCell_block h
theorem TokAt.setStop (h : TokAt w b x) (k : Int) : TokAt (w.setCell ⟨b, 6, none⟩ (.int .i64 k)) b { x with stop := k } := setCell_block h
theorem TokAt.setCm (h : TokAt w b x) (k : Value) : TokAt (w.setCell ⟨b, 7, none⟩ k) b { x with cm := k } := setCell_block h
theorem TokAt.kept {w' : World} (h : TokAt w b x) (k : w'.heap[b]? = w.heap[b]?) : TokAt w' b x := by unfold TokAt at *; rw [k, h]
theorem TokAt.below {w' : World} (h : TokAt w b x) (k : Below w.heap.size w w') : TokAt w' b x := h.kept (k.block b h.lt)
end
end Go.Proofs.YtkhjenlclpcehaaDoor
