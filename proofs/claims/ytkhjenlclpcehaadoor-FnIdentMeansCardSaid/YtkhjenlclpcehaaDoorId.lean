/- A row of bytes that a call owns and whose mark, if any, lies at or behind its capacity ('[]byte(s)'): a byte is appended to it. No condition. -/
import Derived.Test.YtkhjenlclpcehaaDoorBa
import Derived.Laws.Append
import Derived.Laws.AppendOwn
import Derived.Lib.AppendZeros
namespace Go.Proofs.YtkhjenlclpcehaaDoor
open Go.RowKit Go.PlainAid

def byteCells (l : List UInt8) : List Value := l.map fun b => .int .u8 (b.toNat : Int)
theorem byteCells_len (l : List UInt8) : (byteCells l).length = l.length := by simp [byteCells]
theorem byteCells_app (l m : List UInt8) : byteCells (l ++ m) = byteCells l ++ byteCells m := by simp [byteCells]

/-- v is the slice of the bytes l at the head of a block from base on; what may be written over is no text. -/
def MarkRow (w : World) (base : Nat) (v : Value) (l : List UInt8) : Prop :=
  ∃ g cap C fz, v = .slice (some ⟨g, 0, none⟩) l.length cap ∧ base ≤ g ∧ w.heap[g]? = some (.cells C 5 fz) ∧ (fz = (0, 0) ∨ cap ≤ fz.1) ∧ l.length ≤ cap ∧ cap ≤ maxLen ∧ C.size = cap ∧ C.toList.take l.length = byteCells l

theorem MarkRow.kept {w w' : World} {base : Nat} {v : Value} {l : List UInt8} (h : MarkRow w base v l) (hb : Below w.heap.size w w') : MarkRow w' base v l := by
  obtain ⟨g, cap, C, fz, hv, hB, hg, r⟩ := h
  exact ⟨g, cap, C, fz, hv, hB, by rw [hb.block g (Array.getElem?_eq_some_iff.1 hg).1]; exact hg, r⟩
theorem MarkRow.lt {w : World} {base : Nat} {v : Value} {l : List UInt8} (h : MarkRow w base v l) : ∀ k, v.ownBlock = some k → base ≤ k ∧ k < w.heap.size := by
  obtain ⟨g, cap, C, fz, rfl, hB, hg, r⟩ := h
  intro k hk
  simp [Value.ownBlock] at hk
  subst hk
  exact ⟨hB, (Array.getElem?_eq_some_iff.1 hg).1⟩
theorem MarkRow.cells {w : World} {base : Nat} {l : List UInt8} {g n cap : Nat} (h : MarkRow w base (.slice (some ⟨g, 0, none⟩) n cap) l) (j : Nat) (hj : j < l.length) : w.cell? ((⟨g, 0, none⟩ : Addr).add j) = some (.int .u8 ((l[j]'hj).toNat : Int)) := by
  obtain ⟨g', cap', C, fz, hv, hB, hg, hf, hl, hm, hs, ht⟩ := h
  simp at hv
  obtain ⟨rfl, _, _⟩ := hv
  rw [add_off, cell_of_row w g j C 5 fz hg]
  have h1 : (C.toList.take l.length)[j]? = (byteCells l)[j]? := by rw [ht]
  rw [List.getElem?_take, if_pos hj] at h1
  simp [byteCells, hj] at h1
  simpa using h1

theorem markRow_new (w : World) (base : Nat) (s : ByteArray) (hb : base ≤ w.heap.size) (hs : s.size ≤ maxLen) : MarkRow (Lib.bytesWorld w 5 s) base (.slice (some ⟨w.heap.size, 0, none⟩) s.size (grownCap w s.size 0 5)) s.data.toList := by
  have hge := grownCap_ge w s.size 0 5
  have hN : (Lib.bytesCells w 5 s).size = grownCap w s.size 0 5 := by
    have : s.data.size = s.size := rfl
    simp [Lib.bytesCells]; omega
  have hl : s.data.toList.length = s.size := by simp
  refine ⟨w.heap.size, grownCap w s.size 0 5, Lib.bytesCells w 5 s, _, ?_, hb, Lib.bytesWorld_at_new w 5 s, Or.inr (by rw [hN]; exact Nat.le_refl _), ?_, grownCap_le_maxLen w s.size 0 _ hs, hN, ?_⟩
  · rw [hl]
  · rw [hl]; exact hge
  · rw [hl]
    simp only [Lib.bytesCells, Array.toList_append, byteCells, Array.toList_map]
    rw [List.take_append_of_le_length (by simp)]
    rw [List.take_of_length_le (by simp)]

theorem info_u8 : (Tryd.prog.info? 5).map (fun i => (i.zero, i.size, i.bytes)) = some (some (.int .u8 0), 1, 1) := by kernel_rfl

theorem run_append_mark (w : World) (ty base : Nat) (v : Value) (l : List UInt8) (x : UInt8) (h : MarkRow w base v l) (hB : base ≤ w.heap.size) (hlen : l.length + 1 ≤ 1099511627776) (ad : Addr) (c : Nat) (hx : w.cell? (ad.add 0) = some (.int .u8 (x.toNat : Int))) :
    ∃ v' w', (Builtin.append_ #[38, 38] ty #[v, .slice (some ad) 1 c]).run Tryd.prog w = .ok v' w' ∧ MarkRow w' base v' (l ++ [x]) ∧ w.grownBy w' v.ownBlock := by
  obtain ⟨i, hi, hz, hsz, hby⟩ := info_parts info_u8
  have hu : Tryd.prog.underlying 38 = some (.slice 5) := Tryd.underlying38
  have hh := h
  obtain ⟨g, cap, C, fz, rfl, hg0, hg, hf, hl, hm, hs, ht⟩ := h
  have hnews : ∀ j u, [Value.int .u8 (x.toNat : Int)][j]? = some u → w.cell? (ad.add j) = some u := by
    intro j u hj
    cases j with
    | zero => simp at hj; rw [← hj]; exact hx
    | succ j => simp at hj
  by_cases hroom : l.length + 1 ≤ cap
  · have hlt : l.length < C.size := by omega
    have hfro : w.frozen? ⟨g, l.length, none⟩ = false := by
      simp only [World.frozen?, hg]
      rcases hf with rfl | hf
      · simp
      · simp; omega
    have hcell : w.cell? ⟨g, l.length, none⟩ = some C[l.length] := by simp [World.cell?, hg, hlt]
    have hst : (storeCells ⟨g, l.length, none⟩ [Value.int .u8 (x.toNat : Int)] 0).run Tryd.prog w = .ok () (w.setRow g (C.setIfInBounds l.length (.int .u8 (x.toNat : Int)))) := by
      have h0 : (⟨g, l.length, none⟩ : Addr).add 0 = ⟨g, l.length, none⟩ := by unfold Addr.add; split <;> simp_all
      have h1 : (store ((⟨g, l.length, none⟩ : Addr).add 0) (.int .u8 (x.toNat : Int))).run Tryd.prog w = .ok () (w.setRow g (C.setIfInBounds l.length (.int .u8 (x.toNat : Int)))) := by
        rw [h0, run_store Tryd.prog w _ (.int .u8 (x.toNat : Int)) _ rfl, hcell]
        simp [hfro, setCell_eq_setRow w g l.length C 5 fz _ hg]
      simp only [storeCells, Sem.run_bind, h1, Result.andThen_ok]
      rfl
    have hfc := run_firstCells_some (P := Tryd.prog) w i.size 1 ad 1 c [Value.int .u8 (x.toNat : Int)] (by rw [hsz]; rfl) hnews
    have hr : (Builtin.append_ #[38, 38] ty #[.slice (some ⟨g, 0, none⟩) l.length cap, .slice (some ad) 1 c]).run Tryd.prog w = .ok (.slice (some ⟨g, 0, none⟩) (l.length + 1) cap) (w.setRow g (C.setIfInBounds l.length (.int .u8 (x.toNat : Int)))) := by
      rw [hsz] at hfc
      simp [Builtin.append_, run_underlying hu, sizeOf, typeInfo, hi, hsz, Builtin.lenOf, hroom, hfc, Addr.add_lit, hst]
    refine ⟨_, _, hr, ⟨g, cap, _, fz, by simp, hg0, setRow_heap w g C _ 5 _ hg, hf, by simpa using hroom, hm, by simpa using hs, ?_⟩, ⟨rfl, rfl, rfl, by simp, fun k _ hk => setRow_other w g k _ (fun e => hk (by simp [Value.ownBlock, e]))⟩⟩
    rw [Array.toList_setIfInBounds, byteCells_app, ← ht]
    simp only [List.length_append, List.length_singleton]
    rw [List.take_succ_eq_append_getElem (by simpa using hlt)]
    simp [byteCells, List.take_set_of_le]
  · have holds : ∀ j u, (byteCells l)[j]? = some u → w.cell? ((⟨g, 0, none⟩ : Addr).add j) = some u := by
      intro j u hj
      have hj2 : j < l.length := by have := (List.getElem?_eq_some_iff.1 hj).1; rwa [byteCells_len] at this
      rw [hh.cells j hj2]
      simpa [byteCells, hj2] using hj
    have hge := grownCap_ge w (l.length + 1) cap 5
    have hcm2 := grownCap_le_maxLen w (l.length + 1) cap 5 (by unfold maxLen; omega)
    have hr := run_append_grow (P := Tryd.prog) w 38 ty 5 i (.int .u8 0) hu hi hz ⟨g, 0, none⟩ l.length cap (byteCells l) (by rw [hsz, byteCells_len]; omega) holds ad 1 c [.int .u8 (x.toNat : Int)] (by rw [hsz]; rfl) hnews (by omega) (by omega) (growslice_fits (by omega) (by rw [hby]; omega))
    refine ⟨_, _, hr, ⟨w.heap.size, _, _, (0, 0), by simp, hB, heap_alloc_new w.drew _, Or.inl rfl, by simpa using hge, hcm2, ?_, ?_⟩, ⟨rfl, rfl, rfl, by simp, fun k hk _ => heap_alloc_old w.drew _ hk⟩⟩
    · simp only [Array.size_append, List.size_toArray, size_zeroCells, byteCells_len, List.length_singleton]
      have : (Value.int .u8 0).cells.size = 1 := rfl
      rw [this]; omega
    · rw [byteCells_app]
      simp only [Array.toList_append, List.length_append, List.length_singleton]
      rw [List.take_append_of_le_length (by simp [byteCells_len])]
      rw [List.take_of_length_le (by simp [byteCells_len])]
      rfl
theorem wpList_append_mark {ops : Array Oper} {rest : List Oper} {o : Oper} {a : Act} {Q : Exit → Act → World → Prop} (w : World) (hgd : o.guard = none) (s x : Operand)
    (ho : o.op = .call { callee := .builtin .append, args := #[s, x], argTypes := #[38, 38] }) (base : Nat) (v : Value) (l : List UInt8) (b : UInt8) (hs : a.eval s = v) (h : MarkRow w base v l) (hB : base ≤ w.heap.size) (hlen : l.length + 1 ≤ 1099511627776) (ad : Addr) (c : Nat)
    (hx : a.eval x = .slice (some ad) 1 c) (hb : w.cell? (ad.add 0) = some (.int .u8 (b.toNat : Int)))
    (hk : ∀ v' w', MarkRow w' base v' (l ++ [b]) → w.grownBy w' v.ownBlock → wpList Tryd.prog ops Q rest (a.put o.dst v') w') : wpList Tryd.prog ops Q (o :: rest) a w := by
  obtain ⟨v', w', hr, hm, hg⟩ := run_append_mark w o.type base v l b h hB hlen ad c hb
  exact Lib.wpList_append_run w hgd s x _ _ ho v _ hs hx v' w' hr (hk v' w' hm hg)
end Go.Proofs.YtkhjenlclpcehaaDoor
