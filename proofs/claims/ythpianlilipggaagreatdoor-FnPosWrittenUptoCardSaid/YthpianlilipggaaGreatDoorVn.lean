/- Calls through the interfaces of the language of positions: a law for the walk. No condition. -/
import Derived.Test.YthpianlilipggaaGreatDoorVm
import Derived.Deep.RegionHeld3
namespace Go.Proofs.YthpianlilipggaaGreatDoor
open Go.RowKit Go.PlainAid

/-- A text of which Q speaks is returned; memory is made only. -/
def Ret (Q : ByteArray → Prop) (w : World) (e : Ending) (w' : World) : Prop := ∃ s, e = .returned (.string s) ∧ Q s ∧ Below w.heap.size w w'
/-- In every later world the value's method of this name, called with these values, returns a text of which Q speaks. -/
def Sp (w : World) (name : String) (args : Array Value) (v : Value) (Q : ByteArray → Prop) : Prop :=
  ∃ T p f, v = .iface T (.pointer (some p)) ∧ (∀ W, (callMethod (.iface T (.pointer (some p))) name args).run Tryz.prog W = .ok (.enter f (#[.pointer (some p)] ++ args)) W) ∧
    ∀ W, Below w.heap.size w W → Calls Tryz.prog f (#[.pointer (some p)] ++ args) W (Ret Q W)
theorem Sp.shape {w : World} {name : String} {args : Array Value} {v : Value} {Q : ByteArray → Prop} (h : Sp w name args v Q) : ∃ T p, v = .iface T (.pointer (some p)) := by
  obtain ⟨T, p, f, e, _⟩ := h
  exact ⟨T, p, e⟩
theorem Sp.below {w w' : World} {name : String} {args : Array Value} {v : Value} {Q : ByteArray → Prop} (h : Sp w name args v Q) (hb : Below w.heap.size w w') : Sp w' name args v Q := by
  obtain ⟨T, p, f, e, h1, h2⟩ := h
  exact ⟨T, p, f, e, h1, fun W hW => h2 W (hb.trans (hW.mono hb.size))⟩
theorem Sp.imp {w : World} {name : String} {args : Array Value} {v : Value} {Q Q' : ByteArray → Prop} (h : Sp w name args v Q) (hq : ∀ s, Q s → Q' s) : Sp w name args v Q' := by
  obtain ⟨T, p, f, e, h1, h2⟩ := h
  exact ⟨T, p, f, e, h1, fun W hW => (h2 W hW).mono fun e w' ⟨s, k1, k2, k3⟩ => ⟨s, k1, hq s k2, k3⟩⟩
theorem run_invoke {o : Oper} {a : Act} (recv : Operand) (name : String) (ops : Array Operand) (tys : Array TypeId) (ho : o.op = .call { callee := .invoke recv name, args := ops, argTypes := tys })
    (v : Value) (args : Array Value) (hv : a.eval recv = v) (ha : ops.map a.eval = args) (w : World) : (execOp a.eval o).run Tryz.prog w = (callMethod v name args).run Tryz.prog w := by
  unfold execOp
  rw [ho]
  simp only [resolve, Sem.run_bind, Sem.run_pure, Result.andThen, hv, ha]
  have e0 : (#[v] ++ args)[0]? = some v := by rw [Array.getElem?_append_left (by simp)]; rfl
  have e1 : (#[v] ++ args).extract 1 (#[v] ++ args).size = args := by
    apply Array.ext'
    simp
  simp only [invoke, e0, e1]
theorem wp_invoke {o : Oper} {a : Act} {w : World} {K : Act → World → Prop} {Q : Exit → Act → World → Prop} (recv : Operand) (name : String) (ops : Array Operand) (tys : Array TypeId) (ho : o.op = .call { callee := .invoke recv name, args := ops, argTypes := tys })
    (w0 : World) (v : Value) (args : Array Value) (Q1 : ByteArray → Prop) (hv : a.eval recv = v) (ha : ops.map a.eval = args) (hsp : Sp w0 name args v Q1) (hb : Below w0.heap.size w0 w)
    (h : ∀ s w', Q1 s → Below w.heap.size w w' → K (a.put o.dst (.string s)) w') : Oper.wp Tryz.prog o a w K Q := by
  obtain ⟨T, p, f, e, h1, h2⟩ := hsp
  unfold Oper.wp
  rw [run_invoke recv name ops tys ho v args hv ha w, e, h1 w, Oper.upon_enter]
  refine (h2 w hb).mono ?_
  rintro e1 w' ⟨s, rfl, k2, k3⟩
  exact h s w' k2 k3
theorem wpList_invoke {ops : Array Oper} {rest : List Oper} {o : Oper} {a : Act} {w : World} {Q : Exit → Act → World → Prop} (hgd : o.guard = none) (recv : Operand) (name : String) (opr : Array Operand) (tys : Array TypeId) (ho : o.op = .call { callee := .invoke recv name, args := opr, argTypes := tys })
    (w0 : World) (v : Value) (args : Array Value) (Q1 : ByteArray → Prop) (hv : a.eval recv = v) (ha : opr.map a.eval = args) (hsp : Sp w0 name args v Q1) (hb : Below w0.heap.size w0 w)
    (h : ∀ s w', Q1 s → Below w.heap.size w w' → wpList Tryz.prog ops Q rest (a.put o.dst (.string s)) w') : wpList Tryz.prog ops Q (o :: rest) a w :=
  wpList_plain hgd fun _ hK => wp_invoke recv name opr tys ho w0 v args Q1 hv ha hsp hb fun s w' k1 k2 => hK _ _ (h s w' k1 k2)
theorem step_invoke {ops : Array Oper} {o : Oper} {a : Act} {w : World} {K : Act → World → Prop} {Q : Exit → Act → World → Prop} {E : Prop} (hgd : o.guard = none) (recv : Operand) (name : String) (opr : Array Operand) (tys : Array TypeId) (ho : o.op = .call { callee := .invoke recv name, args := opr, argTypes := tys })
    (w0 : World) (v : Value) (args : Array Value) (Q1 : ByteArray → Prop) (hv : a.eval recv = v) (ha : opr.map a.eval = args) (hsp : Sp w0 name args v Q1) (hb : Below w0.heap.size w0 w)
    (h : ∀ s w', Q1 s → Below w.heap.size w w' → K (a.put o.dst (.string s)) w') : if Region.wanted o (yielded ops a.tmps) = true then Oper.wp Tryz.prog o a w K Q else E := by
  have hw : Region.wanted o (yielded ops a.tmps) = true := by simp [Region.wanted, hgd]
  rw [if_pos hw]
  exact wp_invoke recv name opr tys ho w0 v args Q1 hv ha hsp hb h

/-- A known method. -/
theorem sp_mk {w : World} {name : String} {args : Array Value} {Q : ByteArray → Prop} (T : TypeId) (k f : Nat) (hm : ∀ (p : Addr) W, (callMethod (.iface T (.pointer (some p))) name args).run Tryz.prog W = .ok (.enter f (#[.pointer (some p)] ++ args)) W)
    (h : ∀ W, Below w.heap.size w W → Calls Tryz.prog f (#[ptr k] ++ args) W (Ret Q W)) : Sp w name args (.iface T (ptr k)) Q :=
  ⟨T, _, f, rfl, hm _, h⟩
/-- What a region reads of a block of two, kept while memory is made. -/
theorem two_keep {w w' : World} {k : Nat} {T : TypeId} {a b : Value} (h : AtB w k T #[a, b]) (hb : Below w.heap.size w w') : w'.cell? ⟨k, 0, none⟩ = some a ∧ w'.cell? ⟨k, 1, none⟩ = some b ∧ Below w.heap.size w w' :=
  ⟨(h.below hb).cell 0, (h.below hb).cell 1, hb⟩
theorem three_keep {w w' : World} {k : Nat} {T : TypeId} {a b c : Value} (h : AtB w k T #[a, b, c]) (hb : Below w.heap.size w w') : w'.cell? ⟨k, 0, none⟩ = some a ∧ w'.cell? ⟨k, 1, none⟩ = some b ∧ w'.cell? ⟨k, 2, none⟩ = some c ∧ Below w.heap.size w w' :=
  ⟨(h.below hb).cell 0, (h.below hb).cell 1, (h.below hb).cell 2, hb⟩
theorem two_below {w W : World} {k : Nat} {a b : Value} (h : W.cell? ⟨k, 0, none⟩ = some a ∧ W.cell? ⟨k, 1, none⟩ = some b ∧ Below w.heap.size w W) : Below w.heap.size w W := h.2.2
theorem three_below {w W : World} {k : Nat} {a b c : Value} (h : W.cell? ⟨k, 0, none⟩ = some a ∧ W.cell? ⟨k, 1, none⟩ = some b ∧ W.cell? ⟨k, 2, none⟩ = some c ∧ Below w.heap.size w W) : Below w.heap.size w W := h.2.2.2
theorem below_drew {w w' : World} {B : Nat} (h : Below B w w') : Below B w w'.drew := ⟨h.os, h.tape, h.output, h.size, h.block⟩
theorem below_next {w w' w2 : World} {B : Nat} (h : Below B w w') (h2 : Below w'.heap.size w' w2) (hB : B ≤ w.heap.size) : Below B w w2 := h.trans (h2.mono (Nat.le_trans hB h.size))
end Go.Proofs.YthpianlilipggaaGreatDoor
