/- Which function each method of the language of positions is. No condition. -/
import Derived.Test.YthpianlilipggaaGreatDoorVs
namespace Go.Proofs.YthpianlilipggaaGreatDoor
open Go.RowKit Go.PlainAid

theorem cat0 (a : Value) : (#[a] ++ #[] : Array Value) = #[a] := by simp
theorem cat1 (a b : Value) : (#[a] ++ #[b] : Array Value) = #[a, b] := by simp
theorem Ret.imp {Q Q' : ByteArray → Prop} {w : World} {e : Ending} {w' : World} (h : Ret Q w e w') (hq : ∀ s, Q s → Q' s) : Ret Q' w e w' := by
  obtain ⟨s, h1, h2, h3⟩ := h
  exact ⟨s, h1, hq s h2, h3⟩
theorem sp_mk0 {w : World} {name : String} {Q : ByteArray → Prop} {T : TypeId} {k f : Nat} (hm : ∀ (p : Addr) W, (callMethod (.iface T (.pointer (some p))) name #[]).run Tryz.prog W = .ok (.enter f #[.pointer (some p)]) W)
    (h : ∀ W, Below w.heap.size w W → Calls Tryz.prog f #[ptr k] W (Ret Q W)) : Sp w name #[] (.iface T (ptr k)) Q :=
  ⟨T, _, f, rfl, fun W => by rw [cat0]; exact hm _ W, fun W hW => by rw [cat0]; exact h W hW⟩
theorem sp_mk1 {w : World} {name : String} {x : Value} {Q : ByteArray → Prop} {T : TypeId} {k f : Nat} (hm : ∀ (p : Addr) W, (callMethod (.iface T (.pointer (some p))) name #[x]).run Tryz.prog W = .ok (.enter f #[.pointer (some p), x]) W)
    (h : ∀ W, Below w.heap.size w W → Calls Tryz.prog f #[ptr k, x] W (Ret Q W)) : Sp w name #[x] (.iface T (ptr k)) Q :=
  ⟨T, _, f, rfl, fun W => by rw [cat1]; exact hm _ W, fun W hW => by rw [cat1]; exact h W hW⟩

theorem is_Var_Unparse (p : Addr) (W : World) : (callMethod (.iface 58 (.pointer (some p))) "Unparse" #[]).run Tryz.prog W = .ok (.enter 84 #[.pointer (some p)]) W := by kernel_rfl
theorem is_NodePos_Unparse (p : Addr) (W : World) : (callMethod (.iface 61 (.pointer (some p))) "Unparse" #[]).run Tryz.prog W = .ok (.enter 86 #[.pointer (some p)]) W := by kernel_rfl
theorem is_NodeEnd_Unparse (p : Addr) (W : World) : (callMethod (.iface 66 (.pointer (some p))) "Unparse" #[]).run Tryz.prog W = .ok (.enter 88 #[.pointer (some p)]) W := by kernel_rfl
theorem is_PosChoice_Unparse (p : Addr) (W : World) : (callMethod (.iface 68 (.pointer (some p))) "Unparse" #[]).run Tryz.prog W = .ok (.enter 90 #[.pointer (some p)]) W := by kernel_rfl
theorem is_NodeChoice_Unparse (p : Addr) (W : World) : (callMethod (.iface 72 (.pointer (some p))) "Unparse" #[]).run Tryz.prog W = .ok (.enter 100 #[.pointer (some p)]) W := by kernel_rfl
theorem is_PosAdd_Unparse (p : Addr) (W : World) : (callMethod (.iface 76 (.pointer (some p))) "Unparse" #[]).run Tryz.prog W = .ok (.enter 102 #[.pointer (some p)]) W := by kernel_rfl
theorem is_NodeSliceIndex_Unparse (p : Addr) (W : World) : (callMethod (.iface 81 (.pointer (some p))) "Unparse" #[]).run Tryz.prog W = .ok (.enter 104 #[.pointer (some p)]) W := by kernel_rfl
theorem is_NodeSliceLast_Unparse (p : Addr) (W : World) : (callMethod (.iface 86 (.pointer (some p))) "Unparse" #[]).run Tryz.prog W = .ok (.enter 106 #[.pointer (some p)]) W := by kernel_rfl
theorem is_Len_Unparse (p : Addr) (W : World) : (callMethod (.iface 89 (.pointer (some p))) "Unparse" #[]).run Tryz.prog W = .ok (.enter 108 #[.pointer (some p)]) W := by kernel_rfl
theorem is_IntLiteral_Unparse (p : Addr) (W : World) : (callMethod (.iface 94 (.pointer (some p))) "Unparse" #[]).run Tryz.prog W = .ok (.enter 110 #[.pointer (some p)]) W := by kernel_rfl
theorem is_IfThenElse_Unparse (p : Addr) (W : World) : (callMethod (.iface 97 (.pointer (some p))) "Unparse" #[]).run Tryz.prog W = .ok (.enter 112 #[.pointer (some p)]) W := by kernel_rfl
theorem is_Var_PosExprToGo (x : Value) (p : Addr) (W : World) : (callMethod (.iface 58 (.pointer (some p))) "PosExprToGo" #[x]).run Tryz.prog W = .ok (.enter 83 #[.pointer (some p), x]) W := by kernel_rfl
theorem is_NodePos_PosExprToGo (x : Value) (p : Addr) (W : World) : (callMethod (.iface 61 (.pointer (some p))) "PosExprToGo" #[x]).run Tryz.prog W = .ok (.enter 85 #[.pointer (some p), x]) W := by kernel_rfl
theorem is_NodeEnd_PosExprToGo (x : Value) (p : Addr) (W : World) : (callMethod (.iface 66 (.pointer (some p))) "PosExprToGo" #[x]).run Tryz.prog W = .ok (.enter 87 #[.pointer (some p), x]) W := by kernel_rfl
theorem is_PosChoice_PosExprToGo (x : Value) (p : Addr) (W : World) : (callMethod (.iface 68 (.pointer (some p))) "PosExprToGo" #[x]).run Tryz.prog W = .ok (.enter 89 #[.pointer (some p), x]) W := by kernel_rfl
theorem is_PosAdd_PosExprToGo (x : Value) (p : Addr) (W : World) : (callMethod (.iface 76 (.pointer (some p))) "PosExprToGo" #[x]).run Tryz.prog W = .ok (.enter 101 #[.pointer (some p), x]) W := by kernel_rfl
theorem is_Var_NodeExprToGo (x : Value) (p : Addr) (W : World) : (callMethod (.iface 58 (.pointer (some p))) "NodeExprToGo" #[x]).run Tryz.prog W = .ok (.enter 119 #[.pointer (some p), x]) W := by kernel_rfl
theorem is_NodeChoice_NodeExprToGo (x : Value) (p : Addr) (W : World) : (callMethod (.iface 72 (.pointer (some p))) "NodeExprToGo" #[x]).run Tryz.prog W = .ok (.enter 99 #[.pointer (some p), x]) W := by kernel_rfl
theorem is_NodeSliceIndex_NodeExprToGo (x : Value) (p : Addr) (W : World) : (callMethod (.iface 81 (.pointer (some p))) "NodeExprToGo" #[x]).run Tryz.prog W = .ok (.enter 103 #[.pointer (some p), x]) W := by kernel_rfl
theorem is_NodeSliceLast_NodeExprToGo (x : Value) (p : Addr) (W : World) : (callMethod (.iface 86 (.pointer (some p))) "NodeExprToGo" #[x]).run Tryz.prog W = .ok (.enter 105 #[.pointer (some p), x]) W := by kernel_rfl
theorem is_Var_NodeSliceExprToGo (x : Value) (p : Addr) (W : World) : (callMethod (.iface 58 (.pointer (some p))) "NodeSliceExprToGo" #[x]).run Tryz.prog W = .ok (.enter 120 #[.pointer (some p), x]) W := by kernel_rfl
theorem is_Var_StringExprToGo (x : Value) (p : Addr) (W : World) : (callMethod (.iface 58 (.pointer (some p))) "StringExprToGo" #[x]).run Tryz.prog W = .ok (.enter 121 #[.pointer (some p), x]) W := by kernel_rfl
theorem is_Var_BoolExprToGo (x : Value) (p : Addr) (W : World) : (callMethod (.iface 58 (.pointer (some p))) "BoolExprToGo" #[x]).run Tryz.prog W = .ok (.enter 118 #[.pointer (some p), x]) W := by kernel_rfl
theorem is_Len_IntExprToGo (x : Value) (p : Addr) (W : World) : (callMethod (.iface 89 (.pointer (some p))) "IntExprToGo" #[x]).run Tryz.prog W = .ok (.enter 107 #[.pointer (some p), x]) W := by kernel_rfl
theorem is_IntLiteral_IntExprToGo (x : Value) (p : Addr) (W : World) : (callMethod (.iface 94 (.pointer (some p))) "IntExprToGo" #[x]).run Tryz.prog W = .ok (.enter 109 #[.pointer (some p), x]) W := by kernel_rfl
theorem is_IfThenElse_IntExprToGo (x : Value) (p : Addr) (W : World) : (callMethod (.iface 97 (.pointer (some p))) "IntExprToGo" #[x]).run Tryz.prog W = .ok (.enter 111 #[.pointer (some p), x]) W := by kernel_rfl
end Go.Proofs.YthpianlilipggaaGreatDoor
