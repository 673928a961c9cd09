/- The methods of the language of positions that ask one part of theirs for its text. Condition: texts are at most 2^30 letters long. -/
import Derived.Test.YthpianlilipggaaGreatDoorVn
namespace Go.Proofs.YthpianlilipggaaGreatDoor
open Go.RowKit Go.PlainAid

set_option maxHeartbeats 1000000 in
set_option maxRecDepth 20000 in
theorem posUnp_c (w : World) (k : Nat) (v1 : Value) (Q1 : ByteArray → Prop) (h : AtB w k 65 #[v1]) (hq1 : ∀ s, Q1 s → s.size ≤ 1073741824) (hs1 : Sp w "Unparse" #[] v1 Q1) :
    Calls Tryz.prog 86 #[ptr k] w (Ret (fun s => ∃ s1, Q1 s1 ∧ s = s1 ++ ⟨#[46, 112, 111, 115]⟩) w) := by
  obtain ⟨T1, p1, rfl⟩ := hs1.shape
  have Hs1 := Lib.hid hs1
  have Hq1 := Lib.hid hq1
  have c1 : w.cell? ⟨k, 0, none⟩ = some (.iface T1 (.pointer (some p1))) := h.cell 0
  clear hs1 hq1 h
  unfold ptr
  go_enter Tryz.func86, Tryz.ntmps86
  go_wp2_with (((with_reducible show wpList _ _ _ ({ dst := _, op := .call { callee := .invoke _ _, args := _, argTypes := _ }, type := _, pos := _, after := _, guard := _ } :: _) _ _); refine wpList_invoke rfl (.tmp 6) "Unparse" #[] #[] rfl w _ #[] Q1 rfl (by simp) Hs1.out (Below.refl _ _) ?_; intro s1 w1 k1 hb1; have z1 := Hq1.out s1 k1; have K1 := Lib.hid (And.intro k1 hb1); clear k1 hb1))
  go_ret
  exact ⟨_, rfl, ⟨s1, K1.out.1, rfl⟩, K1.out.2⟩

set_option maxHeartbeats 1000000 in
set_option maxRecDepth 20000 in
theorem finUnp_c (w : World) (k : Nat) (v1 : Value) (Q1 : ByteArray → Prop) (h : AtB w k 67 #[v1]) (hq1 : ∀ s, Q1 s → s.size ≤ 1073741824) (hs1 : Sp w "Unparse" #[] v1 Q1) :
    Calls Tryz.prog 88 #[ptr k] w (Ret (fun s => ∃ s1, Q1 s1 ∧ s = s1 ++ ⟨#[46, 101, 110, 100]⟩) w) := by
  obtain ⟨T1, p1, rfl⟩ := hs1.shape
  have Hs1 := Lib.hid hs1
  have Hq1 := Lib.hid hq1
  have c1 : w.cell? ⟨k, 0, none⟩ = some (.iface T1 (.pointer (some p1))) := h.cell 0
  clear hs1 hq1 h
  unfold ptr
  go_enter Tryz.func88, Tryz.ntmps88
  go_wp2_with (((with_reducible show wpList _ _ _ ({ dst := _, op := .call { callee := .invoke _ _, args := _, argTypes := _ }, type := _, pos := _, after := _, guard := _ } :: _) _ _); refine wpList_invoke rfl (.tmp 6) "Unparse" #[] #[] rfl w _ #[] Q1 rfl (by simp) Hs1.out (Below.refl _ _) ?_; intro s1 w1 k1 hb1; have z1 := Hq1.out s1 k1; have K1 := Lib.hid (And.intro k1 hb1); clear k1 hb1))
  go_ret
  exact ⟨_, rfl, ⟨s1, K1.out.1, rfl⟩, K1.out.2⟩

set_option maxHeartbeats 1000000 in
set_option maxRecDepth 20000 in
theorem lastUnp_c (w : World) (k : Nat) (v1 : Value) (Q1 : ByteArray → Prop) (h : AtB w k 88 #[v1]) (hq1 : ∀ s, Q1 s → s.size ≤ 1073741824) (hs1 : Sp w "Unparse" #[] v1 Q1) :
    Calls Tryz.prog 106 #[ptr k] w (Ret (fun s => ∃ s1, Q1 s1 ∧ s = s1 ++ ⟨#[91, 36, 93]⟩) w) := by
  obtain ⟨T1, p1, rfl⟩ := hs1.shape
  have Hs1 := Lib.hid hs1
  have Hq1 := Lib.hid hq1
  have c1 : w.cell? ⟨k, 0, none⟩ = some (.iface T1 (.pointer (some p1))) := h.cell 0
  clear hs1 hq1 h
  unfold ptr
  go_enter Tryz.func106, Tryz.ntmps106
  go_wp2_with (((with_reducible show wpList _ _ _ ({ dst := _, op := .call { callee := .invoke _ _, args := _, argTypes := _ }, type := _, pos := _, after := _, guard := _ } :: _) _ _); refine wpList_invoke rfl (.tmp 6) "Unparse" #[] #[] rfl w _ #[] Q1 rfl (by simp) Hs1.out (Below.refl _ _) ?_; intro s1 w1 k1 hb1; have z1 := Hq1.out s1 k1; have K1 := Lib.hid (And.intro k1 hb1); clear k1 hb1))
  go_ret
  exact ⟨_, rfl, ⟨s1, K1.out.1, rfl⟩, K1.out.2⟩

set_option maxHeartbeats 1000000 in
set_option maxRecDepth 20000 in
theorem lenUnp_c (w : World) (k : Nat) (v1 : Value) (Q1 : ByteArray → Prop) (h : AtB w k 93 #[v1]) (hq1 : ∀ s, Q1 s → s.size ≤ 1073741824) (hs1 : Sp w "Unparse" #[] v1 Q1) :
    Calls Tryz.prog 108 #[ptr k] w (Ret (fun s => ∃ s1, Q1 s1 ∧ s = ⟨#[108, 101, 110, 40]⟩ ++ s1 ++ ⟨#[41]⟩) w) := by
  obtain ⟨T1, p1, rfl⟩ := hs1.shape
  have Hs1 := Lib.hid hs1
  have Hq1 := Lib.hid hq1
  have c1 : w.cell? ⟨k, 0, none⟩ = some (.iface T1 (.pointer (some p1))) := h.cell 0
  clear hs1 hq1 h
  unfold ptr
  go_enter Tryz.func108, Tryz.ntmps108
  go_wp2_with (((with_reducible show wpList _ _ _ ({ dst := _, op := .call { callee := .invoke _ _, args := _, argTypes := _ }, type := _, pos := _, after := _, guard := _ } :: _) _ _); refine wpList_invoke rfl (.tmp 6) "Unparse" #[] #[] rfl w _ #[] Q1 rfl (by simp) Hs1.out (Below.refl _ _) ?_; intro s1 w1 k1 hb1; have z1 := Hq1.out s1 k1; have K1 := Lib.hid (And.intro k1 hb1); clear k1 hb1))
  go_ret
  exact ⟨_, rfl, ⟨s1, K1.out.1, rfl⟩, K1.out.2⟩

set_option maxHeartbeats 1000000 in
set_option maxRecDepth 20000 in
theorem posGo_c (w : World) (k : Nat) (x : ByteArray) (v1 : Value) (Q1 : ByteArray → Prop) (h : AtB w k 65 #[v1]) (hq1 : ∀ s, Q1 s → s.size ≤ 1073741824) (hs1 : Sp w "NodeExprToGo" #[.string x] v1 Q1) :
    Calls Tryz.prog 85 #[ptr k, .string x] w (Ret (fun s => ∃ s1, Q1 s1 ∧ s = ⟨#[110, 111, 100, 101, 80, 111, 115, 40]⟩ ++ s1 ++ ⟨#[41]⟩) w) := by
  obtain ⟨T1, p1, rfl⟩ := hs1.shape
  have Hs1 := Lib.hid hs1
  have Hq1 := Lib.hid hq1
  have c1 : w.cell? ⟨k, 0, none⟩ = some (.iface T1 (.pointer (some p1))) := h.cell 0
  clear hs1 hq1 h
  unfold ptr
  go_enter Tryz.func85, Tryz.ntmps85
  go_wp2_with (((with_reducible show wpList _ _ _ ({ dst := _, op := .call { callee := .invoke _ _, args := _, argTypes := _ }, type := _, pos := _, after := _, guard := _ } :: _) _ _); refine wpList_invoke rfl (.tmp 8) "NodeExprToGo" #[.tmp 9] #[9] rfl w _ #[.string x] Q1 rfl (by simp only [List.map_toArray, List.map_cons, List.map_nil]; rfl) Hs1.out (Below.refl _ _) ?_; intro s1 w1 k1 hb1; have z1 := Hq1.out s1 k1; have K1 := Lib.hid (And.intro k1 hb1); clear k1 hb1))
  go_ret
  exact ⟨_, rfl, ⟨s1, K1.out.1, rfl⟩, K1.out.2⟩

set_option maxHeartbeats 1000000 in
set_option maxRecDepth 20000 in
theorem finGo_c (w : World) (k : Nat) (x : ByteArray) (v1 : Value) (Q1 : ByteArray → Prop) (h : AtB w k 67 #[v1]) (hq1 : ∀ s, Q1 s → s.size ≤ 1073741824) (hs1 : Sp w "NodeExprToGo" #[.string x] v1 Q1) :
    Calls Tryz.prog 87 #[ptr k, .string x] w (Ret (fun s => ∃ s1, Q1 s1 ∧ s = ⟨#[110, 111, 100, 101, 69, 110, 100, 40]⟩ ++ s1 ++ ⟨#[41]⟩) w) := by
  obtain ⟨T1, p1, rfl⟩ := hs1.shape
  have Hs1 := Lib.hid hs1
  have Hq1 := Lib.hid hq1
  have c1 : w.cell? ⟨k, 0, none⟩ = some (.iface T1 (.pointer (some p1))) := h.cell 0
  clear hs1 hq1 h
  unfold ptr
  go_enter Tryz.func87, Tryz.ntmps87
  go_wp2_with (((with_reducible show wpList _ _ _ ({ dst := _, op := .call { callee := .invoke _ _, args := _, argTypes := _ }, type := _, pos := _, after := _, guard := _ } :: _) _ _); refine wpList_invoke rfl (.tmp 8) "NodeExprToGo" #[.tmp 9] #[9] rfl w _ #[.string x] Q1 rfl (by simp only [List.map_toArray, List.map_cons, List.map_nil]; rfl) Hs1.out (Below.refl _ _) ?_; intro s1 w1 k1 hb1; have z1 := Hq1.out s1 k1; have K1 := Lib.hid (And.intro k1 hb1); clear k1 hb1))
  go_ret
  exact ⟨_, rfl, ⟨s1, K1.out.1, rfl⟩, K1.out.2⟩

set_option maxHeartbeats 1000000 in
set_option maxRecDepth 20000 in
theorem lastGo_c (w : World) (k : Nat) (x : ByteArray) (v1 : Value) (Q1 : ByteArray → Prop) (h : AtB w k 88 #[v1]) (hq1 : ∀ s, Q1 s → s.size ≤ 1073741824) (hs1 : Sp w "NodeSliceExprToGo" #[.string x] v1 Q1) :
    Calls Tryz.prog 105 #[ptr k, .string x] w (Ret (fun s => ∃ s1, Q1 s1 ∧ s = ⟨#[110, 111, 100, 101, 83, 108, 105, 99, 101, 76, 97, 115, 116, 40]⟩ ++ s1 ++ ⟨#[41]⟩) w) := by
  obtain ⟨T1, p1, rfl⟩ := hs1.shape
  have Hs1 := Lib.hid hs1
  have Hq1 := Lib.hid hq1
  have c1 : w.cell? ⟨k, 0, none⟩ = some (.iface T1 (.pointer (some p1))) := h.cell 0
  clear hs1 hq1 h
  unfold ptr
  go_enter Tryz.func105, Tryz.ntmps105
  go_wp2_with (((with_reducible show wpList _ _ _ ({ dst := _, op := .call { callee := .invoke _ _, args := _, argTypes := _ }, type := _, pos := _, after := _, guard := _ } :: _) _ _); refine wpList_invoke rfl (.tmp 8) "NodeSliceExprToGo" #[.tmp 9] #[9] rfl w _ #[.string x] Q1 rfl (by simp only [List.map_toArray, List.map_cons, List.map_nil]; rfl) Hs1.out (Below.refl _ _) ?_; intro s1 w1 k1 hb1; have z1 := Hq1.out s1 k1; have K1 := Lib.hid (And.intro k1 hb1); clear k1 hb1))
  go_ret
  exact ⟨_, rfl, ⟨s1, K1.out.1, rfl⟩, K1.out.2⟩

set_option maxHeartbeats 1000000 in
set_option maxRecDepth 20000 in
theorem lenGo_c (w : World) (k : Nat) (x : ByteArray) (v1 : Value) (Q1 : ByteArray → Prop) (h : AtB w k 93 #[v1]) (hq1 : ∀ s, Q1 s → s.size ≤ 1073741824) (hs1 : Sp w "StringExprToGo" #[.string x] v1 Q1) :
    Calls Tryz.prog 107 #[ptr k, .string x] w (Ret (fun s => ∃ s1, Q1 s1 ∧ s = ⟨#[108, 101, 110, 40]⟩ ++ s1 ++ ⟨#[41]⟩) w) := by
  obtain ⟨T1, p1, rfl⟩ := hs1.shape
  have Hs1 := Lib.hid hs1
  have Hq1 := Lib.hid hq1
  have c1 : w.cell? ⟨k, 0, none⟩ = some (.iface T1 (.pointer (some p1))) := h.cell 0
  clear hs1 hq1 h
  unfold ptr
  go_enter Tryz.func107, Tryz.ntmps107
  go_wp2_with (((with_reducible show wpList _ _ _ ({ dst := _, op := .call { callee := .invoke _ _, args := _, argTypes := _ }, type := _, pos := _, after := _, guard := _ } :: _) _ _); refine wpList_invoke rfl (.tmp 8) "StringExprToGo" #[.tmp 9] #[9] rfl w _ #[.string x] Q1 rfl (by simp only [List.map_toArray, List.map_cons, List.map_nil]; rfl) Hs1.out (Below.refl _ _) ?_; intro s1 w1 k1 hb1; have z1 := Hq1.out s1 k1; have K1 := Lib.hid (And.intro k1 hb1); clear k1 hb1))
  go_ret
  exact ⟨_, rfl, ⟨s1, K1.out.1, rfl⟩, K1.out.2⟩
end Go.Proofs.YthpianlilipggaaGreatDoor
