/- The methods of the language of positions that ask two or three parts of theirs for their texts. Condition: texts are at most 2^30 letters long. -/
import Derived.Test.YthpianlilipggaaGreatDoorVo
namespace Go.Proofs.YthpianlilipggaaGreatDoor
open Go.RowKit Go.PlainAid

set_option maxHeartbeats 1000000 in
set_option maxRecDepth 20000 in
theorem addUnp_c (w : World) (k : Nat) (v1 v2 : Value) (Q1 Q2 : ByteArray → Prop) (h : AtB w k 80 #[v1, v2]) (hq1 : ∀ s, Q1 s → s.size ≤ 1073741824) (hq2 : ∀ s, Q2 s → s.size ≤ 1073741824) (hs1 : Sp w "Unparse" #[] v1 Q1) (hs2 : Sp w "Unparse" #[] v2 Q2) :
    Calls Tryz.prog 102 #[ptr k] w (Ret (fun s => ∃ s1 s2, Q1 s1 ∧ Q2 s2 ∧ s = s1 ++ ⟨#[32, 43, 32]⟩ ++ s2) w) := by
  obtain ⟨T1, p1, rfl⟩ := hs1.shape
  obtain ⟨T2, p2, rfl⟩ := hs2.shape
  have Hs1 := Lib.hid hs1
  have Hq1 := Lib.hid hq1
  have Hs2 := Lib.hid hs2
  have Hq2 := Lib.hid hq2
  have c1 : w.cell? ⟨k, 0, none⟩ = some (.iface T1 (.pointer (some p1))) := h.cell 0
  have c2 : w.cell? ⟨k, 1, none⟩ = some (.iface T2 (.pointer (some p2))) := h.cell 1
  have H := Lib.hid h
  have hbd := below_drew (Below.refl w.heap.size w)
  clear hs1 hq1 hs2 hq2 h
  unfold ptr
  go_enter Tryz.func102, Tryz.ntmps102
  go_wp2_with fail
  go_region_law (first | ((refine step_invoke rfl (.tmp 6) "Unparse" #[] #[] rfl w _ #[] Q1 (by rfl) (by simp) Hs1.out (by assumption) ?_; intro s1 w1 k1 hb1; have z1 := Hq1.out s1 k1; have g1 : ¬ (9223372036854775807 < s1.size + 3) := (by intros; omega); have g2 : ∀ n2, n2 ≤ 1073741824 → ¬ (9223372036854775807 < s1.size + 3 + n2) := (by intros; omega); have K1 := Lib.hid k1; have hb1' := below_next (B := w.heap.size) (w := w) (by assumption) hb1 (Nat.le_refl _); have y1 := (two_keep H.out hb1').1; have y2 := (two_keep H.out hb1').2.1; clear k1 hb1)) | ((refine step_invoke rfl (.tmp 12) "Unparse" #[] #[] rfl w _ #[] Q2 (by rfl) (by simp) Hs2.out (by assumption) ?_; intro s2 w2 k2 hb2; have z2 := Hq2.out s2 k2; have K2 := Lib.hid k2; have hb2' := below_next (B := w.heap.size) (w := w) (by assumption) hb2 (Nat.le_refl _); have y1 := (two_keep H.out hb2').1; have y2 := (two_keep H.out hb2').2.1; clear k2 hb2)))
  all_goals (go_wp2_with fail; go_ret; exact ⟨_, rfl, ⟨s1, s2, K1.out, K2.out, rfl⟩, by assumption⟩)

set_option maxHeartbeats 1000000 in
set_option maxRecDepth 20000 in
theorem indexUnp_c (w : World) (k : Nat) (v1 v2 : Value) (Q1 Q2 : ByteArray → Prop) (h : AtB w k 85 #[v1, v2]) (hq1 : ∀ s, Q1 s → s.size ≤ 1073741824) (hq2 : ∀ s, Q2 s → s.size ≤ 1073741824) (hs1 : Sp w "Unparse" #[] v1 Q1) (hs2 : Sp w "Unparse" #[] v2 Q2) :
    Calls Tryz.prog 104 #[ptr k] w (Ret (fun s => ∃ s1 s2, Q1 s1 ∧ Q2 s2 ∧ s = s1 ++ ⟨#[91]⟩ ++ s2 ++ ⟨#[93]⟩) w) := by
  obtain ⟨T1, p1, rfl⟩ := hs1.shape
  obtain ⟨T2, p2, rfl⟩ := hs2.shape
  have Hs1 := Lib.hid hs1
  have Hq1 := Lib.hid hq1
  have Hs2 := Lib.hid hs2
  have Hq2 := Lib.hid hq2
  have c1 : w.cell? ⟨k, 0, none⟩ = some (.iface T1 (.pointer (some p1))) := h.cell 0
  have c2 : w.cell? ⟨k, 1, none⟩ = some (.iface T2 (.pointer (some p2))) := h.cell 1
  have H := Lib.hid h
  have hbd := below_drew (Below.refl w.heap.size w)
  clear hs1 hq1 hs2 hq2 h
  unfold ptr
  go_enter Tryz.func104, Tryz.ntmps104
  go_wp2_with fail
  go_region_law (first | ((refine step_invoke rfl (.tmp 6) "Unparse" #[] #[] rfl w _ #[] Q1 (by rfl) (by simp) Hs1.out (by assumption) ?_; intro s1 w1 k1 hb1; have z1 := Hq1.out s1 k1; have g1 : ¬ (9223372036854775807 < s1.size + 1) := (by intros; omega); have g2 : ∀ n2, n2 ≤ 1073741824 → ¬ (9223372036854775807 < s1.size + 1 + n2) := (by intros; omega); have g3 : ∀ n2, n2 ≤ 1073741824 → ¬ (9223372036854775807 < s1.size + 1 + n2 + 1) := (by intros; omega); have K1 := Lib.hid k1; have hb1' := below_next (B := w.heap.size) (w := w) (by assumption) hb1 (Nat.le_refl _); have y1 := (two_keep H.out hb1').1; have y2 := (two_keep H.out hb1').2.1; clear k1 hb1)) | ((refine step_invoke rfl (.tmp 12) "Unparse" #[] #[] rfl w _ #[] Q2 (by rfl) (by simp) Hs2.out (by assumption) ?_; intro s2 w2 k2 hb2; have z2 := Hq2.out s2 k2; have K2 := Lib.hid k2; have hb2' := below_next (B := w.heap.size) (w := w) (by assumption) hb2 (Nat.le_refl _); have y1 := (two_keep H.out hb2').1; have y2 := (two_keep H.out hb2').2.1; clear k2 hb2)))
  all_goals (go_wp2_with fail; go_ret; exact ⟨_, rfl, ⟨s1, s2, K1.out, K2.out, rfl⟩, by assumption⟩)

set_option maxHeartbeats 1000000 in
set_option maxRecDepth 20000 in
theorem addGo_c (w : World) (k : Nat) (x : ByteArray) (v1 v2 : Value) (Q1 Q2 : ByteArray → Prop) (h : AtB w k 80 #[v1, v2]) (hq1 : ∀ s, Q1 s → s.size ≤ 1073741824) (hq2 : ∀ s, Q2 s → s.size ≤ 1073741824) (hs1 : Sp w "PosExprToGo" #[.string x] v1 Q1) (hs2 : Sp w "IntExprToGo" #[.string x] v2 Q2) :
    Calls Tryz.prog 101 #[ptr k, .string x] w (Ret (fun s => ∃ s1 s2, Q1 s1 ∧ Q2 s2 ∧ s = ⟨#[112, 111, 115, 65, 100, 100, 40]⟩ ++ s1 ++ ⟨#[44, 32]⟩ ++ s2 ++ ⟨#[41]⟩) w) := by
  obtain ⟨T1, p1, rfl⟩ := hs1.shape
  obtain ⟨T2, p2, rfl⟩ := hs2.shape
  have Hs1 := Lib.hid hs1
  have Hq1 := Lib.hid hq1
  have Hs2 := Lib.hid hs2
  have Hq2 := Lib.hid hq2
  have c1 : w.cell? ⟨k, 0, none⟩ = some (.iface T1 (.pointer (some p1))) := h.cell 0
  have c2 : w.cell? ⟨k, 1, none⟩ = some (.iface T2 (.pointer (some p2))) := h.cell 1
  have H := Lib.hid h
  have hbd := below_drew (Below.refl w.heap.size w)
  clear hs1 hq1 hs2 hq2 h
  unfold ptr
  go_enter Tryz.func101, Tryz.ntmps101
  go_wp2_with fail
  go_region_law (first | ((refine step_invoke rfl (.tmp 8) "PosExprToGo" #[.tmp 9] #[9] rfl w _ #[.string x] Q1 (by rfl) (by simp only [List.map_toArray, List.map_cons, List.map_nil]; rfl) Hs1.out (by assumption) ?_; intro s1 w1 k1 hb1; have z1 := Hq1.out s1 k1; have g1 : ¬ (9223372036854775807 < 7 + s1.size) := (by intros; omega); have g2 : ¬ (9223372036854775807 < 7 + s1.size + 2) := (by intros; omega); have g3 : ∀ n2, n2 ≤ 1073741824 → ¬ (9223372036854775807 < 7 + s1.size + 2 + n2) := (by intros; omega); have g4 : ∀ n2, n2 ≤ 1073741824 → ¬ (9223372036854775807 < 7 + s1.size + 2 + n2 + 1) := (by intros; omega); have K1 := Lib.hid k1; have hb1' := below_next (B := w.heap.size) (w := w) (by assumption) hb1 (Nat.le_refl _); have y1 := (two_keep H.out hb1').1; have y2 := (two_keep H.out hb1').2.1; clear k1 hb1)) | ((refine step_invoke rfl (.tmp 16) "IntExprToGo" #[.tmp 17] #[9] rfl w _ #[.string x] Q2 (by rfl) (by simp only [List.map_toArray, List.map_cons, List.map_nil]; rfl) Hs2.out (by assumption) ?_; intro s2 w2 k2 hb2; have z2 := Hq2.out s2 k2; have K2 := Lib.hid k2; have hb2' := below_next (B := w.heap.size) (w := w) (by assumption) hb2 (Nat.le_refl _); have y1 := (two_keep H.out hb2').1; have y2 := (two_keep H.out hb2').2.1; clear k2 hb2)))
  all_goals (go_wp2_with fail; go_ret; exact ⟨_, rfl, ⟨s1, s2, K1.out, K2.out, rfl⟩, by assumption⟩)

set_option maxHeartbeats 1000000 in
set_option maxRecDepth 20000 in
theorem indexGo_c (w : World) (k : Nat) (x : ByteArray) (v1 v2 : Value) (Q1 Q2 : ByteArray → Prop) (h : AtB w k 85 #[v1, v2]) (hq1 : ∀ s, Q1 s → s.size ≤ 1073741824) (hq2 : ∀ s, Q2 s → s.size ≤ 1073741824) (hs1 : Sp w "NodeSliceExprToGo" #[.string x] v1 Q1) (hs2 : Sp w "IntExprToGo" #[.string x] v2 Q2) :
    Calls Tryz.prog 103 #[ptr k, .string x] w (Ret (fun s => ∃ s1 s2, Q1 s1 ∧ Q2 s2 ∧ s = ⟨#[110, 111, 100, 101, 83, 108, 105, 99, 101, 73, 110, 100, 101, 120, 40]⟩ ++ s1 ++ ⟨#[44, 32]⟩ ++ s2 ++ ⟨#[41]⟩) w) := by
  obtain ⟨T1, p1, rfl⟩ := hs1.shape
  obtain ⟨T2, p2, rfl⟩ := hs2.shape
  have Hs1 := Lib.hid hs1
  have Hq1 := Lib.hid hq1
  have Hs2 := Lib.hid hs2
  have Hq2 := Lib.hid hq2
  have c1 : w.cell? ⟨k, 0, none⟩ = some (.iface T1 (.pointer (some p1))) := h.cell 0
  have c2 : w.cell? ⟨k, 1, none⟩ = some (.iface T2 (.pointer (some p2))) := h.cell 1
  have H := Lib.hid h
  have hbd := below_drew (Below.refl w.heap.size w)
  clear hs1 hq1 hs2 hq2 h
  unfold ptr
  go_enter Tryz.func103, Tryz.ntmps103
  go_wp2_with fail
  go_region_law (first | ((refine step_invoke rfl (.tmp 8) "NodeSliceExprToGo" #[.tmp 9] #[9] rfl w _ #[.string x] Q1 (by rfl) (by simp only [List.map_toArray, List.map_cons, List.map_nil]; rfl) Hs1.out (by assumption) ?_; intro s1 w1 k1 hb1; have z1 := Hq1.out s1 k1; have g1 : ¬ (9223372036854775807 < 15 + s1.size) := (by intros; omega); have g2 : ¬ (9223372036854775807 < 15 + s1.size + 2) := (by intros; omega); have g3 : ∀ n2, n2 ≤ 1073741824 → ¬ (9223372036854775807 < 15 + s1.size + 2 + n2) := (by intros; omega); have g4 : ∀ n2, n2 ≤ 1073741824 → ¬ (9223372036854775807 < 15 + s1.size + 2 + n2 + 1) := (by intros; omega); have K1 := Lib.hid k1; have hb1' := below_next (B := w.heap.size) (w := w) (by assumption) hb1 (Nat.le_refl _); have y1 := (two_keep H.out hb1').1; have y2 := (two_keep H.out hb1').2.1; clear k1 hb1)) | ((refine step_invoke rfl (.tmp 16) "IntExprToGo" #[.tmp 17] #[9] rfl w _ #[.string x] Q2 (by rfl) (by simp only [List.map_toArray, List.map_cons, List.map_nil]; rfl) Hs2.out (by assumption) ?_; intro s2 w2 k2 hb2; have z2 := Hq2.out s2 k2; have K2 := Lib.hid k2; have hb2' := below_next (B := w.heap.size) (w := w) (by assumption) hb2 (Nat.le_refl _); have y1 := (two_keep H.out hb2').1; have y2 := (two_keep H.out hb2').2.1; clear k2 hb2)))
  all_goals (go_wp2_with fail; go_ret; exact ⟨_, rfl, ⟨s1, s2, K1.out, K2.out, rfl⟩, by assumption⟩)

set_option maxHeartbeats 1000000 in
set_option maxRecDepth 20000 in
theorem iteUnp_c (w : World) (k : Nat) (v1 v2 v3 : Value) (Q1 Q2 Q3 : ByteArray → Prop) (h : AtB w k 101 #[v1, v2, v3]) (hq1 : ∀ s, Q1 s → s.size ≤ 1073741824) (hq2 : ∀ s, Q2 s → s.size ≤ 1073741824) (hq3 : ∀ s, Q3 s → s.size ≤ 1073741824) (hs1 : Sp w "Unparse" #[] v1 Q1) (hs2 : Sp w "Unparse" #[] v2 Q2) (hs3 : Sp w "Unparse" #[] v3 Q3) :
    Calls Tryz.prog 112 #[ptr k] w (Ret (fun s => ∃ s1 s2 s3, Q1 s1 ∧ Q2 s2 ∧ Q3 s3 ∧ s = ⟨#[40]⟩ ++ s1 ++ ⟨#[32, 63, 32]⟩ ++ s2 ++ ⟨#[32, 58, 32]⟩ ++ s3 ++ ⟨#[41]⟩) w) := by
  obtain ⟨T1, p1, rfl⟩ := hs1.shape
  obtain ⟨T2, p2, rfl⟩ := hs2.shape
  obtain ⟨T3, p3, rfl⟩ := hs3.shape
  have Hs1 := Lib.hid hs1
  have Hq1 := Lib.hid hq1
  have Hs2 := Lib.hid hs2
  have Hq2 := Lib.hid hq2
  have Hs3 := Lib.hid hs3
  have Hq3 := Lib.hid hq3
  have c1 : w.cell? ⟨k, 0, none⟩ = some (.iface T1 (.pointer (some p1))) := h.cell 0
  have c2 : w.cell? ⟨k, 1, none⟩ = some (.iface T2 (.pointer (some p2))) := h.cell 1
  have c3 : w.cell? ⟨k, 2, none⟩ = some (.iface T3 (.pointer (some p3))) := h.cell 2
  have H := Lib.hid h
  have hbd := below_drew (Below.refl w.heap.size w)
  clear hs1 hq1 hs2 hq2 hs3 hq3 h
  unfold ptr
  go_enter Tryz.func112, Tryz.ntmps112
  go_wp2_with fail
  go_region_law (first | ((refine step_invoke rfl (.tmp 6) "Unparse" #[] #[] rfl w _ #[] Q1 (by rfl) (by simp) Hs1.out (by assumption) ?_; intro s1 w1 k1 hb1; have z1 := Hq1.out s1 k1; have g1 : ¬ (9223372036854775807 < 1 + s1.size) := (by intros; omega); have g2 : ¬ (9223372036854775807 < 1 + s1.size + 3) := (by intros; omega); have g3 : ∀ n2, n2 ≤ 1073741824 → ¬ (9223372036854775807 < 1 + s1.size + 3 + n2) := (by intros; omega); have g4 : ∀ n2, n2 ≤ 1073741824 → ¬ (9223372036854775807 < 1 + s1.size + 3 + n2 + 3) := (by intros; omega); have g5 : ∀ n2, n2 ≤ 1073741824 → ∀ n3, n3 ≤ 1073741824 → ¬ (9223372036854775807 < 1 + s1.size + 3 + n2 + 3 + n3) := (by intros; omega); have g6 : ∀ n2, n2 ≤ 1073741824 → ∀ n3, n3 ≤ 1073741824 → ¬ (9223372036854775807 < 1 + s1.size + 3 + n2 + 3 + n3 + 1) := (by intros; omega); have K1 := Lib.hid k1; have hb1' := below_next (B := w.heap.size) (w := w) (by assumption) hb1 (Nat.le_refl _); have y1 := (three_keep H.out hb1').1; have y2 := (three_keep H.out hb1').2.1; have y3 := (three_keep H.out hb1').2.2.1; clear k1 hb1)) | ((refine step_invoke rfl (.tmp 13) "Unparse" #[] #[] rfl w _ #[] Q2 (by rfl) (by simp) Hs2.out (by assumption) ?_; intro s2 w2 k2 hb2; have z2 := Hq2.out s2 k2; have K2 := Lib.hid k2; have hb2' := below_next (B := w.heap.size) (w := w) (by assumption) hb2 (Nat.le_refl _); have y1 := (three_keep H.out hb2').1; have y2 := (three_keep H.out hb2').2.1; have y3 := (three_keep H.out hb2').2.2.1; clear k2 hb2)) | ((refine step_invoke rfl (.tmp 20) "Unparse" #[] #[] rfl w _ #[] Q3 (by rfl) (by simp) Hs3.out (by assumption) ?_; intro s3 w3 k3 hb3; have z3 := Hq3.out s3 k3; have K3 := Lib.hid k3; have hb3' := below_next (B := w.heap.size) (w := w) (by assumption) hb3 (Nat.le_refl _); have y1 := (three_keep H.out hb3').1; have y2 := (three_keep H.out hb3').2.1; have y3 := (three_keep H.out hb3').2.2.1; clear k3 hb3)))
  all_goals (go_wp2_with fail; go_ret; exact ⟨_, rfl, ⟨s1, s2, s3, K1.out, K2.out, K3.out, rfl⟩, by assumption⟩)

set_option maxHeartbeats 1000000 in
set_option maxRecDepth 20000 in
theorem iteGo_c (w : World) (k : Nat) (x : ByteArray) (v1 v2 v3 : Value) (Q1 Q2 Q3 : ByteArray → Prop) (h : AtB w k 101 #[v1, v2, v3]) (hq1 : ∀ s, Q1 s → s.size ≤ 1073741824) (hq2 : ∀ s, Q2 s → s.size ≤ 1073741824) (hq3 : ∀ s, Q3 s → s.size ≤ 1073741824) (hs1 : Sp w "BoolExprToGo" #[.string x] v1 Q1) (hs2 : Sp w "IntExprToGo" #[.string x] v2 Q2) (hs3 : Sp w "IntExprToGo" #[.string x] v3 Q3) :
    Calls Tryz.prog 111 #[ptr k, .string x] w (Ret (fun s => ∃ s1 s2 s3, Q1 s1 ∧ Q2 s2 ∧ Q3 s3 ∧ s = ⟨#[105, 102, 84, 104, 101, 110, 69, 108, 115, 101, 40]⟩ ++ s1 ++ ⟨#[44, 32]⟩ ++ s2 ++ ⟨#[44, 32]⟩ ++ s3 ++ ⟨#[41]⟩) w) := by
  obtain ⟨T1, p1, rfl⟩ := hs1.shape
  obtain ⟨T2, p2, rfl⟩ := hs2.shape
  obtain ⟨T3, p3, rfl⟩ := hs3.shape
  have Hs1 := Lib.hid hs1
  have Hq1 := Lib.hid hq1
  have Hs2 := Lib.hid hs2
  have Hq2 := Lib.hid hq2
  have Hs3 := Lib.hid hs3
  have Hq3 := Lib.hid hq3
  have c1 : w.cell? ⟨k, 0, none⟩ = some (.iface T1 (.pointer (some p1))) := h.cell 0
  have c2 : w.cell? ⟨k, 1, none⟩ = some (.iface T2 (.pointer (some p2))) := h.cell 1
  have c3 : w.cell? ⟨k, 2, none⟩ = some (.iface T3 (.pointer (some p3))) := h.cell 2
  have H := Lib.hid h
  have hbd := below_drew (Below.refl w.heap.size w)
  clear hs1 hq1 hs2 hq2 hs3 hq3 h
  unfold ptr
  go_enter Tryz.func111, Tryz.ntmps111
  go_wp2_with fail
  go_region_law (first | ((refine step_invoke rfl (.tmp 8) "BoolExprToGo" #[.tmp 9] #[9] rfl w _ #[.string x] Q1 (by rfl) (by simp only [List.map_toArray, List.map_cons, List.map_nil]; rfl) Hs1.out (by assumption) ?_; intro s1 w1 k1 hb1; have z1 := Hq1.out s1 k1; have g1 : ¬ (9223372036854775807 < 11 + s1.size) := (by intros; omega); have g2 : ¬ (9223372036854775807 < 11 + s1.size + 2) := (by intros; omega); have g3 : ∀ n2, n2 ≤ 1073741824 → ¬ (9223372036854775807 < 11 + s1.size + 2 + n2) := (by intros; omega); have g4 : ∀ n2, n2 ≤ 1073741824 → ¬ (9223372036854775807 < 11 + s1.size + 2 + n2 + 2) := (by intros; omega); have g5 : ∀ n2, n2 ≤ 1073741824 → ∀ n3, n3 ≤ 1073741824 → ¬ (9223372036854775807 < 11 + s1.size + 2 + n2 + 2 + n3) := (by intros; omega); have g6 : ∀ n2, n2 ≤ 1073741824 → ∀ n3, n3 ≤ 1073741824 → ¬ (9223372036854775807 < 11 + s1.size + 2 + n2 + 2 + n3 + 1) := (by intros; omega); have K1 := Lib.hid k1; have hb1' := below_next (B := w.heap.size) (w := w) (by assumption) hb1 (Nat.le_refl _); have y1 := (three_keep H.out hb1').1; have y2 := (three_keep H.out hb1').2.1; have y3 := (three_keep H.out hb1').2.2.1; clear k1 hb1)) | ((refine step_invoke rfl (.tmp 16) "IntExprToGo" #[.tmp 17] #[9] rfl w _ #[.string x] Q2 (by rfl) (by simp only [List.map_toArray, List.map_cons, List.map_nil]; rfl) Hs2.out (by assumption) ?_; intro s2 w2 k2 hb2; have z2 := Hq2.out s2 k2; have K2 := Lib.hid k2; have hb2' := below_next (B := w.heap.size) (w := w) (by assumption) hb2 (Nat.le_refl _); have y1 := (three_keep H.out hb2').1; have y2 := (three_keep H.out hb2').2.1; have y3 := (three_keep H.out hb2').2.2.1; clear k2 hb2)) | ((refine step_invoke rfl (.tmp 24) "IntExprToGo" #[.tmp 25] #[9] rfl w _ #[.string x] Q3 (by rfl) (by simp only [List.map_toArray, List.map_cons, List.map_nil]; rfl) Hs3.out (by assumption) ?_; intro s3 w3 k3 hb3; have z3 := Hq3.out s3 k3; have K3 := Lib.hid k3; have hb3' := below_next (B := w.heap.size) (w := w) (by assumption) hb3 (Nat.le_refl _); have y1 := (three_keep H.out hb3').1; have y2 := (three_keep H.out hb3').2.1; have y3 := (three_keep H.out hb3').2.2.1; clear k3 hb3)))
  all_goals (go_wp2_with fail; go_ret; exact ⟨_, rfl, ⟨s1, s2, s3, K1.out, K2.out, K3.out, rfl⟩, by assumption⟩)
end Go.Proofs.YthpianlilipggaaGreatDoor
