/- The law's test of sorts is the plain one. Condition: the tree's letters and values are at most 2^20. -/
import Derived.Test.YthpianlilipggaaGreatDoorXa
import Derived.Test.YthpianlilipggaaGreatDoorXb
import Derived.Test.YthpianlilipggaaGreatDoorXc
import Derived.Test.YthpianlilipggaaGreatDoorXd
import Derived.Test.YthpianlilipggaaGreatDoorXf
namespace Go.Proofs.YthpianlilipggaaGreatDoor
open Go.RowKit Go.PlainAid

theorem tru_congr {f : FuncId} {args : Array Value} {w : World} {b b' : Bool} (h : b' = b) (k : Calls Tryz.prog f args w (Tru b w)) : Calls Tryz.prog f args w (Tru b' w) := h ▸ k
theorem str_eq (k l : Bs) : ((⟨k.toArray⟩ : ByteArray).toList == l) = decide (k = l) := by
  rw [ByteArray.toList_eq]
  apply bool_ext
  simp
theorem str_ne (k l : Bs) : ((⟨k.toArray⟩ : ByteArray).toList != l) = !decide (k = l) := by rw [bne, str_eq]
theorem one_eq (c d : UInt8) : ((⟨#[c]⟩ : ByteArray).toList == [d]) = decide (c = d) := by
  rw [ByteArray.toList_eq]
  apply bool_ext
  simp
theorem one_ne (c d : UInt8) : ((⟨#[c]⟩ : ByteArray).toList != [d]) = !decide (c = d) := by rw [bne, one_eq]
theorem emp (k : Bs) : (⟨k.toArray⟩ : ByteArray).toList.isEmpty = k.isEmpty := by rw [ByteArray.toList_eq]
theorem ne_emp {nm : Bs} (h : nm ≠ []) : (⟨nm.toArray⟩ : ByteArray).toList.isEmpty = false ∧ (!(⟨nm.toArray⟩ : ByteArray).toList.isEmpty) = true := by
  rw [emp]
  cases nm with
  | nil => exact absurd rfl h
  | cons _ _ => exact ⟨rfl, rfl⟩
theorem ne_num {n k : Nat} (h : n ≠ k) : (((n : Int) == (k : Int)) = false) ∧ ((n == k) = false) := by
  refine ⟨?_, ?_⟩
  · rw [beq_eq_false_iff_ne]; omega
  · rw [beq_eq_false_iff_ne]; omega
theorem z_ne {z : Int} (h : z ≠ 0) : (z == 0) = false := by rw [beq_eq_false_iff_ne]; exact h
theorem head_cell {w : World} {a : Option Addr} {x : PE} {l : List PE} (hp : PEsAt w a 0 (x :: l)) : ∃ g o, a = some ⟨g, o, none⟩ ∧ w.cell? ⟨g, o, none⟩ = some (.string ⟨x.kind.toArray⟩) := by
  obtain ⟨⟨g, o, u, h0, h1, _⟩, _⟩ := hp
  exact ⟨g, o, h0, by simpa [strV] using h1⟩
/-- What the closure answers, in every world behind the call's begin. -/
theorem hi_of (m : Nat) (ih : SortIH m) (k nm : Bs) (z : Int) (l : List PE) (a : Option Addr) (cap : Nat) (w : World) (hm : PE.sizeL l ≤ m) (hw : PE.wtL l ≤ 1048576) (hp : PEsAt w a 0 l) :
    ∀ (i : Nat) (d : UInt8) (W : World), Below (w.alloc (.cells #[.string ⟨k.toArray⟩, .string ⟨nm.toArray⟩, .int .i64 z, .slice a l.length cap] 24)).heap.size (w.alloc (.cells #[.string ⟨k.toArray⟩, .string ⟨nm.toArray⟩, .int .i64 z, .slice a l.length cap] 24)) W → i ≤ 16777216 → Calls Tryz.prog 10 #[.int .i64 (i : Int), .string ⟨#[d]⟩, .pointer (some ⟨w.heap.size, 0, none⟩)] W (Tru (partB l i d) W) :=
  fun i d W hb hi => is_c m ih w.heap.size i d k nm z l a cap W hm hw hi ((atB_new w _ _).below hb) ((hp.below ((Below.refl _ _).alloc (Nat.le_refl _) _)).below hb)
theorem sB_var (nm : Bs) (z : Int) (l : List PE) (c : UInt8) : (PE.mk kVar nm z l).sortB c = (decide (z = 0) && l.isEmpty && wordB nm && decide (nm.head? ≠ some 95) && decide (nm ≠ kLen) && decide (c ≠ 105)) := by rw [PE.sortB, if_pos rfl]
theorem sB_int (nm : Bs) (z : Int) (l : List PE) (c : UInt8) : (PE.mk kInt nm z l).sortB c = (decide (c = 105) && nm.isEmpty && decide (0 ≤ z) && decide (z < 1099511627776) && l.isEmpty) := by rw [PE.sortB, if_neg (by decide), if_pos rfl]
theorem sB_pos (nm : Bs) (z : Int) (l : List PE) (c : UInt8) : (PE.mk kPos nm z l).sortB c = (decide (c = 112) && (nm.isEmpty && decide (z = 0)) && decide (l.length = 1) && partB l 0 110) := by rw [PE.sortB, if_neg (by decide), if_neg (by decide), if_pos (by decide), partB_nth]
theorem sB_end (nm : Bs) (z : Int) (l : List PE) (c : UInt8) : (PE.mk kEnd nm z l).sortB c = (decide (c = 112) && (nm.isEmpty && decide (z = 0)) && decide (l.length = 1) && partB l 0 110) := by rw [PE.sortB, if_neg (by decide), if_neg (by decide), if_pos (by decide), partB_nth]
theorem sB_add (nm : Bs) (z : Int) (l : List PE) (c : UInt8) : (PE.mk kAdd nm z l).sortB c = (decide (c = 112) && (nm.isEmpty && decide (z = 0)) && decide (l.length = 2) && partB l 0 112 && partB l 1 105 && decide (kindAt l 0 ≠ kChoice)) := by rw [PE.sortB, if_neg (by decide), if_neg (by decide), if_neg (by decide), if_pos rfl, partB_nth, partB_nth]
theorem all_eq (l : List PE) (c : UInt8) (k : Bs) : ((PE.sortL l c).all id && l.all fun a => decide (a.kind ≠ k)) = allOk k c l := by
  rw [sortL_eq]
  unfold allOk
  induction l with
  | nil => rfl
  | cons x l ih =>
    simp only [List.map_cons, List.all_cons, id] at ih ⊢
    rw [← ih]
    cases x.sortB c <;> cases decide (x.kind ≠ k) <;> simp
theorem sB_choice (nm : Bs) (z : Int) (l : List PE) (c : UInt8) : (PE.mk kChoice nm z l).sortB c = (allOk kChoice 112 l && (decide (c = 112) && (nm.isEmpty && decide (z = 0)) && decide (1 < l.length))) := by rw [PE.sortB, if_neg (by decide), if_neg (by decide), if_neg (by decide), if_neg (by decide), if_pos rfl, all_eq]; simp only [Bool.and_assoc]
theorem sB_nodes (nm : Bs) (z : Int) (l : List PE) (c : UInt8) : (PE.mk kNodes nm z l).sortB c = (allOk kNodes 110 l && (decide (c = 110) && (nm.isEmpty && decide (z = 0)) && decide (1 < l.length))) := by rw [PE.sortB, if_neg (by decide), if_neg (by decide), if_neg (by decide), if_neg (by decide), if_neg (by decide), if_pos rfl, all_eq]; simp only [Bool.and_assoc]
theorem sB_index (nm : Bs) (z : Int) (l : List PE) (c : UInt8) : (PE.mk kIndex nm z l).sortB c = (decide (c = 110) && (nm.isEmpty && decide (z = 0)) && decide (l.length = 2) && partB l 0 115 && partB l 1 105 && decide (kindAt l 0 = kVar)) := by rw [PE.sortB, if_neg (by decide), if_neg (by decide), if_neg (by decide), if_neg (by decide), if_neg (by decide), if_neg (by decide), if_pos rfl, partB_nth, partB_nth]
theorem sB_last (nm : Bs) (z : Int) (l : List PE) (c : UInt8) : (PE.mk kLast nm z l).sortB c = (decide (c = 110) && (nm.isEmpty && decide (z = 0)) && decide (l.length = 1) && partB l 0 115 && decide (kindAt l 0 = kVar)) := by rw [PE.sortB, if_neg (by decide), if_neg (by decide), if_neg (by decide), if_neg (by decide), if_neg (by decide), if_neg (by decide), if_neg (by decide), if_pos rfl, partB_nth]
theorem sB_len (nm : Bs) (z : Int) (l : List PE) (c : UInt8) : (PE.mk kLen nm z l).sortB c = (decide (c = 105) && (nm.isEmpty && decide (z = 0)) && decide (l.length = 1) && partB l 0 115 && decide (kindAt l 0 = kVar)) := by rw [PE.sortB, if_neg (by decide), if_neg (by decide), if_neg (by decide), if_neg (by decide), if_neg (by decide), if_neg (by decide), if_neg (by decide), if_neg (by decide), if_pos rfl, partB_nth]
theorem sB_if (nm : Bs) (z : Int) (l : List PE) (c : UInt8) : (PE.mk kIf nm z l).sortB c = (decide (c = 105) && (nm.isEmpty && decide (z = 0)) && decide (l.length = 3) && partB l 0 115 && partB l 1 105 && partB l 2 105 && decide (kindAt l 0 = kVar)) := by rw [PE.sortB, if_neg (by decide), if_neg (by decide), if_neg (by decide), if_neg (by decide), if_neg (by decide), if_neg (by decide), if_neg (by decide), if_neg (by decide), if_neg (by decide), if_pos rfl, partB_nth, partB_nth, partB_nth]
theorem sPos_all (m : Nat) (ih : SortIH m) (nm : Bs) (z : Int) (l : List PE) (a : Option Addr) (cap : Nat) (c : UInt8) (w : World) (hm : PE.sizeL l ≤ m) (hnw : nm.length ≤ 1048576) (hw : PE.wtL l ≤ 1048576) (hcap : l.length ≤ cap) (hp : PEsAt w a 0 l) :
    Calls Tryz.prog 6 #[.agg #[.string ⟨#[112, 111, 115]⟩, .string ⟨nm.toArray⟩, .int .i64 z, .slice a l.length cap], .string ⟨#[c]⟩] w (Tru ((PE.mk kPos nm z l).sortB c) w) := by
  have hll := Nat.le_trans (len_le_size l) (sizeL_le_wt l)
  have hs : (⟨nm.toArray⟩ : ByteArray).size ≤ 1048576 := by rw [sz_mk]; exact hnw
  have Hi := hi_of m ih kPos nm z l a cap w hm hw hp
  by_cases hc : c = 112
  case neg => exact tru_congr (by rw [sB_pos]; simp [hc]) (sPos_w w cap a ⟨nm.toArray⟩ hs z l.length (by omega) ⟨#[c]⟩ (Nat.le_refl 1) (by rw [one_eq]; simp [hc]) (by rw [one_ne]; simp [hc]))
  subst hc
  by_cases hnm : nm = []
  case neg => exact tru_congr (by rw [sB_pos]; simp [hnm]) (sPos_p1 w cap a ⟨nm.toArray⟩ hs (ne_emp hnm).1 (ne_emp hnm).2 z l.length (by omega))
  subst hnm
  by_cases hz : z = 0
  case neg => exact tru_congr (by rw [sB_pos]; simp [hz]) (sPos_p2 w cap a z (z_ne hz) l.length (by omega))
  subst hz
  by_cases hl : l.length = 1
  case neg => exact tru_congr (by rw [sB_pos]; simp [hl]) (sPos_l w cap a l.length (by omega) (ne_num hl).1 (ne_num hl).2)
  obtain ⟨x, rfl⟩ := len_one hl
  by_cases b0 : partB [x] 0 110 = true
  case neg => exact tru_congr (by rw [sB_pos]; simp [b0]) (sPos_c0 w cap a (partB [x]) Hi (by simpa using b0))
  exact tru_congr (by rw [sB_pos]; simp [b0]) (sPos_y w cap a (partB [x]) Hi b0)

theorem sEnd_all (m : Nat) (ih : SortIH m) (nm : Bs) (z : Int) (l : List PE) (a : Option Addr) (cap : Nat) (c : UInt8) (w : World) (hm : PE.sizeL l ≤ m) (hnw : nm.length ≤ 1048576) (hw : PE.wtL l ≤ 1048576) (hcap : l.length ≤ cap) (hp : PEsAt w a 0 l) :
    Calls Tryz.prog 6 #[.agg #[.string ⟨#[101, 110, 100]⟩, .string ⟨nm.toArray⟩, .int .i64 z, .slice a l.length cap], .string ⟨#[c]⟩] w (Tru ((PE.mk kEnd nm z l).sortB c) w) := by
  have hll := Nat.le_trans (len_le_size l) (sizeL_le_wt l)
  have hs : (⟨nm.toArray⟩ : ByteArray).size ≤ 1048576 := by rw [sz_mk]; exact hnw
  have Hi := hi_of m ih kEnd nm z l a cap w hm hw hp
  by_cases hc : c = 112
  case neg => exact tru_congr (by rw [sB_end]; simp [hc]) (sEnd_w w cap a ⟨nm.toArray⟩ hs z l.length (by omega) ⟨#[c]⟩ (Nat.le_refl 1) (by rw [one_eq]; simp [hc]) (by rw [one_ne]; simp [hc]))
  subst hc
  by_cases hnm : nm = []
  case neg => exact tru_congr (by rw [sB_end]; simp [hnm]) (sEnd_p1 w cap a ⟨nm.toArray⟩ hs (ne_emp hnm).1 (ne_emp hnm).2 z l.length (by omega))
  subst hnm
  by_cases hz : z = 0
  case neg => exact tru_congr (by rw [sB_end]; simp [hz]) (sEnd_p2 w cap a z (z_ne hz) l.length (by omega))
  subst hz
  by_cases hl : l.length = 1
  case neg => exact tru_congr (by rw [sB_end]; simp [hl]) (sEnd_l w cap a l.length (by omega) (ne_num hl).1 (ne_num hl).2)
  obtain ⟨x, rfl⟩ := len_one hl
  by_cases b0 : partB [x] 0 110 = true
  case neg => exact tru_congr (by rw [sB_end]; simp [b0]) (sEnd_c0 w cap a (partB [x]) Hi (by simpa using b0))
  exact tru_congr (by rw [sB_end]; simp [b0]) (sEnd_y w cap a (partB [x]) Hi b0)

theorem sAdd_all (m : Nat) (ih : SortIH m) (nm : Bs) (z : Int) (l : List PE) (a : Option Addr) (cap : Nat) (c : UInt8) (w : World) (hm : PE.sizeL l ≤ m) (hnw : nm.length ≤ 1048576) (hw : PE.wtL l ≤ 1048576) (hcap : l.length ≤ cap) (hp : PEsAt w a 0 l) :
    Calls Tryz.prog 6 #[.agg #[.string ⟨#[97, 100, 100]⟩, .string ⟨nm.toArray⟩, .int .i64 z, .slice a l.length cap], .string ⟨#[c]⟩] w (Tru ((PE.mk kAdd nm z l).sortB c) w) := by
  have hll := Nat.le_trans (len_le_size l) (sizeL_le_wt l)
  have hs : (⟨nm.toArray⟩ : ByteArray).size ≤ 1048576 := by rw [sz_mk]; exact hnw
  have Hi := hi_of m ih kAdd nm z l a cap w hm hw hp
  by_cases hc : c = 112
  case neg => exact tru_congr (by rw [sB_add]; simp [hc]) (sAdd_w w cap a ⟨nm.toArray⟩ hs z l.length (by omega) ⟨#[c]⟩ (Nat.le_refl 1) (by rw [one_eq]; simp [hc]) (by rw [one_ne]; simp [hc]))
  subst hc
  by_cases hnm : nm = []
  case neg => exact tru_congr (by rw [sB_add]; simp [hnm]) (sAdd_p1 w cap a ⟨nm.toArray⟩ hs (ne_emp hnm).1 (ne_emp hnm).2 z l.length (by omega))
  subst hnm
  by_cases hz : z = 0
  case neg => exact tru_congr (by rw [sB_add]; simp [hz]) (sAdd_p2 w cap a z (z_ne hz) l.length (by omega))
  subst hz
  by_cases hl : l.length = 2
  case neg => exact tru_congr (by rw [sB_add]; simp [hl]) (sAdd_l w cap a l.length (by omega) (ne_num hl).1 (ne_num hl).2)
  obtain ⟨x, y, rfl⟩ := len_two hl
  by_cases b0 : partB [x, y] 0 112 = true
  case neg => exact tru_congr (by rw [sB_add]; simp [b0]) (sAdd_c0 w cap a (partB [x, y]) Hi (by simpa using b0))
  by_cases b1 : partB [x, y] 1 105 = true
  case neg => exact tru_congr (by rw [sB_add]; simp [b1]) (sAdd_c1 w cap a (partB [x, y]) Hi b0 (by simpa using b1))
  obtain ⟨g, o, rfl, hk⟩ := head_cell hp
  have hka : kindAt [x, y] 0 = x.kind := rfl
  by_cases q : x.kind = kChoice
  · exact tru_congr (by rw [sB_add, hka]; simp [b0, b1, q]) (sAdd_k w cap g o (partB [x, y]) Hi b0 b1 _ hk (by rw [str_eq]; simp [q, kChoice]) (by rw [str_ne]; simp [q, kChoice]))
  · exact tru_congr (by rw [sB_add, hka]; simp [b0, b1, q]) (sAdd_y w cap g o (partB [x, y]) Hi b0 b1 _ hk (by rw [str_eq]; simpa [kChoice] using q) (by rw [str_ne]; simpa [kChoice] using q))

theorem sIndex_all (m : Nat) (ih : SortIH m) (nm : Bs) (z : Int) (l : List PE) (a : Option Addr) (cap : Nat) (c : UInt8) (w : World) (hm : PE.sizeL l ≤ m) (hnw : nm.length ≤ 1048576) (hw : PE.wtL l ≤ 1048576) (hcap : l.length ≤ cap) (hp : PEsAt w a 0 l) :
    Calls Tryz.prog 6 #[.agg #[.string ⟨#[105, 110, 100, 101, 120]⟩, .string ⟨nm.toArray⟩, .int .i64 z, .slice a l.length cap], .string ⟨#[c]⟩] w (Tru ((PE.mk kIndex nm z l).sortB c) w) := by
  have hll := Nat.le_trans (len_le_size l) (sizeL_le_wt l)
  have hs : (⟨nm.toArray⟩ : ByteArray).size ≤ 1048576 := by rw [sz_mk]; exact hnw
  have Hi := hi_of m ih kIndex nm z l a cap w hm hw hp
  by_cases hc : c = 110
  case neg => exact tru_congr (by rw [sB_index]; simp [hc]) (sIndex_w w cap a ⟨nm.toArray⟩ hs z l.length (by omega) ⟨#[c]⟩ (Nat.le_refl 1) (by rw [one_eq]; simp [hc]) (by rw [one_ne]; simp [hc]))
  subst hc
  by_cases hnm : nm = []
  case neg => exact tru_congr (by rw [sB_index]; simp [hnm]) (sIndex_p1 w cap a ⟨nm.toArray⟩ hs (ne_emp hnm).1 (ne_emp hnm).2 z l.length (by omega))
  subst hnm
  by_cases hz : z = 0
  case neg => exact tru_congr (by rw [sB_index]; simp [hz]) (sIndex_p2 w cap a z (z_ne hz) l.length (by omega))
  subst hz
  by_cases hl : l.length = 2
  case neg => exact tru_congr (by rw [sB_index]; simp [hl]) (sIndex_l w cap a l.length (by omega) (ne_num hl).1 (ne_num hl).2)
  obtain ⟨x, y, rfl⟩ := len_two hl
  by_cases b0 : partB [x, y] 0 115 = true
  case neg => exact tru_congr (by rw [sB_index]; simp [b0]) (sIndex_c0 w cap a (partB [x, y]) Hi (by simpa using b0))
  by_cases b1 : partB [x, y] 1 105 = true
  case neg => exact tru_congr (by rw [sB_index]; simp [b1]) (sIndex_c1 w cap a (partB [x, y]) Hi b0 (by simpa using b1))
  obtain ⟨g, o, rfl, hk⟩ := head_cell hp
  have hka : kindAt [x, y] 0 = x.kind := rfl
  by_cases q : x.kind = kVar
  · exact tru_congr (by rw [sB_index, hka]; simp [b0, b1, q]) (sIndex_y w cap g o (partB [x, y]) Hi b0 b1 _ hk (by rw [str_eq]; simp [q, kVar]) (by rw [str_ne]; simp [q, kVar]))
  · exact tru_congr (by rw [sB_index, hka]; simp [b0, b1, q]) (sIndex_k w cap g o (partB [x, y]) Hi b0 b1 _ hk (by rw [str_eq]; simpa [kVar] using q) (by rw [str_ne]; simpa [kVar] using q))

theorem sLast_all (m : Nat) (ih : SortIH m) (nm : Bs) (z : Int) (l : List PE) (a : Option Addr) (cap : Nat) (c : UInt8) (w : World) (hm : PE.sizeL l ≤ m) (hnw : nm.length ≤ 1048576) (hw : PE.wtL l ≤ 1048576) (hcap : l.length ≤ cap) (hp : PEsAt w a 0 l) :
    Calls Tryz.prog 6 #[.agg #[.string ⟨#[108, 97, 115, 116]⟩, .string ⟨nm.toArray⟩, .int .i64 z, .slice a l.length cap], .string ⟨#[c]⟩] w (Tru ((PE.mk kLast nm z l).sortB c) w) := by
  have hll := Nat.le_trans (len_le_size l) (sizeL_le_wt l)
  have hs : (⟨nm.toArray⟩ : ByteArray).size ≤ 1048576 := by rw [sz_mk]; exact hnw
  have Hi := hi_of m ih kLast nm z l a cap w hm hw hp
  by_cases hc : c = 110
  case neg => exact tru_congr (by rw [sB_last]; simp [hc]) (sLast_w w cap a ⟨nm.toArray⟩ hs z l.length (by omega) ⟨#[c]⟩ (Nat.le_refl 1) (by rw [one_eq]; simp [hc]) (by rw [one_ne]; simp [hc]))
  subst hc
  by_cases hnm : nm = []
  case neg => exact tru_congr (by rw [sB_last]; simp [hnm]) (sLast_p1 w cap a ⟨nm.toArray⟩ hs (ne_emp hnm).1 (ne_emp hnm).2 z l.length (by omega))
  subst hnm
  by_cases hz : z = 0
  case neg => exact tru_congr (by rw [sB_last]; simp [hz]) (sLast_p2 w cap a z (z_ne hz) l.length (by omega))
  subst hz
  by_cases hl : l.length = 1
  case neg => exact tru_congr (by rw [sB_last]; simp [hl]) (sLast_l w cap a l.length (by omega) (ne_num hl).1 (ne_num hl).2)
  obtain ⟨x, rfl⟩ := len_one hl
  by_cases b0 : partB [x] 0 115 = true
  case neg => exact tru_congr (by rw [sB_last]; simp [b0]) (sLast_c0 w cap a (partB [x]) Hi (by simpa using b0))
  obtain ⟨g, o, rfl, hk⟩ := head_cell hp
  have hka : kindAt [x] 0 = x.kind := rfl
  by_cases q : x.kind = kVar
  · exact tru_congr (by rw [sB_last, hka]; simp [b0, q]) (sLast_y w cap g o (partB [x]) Hi b0 _ hk (by rw [str_eq]; simp [q, kVar]) (by rw [str_ne]; simp [q, kVar]))
  · exact tru_congr (by rw [sB_last, hka]; simp [b0, q]) (sLast_k w cap g o (partB [x]) Hi b0 _ hk (by rw [str_eq]; simpa [kVar] using q) (by rw [str_ne]; simpa [kVar] using q))

theorem sLen_all (m : Nat) (ih : SortIH m) (nm : Bs) (z : Int) (l : List PE) (a : Option Addr) (cap : Nat) (c : UInt8) (w : World) (hm : PE.sizeL l ≤ m) (hnw : nm.length ≤ 1048576) (hw : PE.wtL l ≤ 1048576) (hcap : l.length ≤ cap) (hp : PEsAt w a 0 l) :
    Calls Tryz.prog 6 #[.agg #[.string ⟨#[108, 101, 110]⟩, .string ⟨nm.toArray⟩, .int .i64 z, .slice a l.length cap], .string ⟨#[c]⟩] w (Tru ((PE.mk kLen nm z l).sortB c) w) := by
  have hll := Nat.le_trans (len_le_size l) (sizeL_le_wt l)
  have hs : (⟨nm.toArray⟩ : ByteArray).size ≤ 1048576 := by rw [sz_mk]; exact hnw
  have Hi := hi_of m ih kLen nm z l a cap w hm hw hp
  by_cases hc : c = 105
  case neg => exact tru_congr (by rw [sB_len]; simp [hc]) (sLen_w w cap a ⟨nm.toArray⟩ hs z l.length (by omega) ⟨#[c]⟩ (Nat.le_refl 1) (by rw [one_eq]; simp [hc]) (by rw [one_ne]; simp [hc]))
  subst hc
  by_cases hnm : nm = []
  case neg => exact tru_congr (by rw [sB_len]; simp [hnm]) (sLen_p1 w cap a ⟨nm.toArray⟩ hs (ne_emp hnm).1 (ne_emp hnm).2 z l.length (by omega))
  subst hnm
  by_cases hz : z = 0
  case neg => exact tru_congr (by rw [sB_len]; simp [hz]) (sLen_p2 w cap a z (z_ne hz) l.length (by omega))
  subst hz
  by_cases hl : l.length = 1
  case neg => exact tru_congr (by rw [sB_len]; simp [hl]) (sLen_l w cap a l.length (by omega) (ne_num hl).1 (ne_num hl).2)
  obtain ⟨x, rfl⟩ := len_one hl
  by_cases b0 : partB [x] 0 115 = true
  case neg => exact tru_congr (by rw [sB_len]; simp [b0]) (sLen_c0 w cap a (partB [x]) Hi (by simpa using b0))
  obtain ⟨g, o, rfl, hk⟩ := head_cell hp
  have hka : kindAt [x] 0 = x.kind := rfl
  by_cases q : x.kind = kVar
  · exact tru_congr (by rw [sB_len, hka]; simp [b0, q]) (sLen_y w cap g o (partB [x]) Hi b0 _ hk (by rw [str_eq]; simp [q, kVar]) (by rw [str_ne]; simp [q, kVar]))
  · exact tru_congr (by rw [sB_len, hka]; simp [b0, q]) (sLen_k w cap g o (partB [x]) Hi b0 _ hk (by rw [str_eq]; simpa [kVar] using q) (by rw [str_ne]; simpa [kVar] using q))

theorem sIf_all (m : Nat) (ih : SortIH m) (nm : Bs) (z : Int) (l : List PE) (a : Option Addr) (cap : Nat) (c : UInt8) (w : World) (hm : PE.sizeL l ≤ m) (hnw : nm.length ≤ 1048576) (hw : PE.wtL l ≤ 1048576) (hcap : l.length ≤ cap) (hp : PEsAt w a 0 l) :
    Calls Tryz.prog 6 #[.agg #[.string ⟨#[105, 102]⟩, .string ⟨nm.toArray⟩, .int .i64 z, .slice a l.length cap], .string ⟨#[c]⟩] w (Tru ((PE.mk kIf nm z l).sortB c) w) := by
  have hll := Nat.le_trans (len_le_size l) (sizeL_le_wt l)
  have hs : (⟨nm.toArray⟩ : ByteArray).size ≤ 1048576 := by rw [sz_mk]; exact hnw
  have Hi := hi_of m ih kIf nm z l a cap w hm hw hp
  by_cases hc : c = 105
  case neg => exact tru_congr (by rw [sB_if]; simp [hc]) (sIf_w w cap a ⟨nm.toArray⟩ hs z l.length (by omega) ⟨#[c]⟩ (Nat.le_refl 1) (by rw [one_eq]; simp [hc]) (by rw [one_ne]; simp [hc]))
  subst hc
  by_cases hnm : nm = []
  case neg => exact tru_congr (by rw [sB_if]; simp [hnm]) (sIf_p1 w cap a ⟨nm.toArray⟩ hs (ne_emp hnm).1 (ne_emp hnm).2 z l.length (by omega))
  subst hnm
  by_cases hz : z = 0
  case neg => exact tru_congr (by rw [sB_if]; simp [hz]) (sIf_p2 w cap a z (z_ne hz) l.length (by omega))
  subst hz
  by_cases hl : l.length = 3
  case neg => exact tru_congr (by rw [sB_if]; simp [hl]) (sIf_l w cap a l.length (by omega) (ne_num hl).1 (ne_num hl).2)
  obtain ⟨x, y, u, rfl⟩ := len_three hl
  by_cases b0 : partB [x, y, u] 0 115 = true
  case neg => exact tru_congr (by rw [sB_if]; simp [b0]) (sIf_c0 w cap a (partB [x, y, u]) Hi (by simpa using b0))
  by_cases b1 : partB [x, y, u] 1 105 = true
  case neg => exact tru_congr (by rw [sB_if]; simp [b1]) (sIf_c1 w cap a (partB [x, y, u]) Hi b0 (by simpa using b1))
  by_cases b2 : partB [x, y, u] 2 105 = true
  case neg => exact tru_congr (by rw [sB_if]; simp [b2]) (sIf_c2 w cap a (partB [x, y, u]) Hi b0 b1 (by simpa using b2))
  obtain ⟨g, o, rfl, hk⟩ := head_cell hp
  have hka : kindAt [x, y, u] 0 = x.kind := rfl
  by_cases q : x.kind = kVar
  · exact tru_congr (by rw [sB_if, hka]; simp [b0, b1, b2, q]) (sIf_y w cap g o (partB [x, y, u]) Hi b0 b1 b2 _ hk (by rw [str_eq]; simp [q, kVar]) (by rw [str_ne]; simp [q, kVar]))
  · exact tru_congr (by rw [sB_if, hka]; simp [b0, b1, b2, q]) (sIf_k w cap g o (partB [x, y, u]) Hi b0 b1 b2 _ hk (by rw [str_eq]; simpa [kVar] using q) (by rw [str_ne]; simpa [kVar] using q))

theorem sChoice_all (m : Nat) (ih : SortIH m) (nm : Bs) (z : Int) (l : List PE) (a : Option Addr) (cap : Nat) (c : UInt8) (w : World) (hm : PE.sizeL l ≤ m) (hnw : nm.length ≤ 1048576) (hw : PE.wtL l ≤ 1048576) (hcap : l.length ≤ cap) (hp : PEsAt w a 0 l) :
    Calls Tryz.prog 6 #[.agg #[.string ⟨#[99, 104, 111, 105, 99, 101]⟩, .string ⟨nm.toArray⟩, .int .i64 z, .slice a l.length cap], .string ⟨#[c]⟩] w (Tru ((PE.mk kChoice nm z l).sortB c) w) := by
  have hll := Nat.le_trans (len_le_size l) (sizeL_le_wt l)
  have hs : (⟨nm.toArray⟩ : ByteArray).size ≤ 1048576 := by rw [sz_mk]; exact hnw
  have Hi := hi_of m ih kChoice nm z l a cap w hm hw hp
  by_cases hnm : nm = []
  case neg => exact tru_congr (by rw [sB_choice]; simp [hnm]) (sChoice_p1 w cap a l (by omega) hcap hp ⟨nm.toArray⟩ hs (ne_emp hnm).1 (ne_emp hnm).2 z ⟨#[c]⟩ (Nat.le_refl 1) Hi)
  subst hnm
  by_cases hz : z = 0
  case neg => exact tru_congr (by rw [sB_choice]; simp [hz]) (sChoice_p2 w cap a l (by omega) hcap hp z (z_ne hz) ⟨#[c]⟩ (Nat.le_refl 1) Hi)
  subst hz
  by_cases hc : c = 112
  case neg => exact tru_congr (by rw [sB_choice]; simp [hc]) (sChoice_w w cap a l (by omega) hcap hp ⟨#[c]⟩ (Nat.le_refl 1) (by rw [one_eq]; simp [hc]) (by rw [one_ne]; simp [hc]) Hi)
  subst hc
  by_cases hl : 1 < l.length
  · exact tru_congr (by rw [sB_choice]; simp [hl]) (sChoice_y w cap a l (by omega) hcap hp (by omega) hl Hi)
  · exact tru_congr (by rw [sB_choice]; simp [hl]) (sChoice_l w cap a l (by omega) hcap hp (decide_eq_false (by omega)) (decide_eq_false hl) Hi)

theorem sNodes_all (m : Nat) (ih : SortIH m) (nm : Bs) (z : Int) (l : List PE) (a : Option Addr) (cap : Nat) (c : UInt8) (w : World) (hm : PE.sizeL l ≤ m) (hnw : nm.length ≤ 1048576) (hw : PE.wtL l ≤ 1048576) (hcap : l.length ≤ cap) (hp : PEsAt w a 0 l) :
    Calls Tryz.prog 6 #[.agg #[.string ⟨#[110, 111, 100, 101, 115]⟩, .string ⟨nm.toArray⟩, .int .i64 z, .slice a l.length cap], .string ⟨#[c]⟩] w (Tru ((PE.mk kNodes nm z l).sortB c) w) := by
  have hll := Nat.le_trans (len_le_size l) (sizeL_le_wt l)
  have hs : (⟨nm.toArray⟩ : ByteArray).size ≤ 1048576 := by rw [sz_mk]; exact hnw
  have Hi := hi_of m ih kNodes nm z l a cap w hm hw hp
  by_cases hnm : nm = []
  case neg => exact tru_congr (by rw [sB_nodes]; simp [hnm]) (sNodes_p1 w cap a l (by omega) hcap hp ⟨nm.toArray⟩ hs (ne_emp hnm).1 (ne_emp hnm).2 z ⟨#[c]⟩ (Nat.le_refl 1) Hi)
  subst hnm
  by_cases hz : z = 0
  case neg => exact tru_congr (by rw [sB_nodes]; simp [hz]) (sNodes_p2 w cap a l (by omega) hcap hp z (z_ne hz) ⟨#[c]⟩ (Nat.le_refl 1) Hi)
  subst hz
  by_cases hc : c = 110
  case neg => exact tru_congr (by rw [sB_nodes]; simp [hc]) (sNodes_w w cap a l (by omega) hcap hp ⟨#[c]⟩ (Nat.le_refl 1) (by rw [one_eq]; simp [hc]) (by rw [one_ne]; simp [hc]) Hi)
  subst hc
  by_cases hl : 1 < l.length
  · exact tru_congr (by rw [sB_nodes]; simp [hl]) (sNodes_y w cap a l (by omega) hcap hp (by omega) hl Hi)
  · exact tru_congr (by rw [sB_nodes]; simp [hl]) (sNodes_l w cap a l (by omega) hcap hp (decide_eq_false (by omega)) (decide_eq_false hl) Hi)

theorem sInt_all (m : Nat) (ih : SortIH m) (nm : Bs) (z : Int) (l : List PE) (a : Option Addr) (cap : Nat) (c : UInt8) (w : World) (hm : PE.sizeL l ≤ m) (hnw : nm.length ≤ 1048576) (hw : PE.wtL l ≤ 1048576) (hcap : l.length ≤ cap) (hp : PEsAt w a 0 l) :
    Calls Tryz.prog 6 #[.agg #[.string ⟨#[105, 110, 116]⟩, .string ⟨nm.toArray⟩, .int .i64 z, .slice a l.length cap], .string ⟨#[c]⟩] w (Tru ((PE.mk kInt nm z l).sortB c) w) := by
  have hll := Nat.le_trans (len_le_size l) (sizeL_le_wt l)
  have hs : (⟨nm.toArray⟩ : ByteArray).size ≤ 1048576 := by rw [sz_mk]; exact hnw
  by_cases hc : c = 105
  case neg => exact tru_congr (by rw [sB_int]; simp [hc]) (sInt_w w cap a ⟨nm.toArray⟩ hs z l.length (by omega) ⟨#[c]⟩ (Nat.le_refl 1) (by rw [one_eq]; simp [hc]) (by rw [one_ne]; simp [hc]))
  subst hc
  by_cases hnm : nm = []
  case neg => exact tru_congr (by rw [sB_int]; simp [hnm]) (sInt_n w cap a ⟨nm.toArray⟩ hs (ne_emp hnm).1 (ne_emp hnm).2 z l.length (by omega))
  subst hnm
  by_cases h0 : 0 ≤ z
  case neg => exact tru_congr (by rw [sB_int]; simp [h0]) (sInt_z w cap a z (by omega) (z_ne (by omega)) (decide_eq_false h0) l.length (by omega))
  by_cases h1 : z < 1099511627776
  case neg => exact tru_congr (by rw [sB_int]; simp [h1]) (sInt_g w cap a z (by omega) (z_ne (by omega)) (decide_eq_true h0) (decide_eq_false h1) l.length (by omega))
  by_cases hl : l.length = 0
  case neg => exact tru_congr (by rw [sB_int]; cases l with | nil => exact absurd rfl hl | cons _ _ => simp) (sInt_l w cap a z h0 h1 l.length (by omega) (ne_num hl).1 (ne_num hl).2)
  obtain rfl := List.eq_nil_of_length_eq_zero hl
  exact tru_congr (by rw [sB_int]; simp [h0, h1]) (sInt_y w cap a z h0 h1)

theorem sVar_all (m : Nat) (ih : SortIH m) (nm : Bs) (z : Int) (l : List PE) (a : Option Addr) (cap : Nat) (c : UInt8) (w : World) (hm : PE.sizeL l ≤ m) (hnw : nm.length ≤ 1048576) (hw : PE.wtL l ≤ 1048576) (hcap : l.length ≤ cap) (hp : PEsAt w a 0 l) :
    Calls Tryz.prog 6 #[.agg #[.string ⟨#[118, 97, 114]⟩, .string ⟨nm.toArray⟩, .int .i64 z, .slice a l.length cap], .string ⟨#[c]⟩] w (Tru ((PE.mk kVar nm z l).sortB c) w) := by
  have hll := Nat.le_trans (len_le_size l) (sizeL_le_wt l)
  have hs : (⟨nm.toArray⟩ : ByteArray).size ≤ 1048576 := by rw [sz_mk]; exact hnw
  by_cases hz : z = 0
  case neg => exact tru_congr (by rw [sB_var]; simp [hz]) (sVar_z w cap a ⟨nm.toArray⟩ hs z c (z_ne hz) l.length (by omega))
  subst hz
  by_cases hl : l.length = 0
  case neg => exact tru_congr (by rw [sB_var]; cases l with | nil => exact absurd rfl hl | cons _ _ => simp) (sVar_l w cap a ⟨nm.toArray⟩ hs c l.length (by omega) (ne_num hl).1 (ne_num hl).2)
  obtain rfl := List.eq_nil_of_length_eq_zero hl
  have hw0 := fun W => word_c nm W (by omega)
  by_cases hwd : wordB nm = true
  case neg =>
    have hwf : wordB nm = false := by simpa using hwd
    rw [hwf] at hw0
    exact tru_congr (by rw [sB_var]; simp [hwf]) (sVar_w w cap a ⟨nm.toArray⟩ hs c hw0)
  rw [hwd] at hw0
  obtain ⟨x, r, rfl⟩ : ∃ x r, nm = x :: r := by
    cases nm with
    | nil => cases hwd
    | cons x r => exact ⟨x, r, rfl⟩
  have h0 : 0 < (⟨(x :: r).toArray⟩ : ByteArray).size := by rw [sz_mk]; simp
  have h7 : (0 : Int) < ((⟨(x :: r).toArray⟩ : ByteArray).size : Int) := by omega
  have hb0 : bt ⟨(x :: r).toArray⟩ 0 = (x.toNat : Int) := bt_mk (x :: r) 0 (by simp)
  by_cases hx : x = 95
  · subst hx
    exact tru_congr (by rw [sB_var]; simp) (sVar_u w cap a _ hs (ne_emp (by simp)).1 (ne_emp (by simp)).2 c hw0 h0 h7 (get_bt _) hb0)
  have h8 : (bt ⟨(x :: r).toArray⟩ 0 == 95) = false := by
    rw [hb0, beq_eq_false_iff_ne]
    intro e
    apply hx
    apply UInt8.toNat_inj.1
    have : (95 : UInt8).toNat = 95 := rfl
    omega
  have h9 : (bt ⟨(x :: r).toArray⟩ 0 != 95) = true := by rw [bne, h8]; rfl
  by_cases hn : (x :: r) = kLen
  · rw [hn] at hw0 ⊢
    exact tru_congr (by rw [sB_var]; simp) (sVar_n w cap a c hw0)
  have q1 : ((⟨(x :: r).toArray⟩ : ByteArray).toList == [108, 101, 110]) = false := by rw [str_eq]; simpa [kLen] using hn
  have q2 : ((⟨(x :: r).toArray⟩ : ByteArray).toList != [108, 101, 110]) = true := by rw [bne, q1]; rfl
  by_cases hc : c = 105
  · subst hc
    exact tru_congr (by rw [sB_var]; simp) (sVar_i w cap a _ hs (ne_emp (by simp)).1 (ne_emp (by simp)).2 hw0 h0 h7 (get_bt _) h8 h9 q1 q2)
  · exact tru_congr (by rw [sB_var, hwd]; simp [hx, hn, hc]) (sVar_y w cap a _ hs (ne_emp (by simp)).1 (ne_emp (by simp)).2 hw0 h0 h7 (get_bt _) h8 h9 q1 q2 ⟨#[c]⟩ (Nat.le_refl 1) (by rw [one_eq]; simp [hc]) (by rw [one_ne]; simp [hc]))

/-- THE TEST: what the law's function answers is what the plain one says. -/
theorem posSort_all : ∀ (m : Nat), SortIH m := by
  intro m
  induction m with
  | zero =>
    intro e v c w hm
    cases e
    rw [PE.size] at hm
    omega
  | succ m ih =>
    intro e v c w hm _ hw h
    obtain ⟨k, nm, z, l⟩ := e
    obtain ⟨a, cap, rfl, hcap, hp⟩ := h
    rw [PE.size] at hm
    rw [PE.wt] at hw
    have hll := Nat.le_trans (len_le_size l) (sizeL_le_wt l)
    show Calls Tryz.prog 6 #[.agg #[.string ⟨k.toArray⟩, .string ⟨nm.toArray⟩, .int .i64 z, .slice a l.length cap], .string ⟨#[c]⟩] w (Tru ((PE.mk k nm z l).sortB c) w)
    by_cases e0 : k = kVar
    · subst e0
      exact sVar_all m ih nm z l a cap c w (by omega) (by omega) (by omega) hcap hp
    by_cases e1 : k = kInt
    · subst e1
      exact sInt_all m ih nm z l a cap c w (by omega) (by omega) (by omega) hcap hp
    by_cases e2 : k = kPos
    · subst e2
      exact sPos_all m ih nm z l a cap c w (by omega) (by omega) (by omega) hcap hp
    by_cases e3 : k = kEnd
    · subst e3
      exact sEnd_all m ih nm z l a cap c w (by omega) (by omega) (by omega) hcap hp
    by_cases e4 : k = kAdd
    · subst e4
      exact sAdd_all m ih nm z l a cap c w (by omega) (by omega) (by omega) hcap hp
    by_cases e5 : k = kChoice
    · subst e5
      exact sChoice_all m ih nm z l a cap c w (by omega) (by omega) (by omega) hcap hp
    by_cases e6 : k = kNodes
    · subst e6
      exact sNodes_all m ih nm z l a cap c w (by omega) (by omega) (by omega) hcap hp
    by_cases e7 : k = kIndex
    · subst e7
      exact sIndex_all m ih nm z l a cap c w (by omega) (by omega) (by omega) hcap hp
    by_cases e8 : k = kLast
    · subst e8
      exact sLast_all m ih nm z l a cap c w (by omega) (by omega) (by omega) hcap hp
    by_cases e9 : k = kLen
    · subst e9
      exact sLen_all m ih nm z l a cap c w (by omega) (by omega) (by omega) hcap hp
    by_cases e10 : k = kIf
    · subst e10
      exact sIf_all m ih nm z l a cap c w (by omega) (by omega) (by omega) hcap hp
    refine tru_congr ?_ (sElse w cap a ⟨nm.toArray⟩ (by rw [sz_mk]; omega) z l.length (by omega) ⟨k.toArray⟩ ⟨#[c]⟩ (by rw [str_eq]; exact decide_eq_false e0) (by rw [str_eq]; exact decide_eq_false e1) (by rw [str_eq]; exact decide_eq_false e2) (by rw [str_eq]; exact decide_eq_false e3) (by rw [str_eq]; exact decide_eq_false e4) (by rw [str_eq]; exact decide_eq_false e5) (by rw [str_eq]; exact decide_eq_false e6) (by rw [str_eq]; exact decide_eq_false e7) (by rw [str_eq]; exact decide_eq_false e8) (by rw [str_eq]; exact decide_eq_false e9) (by rw [str_eq]; exact decide_eq_false e10))
    rw [PE.sortB]
    simp only [e0, e1, e2, e3, e4, e5, e6, e7, e8, e9, e10, if_false, or_self]
end Go.Proofs.YthpianlilipggaaGreatDoor
