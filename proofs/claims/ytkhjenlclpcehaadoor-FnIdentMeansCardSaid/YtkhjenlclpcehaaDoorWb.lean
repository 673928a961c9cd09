/- The reference's test for reserved words answers as the plain word 'kwB' says. Condition: the text is shorter than 2^61 bytes. -/
import Derived.Test.YtkhjenlclpcehaaDoorWa
import Derived.Test.YtkhjenlclpcehaaDoorPb
namespace Go.Proofs.YtkhjenlclpcehaaDoor
open Go.RowKit Go.PlainAid

theorem lSpaced_c (s : ByteArray) (w : World) (hs : s.size ≤ 2305843009213693952) :
    Calls Tryd.prog 30 #[.string s] w fun e w' => e = .returned (.bool (spacedFrom s 0)) ∧ w = w' := by
  have hb := get_bt s
  go_enter Tryd.func30, Tryd.ntmps30
  go_wp2
  go_loop [3] (fun v => ∃ k : Nat, k ≤ s.size ∧ v = .int .i64 k ∧ Hid (spacedFrom s k = spacedFrom s 0)) (fun v => s.size - (intOf v).toNat)
  case atStart => exact ⟨0, by omega, rfl, rfl⟩
  case round =>
    obtain ⟨k, hk, rfl, hr⟩ := hrel
    by_cases hlt : k < s.size
    · by_cases hbl : bt s k = 32
      · have hb1 : (bt s k == 32) = true := by simp [hbl]
        have Hbl := Lib.hid hbl
        clear hbl
        go_wp2
        go_ret
        exact ⟨ret_bool (by rw [← hr.out, spacedFrom_hit hlt Hbl.out]), rfl⟩
      · have hb1 : (bt s k == 32) = false := by simp [hbl]
        go_wp2
        go_round
        case rel => exact ⟨k + 1, by omega, by go_num, by show spacedFrom s (k + 1) = _; rw [← hr.out, spacedFrom_go hlt hbl]⟩
        case measure => simp [intOf]; omega
    · go_wp2
      go_ret
      exact ⟨ret_bool (by rw [← hr.out, spacedFrom_end hlt]), rfl⟩

theorem kw_const : (({ data := ((((([32, 65, 76, 76, 32, 65, 78, 68, 32, 65, 78, 89, 32, 65, 82, 82, 65, 89, 32, 65, 83, 32, 65, 83, 67, 32, 65, 83, 83, 69, 82, 84, 95, 82, 79, 87, 83].append [95, 77, 79, 68, 73, 70, 73, 69, 68, 32, 65, 84, 32, 66, 69, 84, 87, 69, 69, 78, 32, 66, 89, 32, 67, 65, 83, 69, 32, 67, 65, 83, 84, 32, 67, 79, 76, 76]).append ([65, 84, 69, 32, 67, 79, 78, 84, 65, 73, 78, 83, 32, 67, 82, 69, 65, 84, 69, 32, 67, 82, 79, 83, 83, 32, 67, 85, 66, 69, 32, 67, 85, 82, 82, 69, 78].append [84, 32, 68, 69, 70, 65, 85, 76, 84, 32, 68, 69, 70, 73, 78, 69, 32, 68, 69, 83, 67, 32, 68, 73, 83, 84, 73, 78, 67, 84, 32, 69, 76, 83, 69, 32, 69, 78])).append (([68, 32, 69, 78, 85, 77, 32, 69, 83, 67, 65, 80, 69, 32, 69, 88, 67, 69, 80, 84, 32, 69, 88, 67, 76, 85, 68, 69, 32, 69, 88, 73, 83, 84, 83, 32, 69].append [88, 84, 82, 65, 67, 84, 32, 70, 65, 76, 83, 69, 32, 70, 69, 84, 67, 72, 32, 70, 79, 76, 76, 79, 87, 73, 78, 71, 32, 70, 79, 82, 32, 70, 82, 79, 77, 32]).append ([70, 85, 76, 76, 32, 71, 82, 65, 80, 72, 95, 84, 65, 66, 76, 69, 32, 71, 82, 79, 85, 80, 32, 71, 82, 79, 85, 80, 73, 78, 71, 32, 71, 82, 79, 85, 80].append [83, 32, 72, 65, 83, 72, 32, 72, 65, 86, 73, 78, 71, 32, 73, 70, 32, 73, 71, 78, 79, 82, 69, 32, 73, 78, 32, 73, 78, 78, 69, 82, 32, 73, 78, 84, 69, 82]))).append ((([83, 69, 67, 84, 32, 73, 78, 84, 69, 82, 86, 65, 76, 32, 73, 78, 84, 79, 32, 73, 83, 32, 74, 79, 73, 78, 32, 76, 65, 84, 69, 82, 65, 76, 32, 76, 69].append [70, 84, 32, 76, 73, 75, 69, 32, 76, 73, 77, 73, 84, 32, 76, 79, 79, 75, 85, 80, 32, 77, 69, 82, 71, 69, 32, 78, 65, 84, 85, 82, 65, 76, 32, 78, 69, 87]).append ([32, 78, 79, 32, 78, 79, 84, 32, 78, 85, 76, 76, 32, 78, 85, 76, 76, 83, 32, 79, 70, 32, 79, 78, 32, 79, 82, 32, 79, 82, 68, 69, 82, 32, 79, 85, 84].append [69, 82, 32, 79, 86, 69, 82, 32, 80, 65, 82, 84, 73, 84, 73, 79, 78, 32, 80, 82, 69, 67, 69, 68, 73, 78, 71, 32, 80, 82, 79, 84, 79, 32, 82, 65, 78, 71])).append (([69, 32, 82, 69, 67, 85, 82, 83, 73, 86, 69, 32, 82, 69, 83, 80, 69, 67, 84, 32, 82, 73, 71, 72, 84, 32, 82, 79, 76, 76, 85, 80, 32, 82, 79, 87, 83].append [32, 83, 69, 76, 69, 67, 84, 32, 83, 69, 84, 32, 83, 79, 77, 69, 32, 83, 84, 82, 85, 67, 84, 32, 84, 65, 66, 76, 69, 83, 65, 77, 80, 76, 69, 32, 84, 72]).append ([69, 78, 32, 84, 79, 32, 84, 82, 69, 65, 84, 32, 84, 82, 85, 69, 32, 85, 78, 66, 79, 85, 78, 68, 69, 68, 32, 85, 78, 73, 79, 78, 32, 85, 78, 78, 69, 83].append [84, 32, 85, 83, 73, 78, 71, 32, 87, 72, 69, 78, 32, 87, 72, 69, 82, 69, 32, 87, 73, 78, 68, 79, 87, 32, 87, 73, 84, 72, 32, 87, 73, 84, 72, 73, 78, 32]))))).toArray } : ByteArray)) = kwText := rfl

theorem kwHit_yes {K s : ByteArray} {k : Nat} (h1 : bt K k = 32) (h2 : ((K.extract (k + 1) (k + 1 + s.size)).toList == s.toList) = true) (h3 : bt K (k + 1 + s.size) = 32) : kwHit K s k = true := by simp [kwHit, h1, h3] at *; exact h2
theorem kwHit_no1 {K s : ByteArray} {k : Nat} (h1 : ¬ bt K k = 32) : kwHit K s k = false := by simp [kwHit, h1]
theorem kwHit_no2 {K s : ByteArray} {k : Nat} (h2 : ((K.extract (k + 1) (k + 1 + s.size)).toList == s.toList) = false) : kwHit K s k = false := by simp only [kwHit, h2, Bool.and_false, Bool.false_and]
theorem kwHit_no3 {K s : ByteArray} {k : Nat} (h1 : ¬ bt K (k + 1 + s.size) = 32) : kwHit K s k = false := by simp [kwHit, h1]

set_option maxHeartbeats 800000 in
set_option maxRecDepth 20000 in
theorem Keyword_c (s : ByteArray) (w : World) (hs : s.size ≤ 2305843009213693952) :
    Calls Tryd.prog 16 #[.string s] w fun e w' => e = .returned (.bool (kwB s)) ∧ w = w' := by
  go_enter Tryd.func16, Tryd.ntmps16
  rw [kw_const]
  obtain ⟨K, hKe⟩ : ∃ K, K = kwText := ⟨_, rfl⟩
  rw [← hKe]
  have hz1 : K.size ≤ 601 := by rw [hKe, kwText_size]; exact Nat.le_refl _
  have hz2 : 601 ≤ K.size := by rw [hKe, kwText_size]; exact Nat.le_refl _
  have hfin0 : kwB s = (!spacedFrom s 0 && kwFind K s 0) := by rw [hKe]; rfl
  clear hKe
  have hK := get_bt K
  cases hsp : spacedFrom s 0
  case true =>
    have hfin : Hid (kwB s = false) := by show kwB s = _; rw [hfin0, hsp]; rfl
    clear hfin0
    go_wp2
    refine wp_loop_rounds 1 ?_
    rw [rounds_succ]
    go_wp2_with (go_at_call 30; refine (lSpaced_c _ _ hs).mono ?_; rintro e w' ⟨rfl, rfl⟩)
    go_ret
    exact ⟨ret_bool (by rw [hfin.out]), rfl⟩
  case false =>
    have hfin : Hid (kwB s = kwFind K s 0) := by show kwB s = kwFind K s 0; rw [hfin0, hsp]; rfl
    clear hfin0
    go_wp2
    go_loop [3] (fun v => ∃ k : Nat, k ≤ 601 ∧ v = .int .i64 k ∧ Hid (kwFind K s k = kwFind K s 0)) (fun v => 601 - (intOf v).toNat)
    case atStart => exact ⟨0, by omega, rfl, rfl⟩
    case round =>
      obtain ⟨k, hk, rfl, hr⟩ := hrel
      by_cases hlt : k + s.size + 1 < 601
      · by_cases h1 : bt K k = 32
        · have h1b : (bt K k == 32) = true := by simp [h1]
          have H1 := Lib.hid h1
          clear h1
          cases h2 : ((K.extract (k + 1) (k + 1 + s.size)).toList == s.toList)
          · go_wp2_with (go_at_call 30; refine (lSpaced_c _ _ hs).mono ?_; rintro e w' ⟨rfl, rfl⟩)
            go_round
            case rel => exact ⟨k + 1, by omega, by go_num, by show kwFind K s (k + 1) = _; rw [← hr.out, kwFind_go hlt (kwHit_no2 h2)]⟩
            case measure => simp [intOf]; omega
          · by_cases h3 : bt K (k + 1 + s.size) = 32
            · have h3b : (bt K (k + 1 + s.size) == 32) = true := by simp [h3]
              have H3 := Lib.hid h3
              clear h3
              go_wp2_with (go_at_call 30; refine (lSpaced_c _ _ hs).mono ?_; rintro e w' ⟨rfl, rfl⟩)
              go_ret
              refine ⟨ret_bool ?_, rfl⟩
              rw [hfin.out, ← hr.out, kwFind_hit hlt (kwHit_yes H1.out h2 H3.out)]
            · have h3b : (bt K (k + 1 + s.size) == 32) = false := by simp [h3]
              go_wp2_with (go_at_call 30; refine (lSpaced_c _ _ hs).mono ?_; rintro e w' ⟨rfl, rfl⟩)
              go_round
              case rel => exact ⟨k + 1, by omega, by go_num, by show kwFind K s (k + 1) = _; rw [← hr.out, kwFind_go hlt (kwHit_no3 h3)]⟩
              case measure => simp [intOf]; omega
        · have h1b : (bt K k == 32) = false := by simp [h1]
          go_wp2_with (go_at_call 30; refine (lSpaced_c _ _ hs).mono ?_; rintro e w' ⟨rfl, rfl⟩)
          go_round
          case rel => exact ⟨k + 1, by omega, by go_num, by show kwFind K s (k + 1) = _; rw [← hr.out, kwFind_go hlt (kwHit_no1 h1)]⟩
          case measure => simp [intOf]; omega
      · go_wp2_with (go_at_call 30; refine (lSpaced_c _ _ hs).mono ?_; rintro e w' ⟨rfl, rfl⟩)
        go_ret
        exact ⟨ret_bool (by rw [hfin.out, ← hr.out, kwFind_end hlt]), rfl⟩
end Go.Proofs.YtkhjenlclpcehaaDoor
