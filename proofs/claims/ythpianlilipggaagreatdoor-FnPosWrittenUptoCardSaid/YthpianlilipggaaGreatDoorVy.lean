/- The law's words and numerals. Condition: texts are at most 2^24 letters long. -/
import Derived.Test.YthpianlilipggaaGreatDoorVx
namespace Go.Proofs.YthpianlilipggaaGreatDoor
open Go.RowKit Go.PlainAid

theorem u8_le (c : UInt8) : c.toNat ≤ 255 := by have := UInt8.toNat_lt c; omega
theorem digit_c (c : UInt8) (W : World) : Calls Tryz.prog 23 #[.int .u8 (c.toNat : Int)] W fun e w' => e = .returned (.bool (dch c)) ∧ W = w' := by
  have h := u8_le c
  go_enter Tryz.func23, Tryz.ntmps23
  go_wp2
  all_goals (go_ret; refine ⟨ret_bool (bool_ext ?_), rfl⟩; simp [dch] at *; try omega)
theorem letB (c : UInt8) : (lch c || c == 95) = decide ((97 ≤ (c.toNat : Int) ∧ (c.toNat : Int) ≤ 122) ∨ (65 ≤ (c.toNat : Int) ∧ (c.toNat : Int) ≤ 90) ∨ (c.toNat : Int) = 95) := by
  apply bool_ext
  have e : (c == 95) = true ↔ c.toNat = 95 := by
    rw [beq_iff_eq]
    exact ⟨fun h => by rw [h]; rfl, fun h => UInt8.toNat_inj.1 h⟩
  rw [Bool.or_eq_true, e, decide_eq_true_iff]
  simp only [lch, Bool.or_eq_true, Bool.and_eq_true, decide_eq_true_eq]
  omega
theorem letter_c (c : UInt8) (W : World) : Calls Tryz.prog 15 #[.int .u8 (c.toNat : Int)] W fun e w' => e = .returned (.bool (lch c || c == 95)) ∧ W = w' := by
  rw [letB]
  have h := u8_le c
  go_enter Tryz.func15, Tryz.ntmps15
  go_wp2
  all_goals (go_ret; refine ⟨ret_bool (bool_ext ?_), rfl⟩; simp at *; try omega)
theorem wordy_c (c : UInt8) (W : World) : Calls Tryz.prog 16 #[.int .u8 (c.toNat : Int)] W fun e w' => e = .returned (.bool (wch c)) ∧ W = w' := by
  have e : wch c = ((lch c || c == 95) || dch c) := by unfold wch; cases lch c <;> cases dch c <;> cases (c == 95) <;> rfl
  rw [e]
  have Hl := Lib.hid (letter_c c W)
  have Hd := Lib.hid (digit_c c W)
  generalize (lch c || c == 95) = b1 at Hl ⊢
  generalize dch c = b2 at Hd ⊢
  cases b1 with
  | true =>
    go_enter Tryz.func16, Tryz.ntmps16
    go_wp2_with (first | (go_at_call 15; refine Hl.out.mono ?_; rintro e w' ⟨rfl, rfl⟩) | (go_at_call 23; refine Hd.out.mono ?_; rintro e w' ⟨rfl, rfl⟩))
    go_ret
    exact ⟨rfl, rfl⟩
  | false =>
    go_enter Tryz.func16, Tryz.ntmps16
    go_wp2_with (first | (go_at_call 15; refine Hl.out.mono ?_; rintro e w' ⟨rfl, rfl⟩) | (go_at_call 23; refine Hd.out.mono ?_; rintro e w' ⟨rfl, rfl⟩))
    go_ret
    exact ⟨rfl, rfl⟩
theorem bt_mk (v : Bs) (k : Nat) (h : k < v.length) : bt ⟨v.toArray⟩ k = ((v[k]'h).toNat : Int) := by
  have hs : k < (ByteArray.mk v.toArray).size := by rw [sz_mk]; exact h
  rw [← get_bt ⟨v.toArray⟩ k hs]
  rfl
set_option maxHeartbeats 1000000 in
theorem word_c (v : Bs) (W : World) (hv : v.length ≤ 16777216) : Calls Tryz.prog 11 #[.string ⟨v.toArray⟩] W fun e w' => e = .returned (.bool (wordB v)) ∧ W = w' := by
  cases v with
  | nil =>
    go_enter Tryz.func11, Tryz.ntmps11
    go_wp2_with fail
    go_ret
    exact ⟨rfl, rfl⟩
  | cons c r =>
    have hz : (ByteArray.mk (c :: r).toArray).size = r.length + 1 := by rw [sz_mk]; rfl
    have h0 : bt ⟨(c :: r).toArray⟩ 0 = (c.toNat : Int) := bt_mk (c :: r) 0 (by simp)
    have hr := fun k (h : k < r.length) => bt_mk (c :: r) (k + 1) (by simpa using h)
    simp only [List.getElem_cons_succ] at hr
    have he : (ByteArray.mk (c :: r).toArray).toList.isEmpty = false := by rw [ByteArray.toList_eq]; rfl
    have he2 : (!(ByteArray.mk (c :: r).toArray).toList.isEmpty) = true := by rw [he]; rfl
    have hb := get_bt ⟨(c :: r).toArray⟩
    generalize (⟨(c :: r).toArray⟩ : ByteArray) = s at hz h0 hr he he2 hb ⊢
    have hsz : s.size ≤ 16777216 := by rw [hz]; exact hv
    have hpos : 0 < s.size := by omega
    have Hl := Lib.hid (letter_c c W)
    cases hl : (lch c || c == 95) with
    | false =>
      have hw : wordB (c :: r) = false := by simp only [wordB, hl, Bool.false_and]
      rw [hw]
      rw [hl] at Hl
      clear hr hz hl hw hv
      go_enter Tryz.func11, Tryz.ntmps11
      go_wp2_with (go_at_call 15; refine Hl.out.mono ?_; rintro e w' ⟨rfl, rfl⟩)
      go_ret
      exact ⟨rfl, rfl⟩
    | true =>
      have hw : wordB (c :: r) = r.all wch := by simp only [wordB, hl, Bool.true_and]
      rw [hw]
      rw [hl] at Hl
      have Hz := Lib.hid hz
      have Hr := Lib.hid hr
      clear hr hz hl hw hv
      go_enter Tryz.func11, Tryz.ntmps11
      go_wp2_with (go_at_call 15; refine Hl.out.mono ?_; rintro e w' ⟨rfl, rfl⟩)
      go_loop [3] (fun v3 => ∃ j : Nat, j ≤ r.length ∧ v3 = .int .i64 ((j : Int) + 1) ∧ (r.take j).all wch = true) (fun v3 => s.size - (intOf v3).toNat)
      case atStart => exact ⟨0, Nat.zero_le _, rfl, rfl⟩
      case round =>
        obtain ⟨j, hj, rfl, hall⟩ := hrel
        have hz := Hz.out
        by_cases hlt : j < r.length
        · have hbj := Hr.out j hlt
          have Hw := Lib.hid (wordy_c (r[j]'hlt) W)
          have htk : r.take (j + 1) = r.take j ++ [r[j]'hlt] := List.take_succ_eq_append_getElem hlt
          have hi0 : (0 : Int) ≤ (j : Int) + 1 := by omega
          have hi1 : (j : Int) + 1 < (s.size : Int) := by omega
          have hn : ((j : Int) + 1).toNat = j + 1 := by omega
          have hi2 : j + 1 < s.size := by omega
          have Hhz := Lib.hid hz
          have Htk := Lib.hid htk
          have Hall := Lib.hid hall
          generalize hd : r[j]'hlt = d at hbj Hw Htk
          have Hd := Lib.hid hd
          clear hz htk hall hd
          cases hwd : wch d with
          | true =>
            rw [hwd] at Hw
            have Hwd := Lib.hid hwd
            clear hwd
            go_wp2_with (go_at_call 16; refine Hw.out.mono ?_; rintro e w' ⟨rfl, rfl⟩)
            go_round
            case rel => exact ⟨j + 1, hlt, by go_num, by rw [Htk.out, List.all_append, Hall.out]; simp [Hwd.out]⟩
            case measure => simp [intOf]; omega
          | false =>
            rw [hwd] at Hw
            have hf : r.all wch = false := by
              rw [List.all_eq_false]
              exact ⟨d, by rw [← Hd.out]; exact List.getElem_mem hlt, by rw [hwd]; simp⟩
            have Hf := Lib.hid hf
            clear hwd hf
            go_wp2_with (go_at_call 16; refine Hw.out.mono ?_; rintro e w' ⟨rfl, rfl⟩)
            go_ret
            exact ⟨ret_bool Hf.out.symm, rfl⟩
        · have ej : j = r.length := by omega
          subst ej
          rw [List.take_length] at hall
          have Hall := Lib.hid hall
          clear hall
          go_wp2_with fail
          go_ret
          exact ⟨ret_bool Hall.out.symm, rfl⟩
end Go.Proofs.YthpianlilipggaaGreatDoor
