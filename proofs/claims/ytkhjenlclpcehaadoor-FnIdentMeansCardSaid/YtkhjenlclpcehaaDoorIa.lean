/- The tests of one byte of package char, and the law's test of small bytes. Condition: the text is shorter than 2^62 bytes. -/
import Derived.Test.YtkhjenlclpcehaaDoorWa
namespace Go.Proofs.YtkhjenlclpcehaaDoor
open Go.RowKit Go.PlainAid

theorem IdStart_c (c : Int) (w : World) :
    Calls Tryd.prog 32 #[.int .u8 c] w fun e w' => e = .returned (.bool (letterB c)) ∧ w = w' := by
  go_enter Tryd.func32, Tryd.ntmps32
  go_wp2
  all_goals (go_ret; refine ⟨ret_bool (bool_ext ?_), rfl⟩; rw [letterB_iff]; simp; try omega)
theorem IdPart_c (c : Int) (w : World) :
    Calls Tryd.prog 33 #[.int .u8 c] w fun e w' => e = .returned (.bool (partB c)) ∧ w = w' := by
  go_enter Tryd.func33, Tryd.ntmps33
  go_wp2
  all_goals (go_ret; refine ⟨ret_bool (bool_ext ?_), rfl⟩; rw [partB_iff]; simp; try omega)

/-- All bytes from a place on are below 128. -/
def asciiFrom (s : ByteArray) (i : Nat) : Bool := if h : i < s.size then decide (bt s i < 128) && asciiFrom s (i + 1) else true
termination_by s.size - i
theorem asciiFrom_no {s : ByteArray} {i : Nat} (h : i < s.size) (hb : 128 ≤ bt s i) : asciiFrom s i = false := by
  rw [asciiFrom, dif_pos h, decide_eq_false (by omega)]; rfl
theorem asciiFrom_go {s : ByteArray} {i : Nat} (h : i < s.size) (hb : bt s i < 128) : asciiFrom s i = asciiFrom s (i + 1) := by
  rw [asciiFrom, dif_pos h, decide_eq_true hb]; rfl
theorem asciiFrom_end {s : ByteArray} {i : Nat} (h : ¬ i < s.size) : asciiFrom s i = true := by rw [asciiFrom, dif_neg h]
theorem asciiFrom_bt {s : ByteArray} : ∀ (m i : Nat), asciiFrom s i = true → i + m < s.size → bt s (i + m) < 128
  | 0, i, h, hm => by
    rw [asciiFrom, dif_pos (by omega)] at h
    simp at h
    exact h.1
  | m + 1, i, h, hm => by
    rw [asciiFrom, dif_pos (by omega)] at h
    simp at h
    have := asciiFrom_bt m (i + 1) h.2 (by omega)
    have e : i + (m + 1) = i + 1 + m := by omega
    rw [e]; exact this

theorem ascii_c (s : ByteArray) (w : World) (hs : s.size ≤ 4611686018427387904) :
    Calls Tryd.prog 4 #[.string s] w fun e w' => e = .returned (.bool (asciiFrom s 0)) ∧ w = w' := by
  have hb := get_bt s
  go_enter Tryd.func4, Tryd.ntmps4
  go_wp2
  go_loop [3] (fun v => ∃ k : Nat, k ≤ s.size ∧ v = .int .i64 k ∧ Hid (asciiFrom s k = asciiFrom s 0)) (fun v => s.size - (intOf v).toNat)
  case atStart => exact ⟨0, by omega, rfl, rfl⟩
  case round =>
    obtain ⟨k, hk, rfl, hr⟩ := hrel
    by_cases hlt : k < s.size
    · by_cases hbl : bt s k < 128
      · go_wp2
        go_round
        case rel => exact ⟨k + 1, by omega, by go_num, by show asciiFrom s (k + 1) = _; rw [← hr.out, asciiFrom_go hlt hbl]⟩
        case measure => simp [intOf]; omega
      · go_wp2
        go_ret
        refine ⟨ret_bool ?_, rfl⟩
        rw [← hr.out, asciiFrom_no hlt (by omega)]
    · go_wp2
      go_ret
      refine ⟨ret_bool ?_, rfl⟩
      rw [← hr.out, asciiFrom_end hlt]
end Go.Proofs.YtkhjenlclpcehaaDoor
