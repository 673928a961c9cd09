/- The reference's look for what stands ahead of a quotation mark answers as the plain word 'prefOf' says. Condition: the text is shorter than 2^61 bytes. -/
import Derived.Test.YtkhjenlclpcehaaDoorWa
import Derived.Test.YtkhjenlclpcehaaDoorPd
namespace Go.Proofs.YtkhjenlclpcehaaDoor
open Go.RowKit Go.PlainAid

theorem ret_pref {n : Int} {r b : Bool} {o : Option (Nat × Bool × Bool)} (h1 : n = prefNum o) (h2 : r = prefRaw o) (h3 : b = prefBytes o) : Ending.returned (.tuple #[.int .i64 n, .bool r, .bool b]) = .returned (prefVal o) := by rw [h1, h2, h3]; rfl

set_option maxHeartbeats 1600000 in
set_option maxRecDepth 20000 in
theorem Prefix_c (s : ByteArray) (i : Nat) (w : World) (hs : s.size ≤ 2305843009213693952) (hi : i ≤ s.size) :
    Calls Tryd.prog 28 #[.string s, .int .i64 i] w fun e w' => e = .returned (prefVal (prefOf s i)) ∧ w = w' := by
  have hb := get_bt s
  go_enter Tryd.func28, Tryd.ntmps28
  go_wp2
  go_loop [7, 8, 9] (fun r b v => ∃ (raw bytes : Bool) (n f : Nat), n + f = 3 ∧ r = .bool raw ∧ b = .bool bytes ∧ v = .int .i64 n ∧ Hid (prefFrom s i f raw bytes n = prefOf s i)) (fun _ _ v => 3 - (intOf v).toNat)
  case atStart => exact ⟨false, false, 0, 3, rfl, rfl, rfl, rfl, rfl⟩
  case round =>
    obtain ⟨raw, bytes, n, f, hf, rfl, rfl, rfl, hr⟩ := hrel
    by_cases h3 : n < 3
    · obtain ⟨f, rfl⟩ : ∃ g, f = g + 1 := ⟨f - 1, by omega⟩
      have hf1 : n + f ≤ 2 := by omega
      have hf2 : 2 ≤ n + f := by omega
      clear hf
      by_cases hlt : i + n < s.size
      · obtain ⟨c, hc⟩ : ∃ c, bt s (i + n) = c := ⟨_, rfl⟩
        have hb2 : ((s[i + n]'hlt).toNat : Int) = c := by rw [hb, hc]
        have Hc := Lib.hid hc
        clear hc hb
        by_cases hq : c = 34 ∨ c = 39
        · have hfin : Hid (prefOf s i = some (n, raw, bytes)) := by show _ = _; rw [← hr.out, prefFrom_quote hlt (by rw [Hc.out]; exact hq)]
          by_cases h1 : c = 34
          · have h1b : (c == 34) = true := by simp [h1]
            clear hq h1
            go_wp2
            go_ret3
            exact ⟨ret_pref (by rw [hfin.out]; rfl) (by rw [hfin.out]; rfl) (by rw [hfin.out]; rfl), rfl⟩
          · have h1b : (c == 34) = false := by simp [h1]
            have h2b : (c == 39) = true := by simp; omega
            clear hq h1
            go_wp2
            go_ret3
            exact ⟨ret_pref (by rw [hfin.out]; rfl) (by rw [hfin.out]; rfl) (by rw [hfin.out]; rfl), rfl⟩
        · have q1 : (c == 34) = false := by simp; omega
          have q2 : (c == 39) = false := by simp; omega
          by_cases hra : (c = 114 ∨ c = 82) ∧ raw = false
          · obtain ⟨hra, rfl⟩ := hra
            have hstep : Hid (prefFrom s i f true bytes (n + 1) = prefOf s i) := by show _ = _; rw [← hr.out, prefFrom_raw hlt (by rw [Hc.out]; exact hra)]
            by_cases h1 : c = 114
            · have h1b : (c == 114) = true := by simp [h1]
              clear hra h1 hq hr
              go_wp2
              go_round
              case rel => exact ⟨true, bytes, n + 1, f, by omega, rfl, rfl, by go_num, hstep⟩
              case measure => simp [intOf]; omega
            · have h1b : (c == 114) = false := by simp [h1]
              have h2b : (c == 82) = true := by simp; omega
              clear hra h1 hq hr
              go_wp2
              go_round
              case rel => exact ⟨true, bytes, n + 1, f, by omega, rfl, rfl, by go_num, hstep⟩
              case measure => simp [intOf]; omega
          · by_cases hby : (c = 98 ∨ c = 66) ∧ bytes = false
            · obtain ⟨hby, rfl⟩ := hby
              have hstep : Hid (prefFrom s i f raw true (n + 1) = prefOf s i) := by show _ = _; rw [← hr.out, prefFrom_bytes hlt (by rw [Hc.out]; exact hby)]
              have r1 : (c == 114) = false := by simp; omega
              have r2 : (c == 82) = false := by simp; omega
              by_cases h1 : c = 98
              · have h1b : (c == 98) = true := by simp [h1]
                clear hby h1 hra hq hr
                go_wp2
                go_round
                case rel => exact ⟨raw, true, n + 1, f, by omega, rfl, rfl, by go_num, hstep⟩
                case measure => simp [intOf]; omega
              · have h1b : (c == 98) = false := by simp [h1]
                have h2b : (c == 66) = true := by simp; omega
                clear hby h1 hra hq hr
                go_wp2
                go_round
                case rel => exact ⟨raw, true, n + 1, f, by omega, rfl, rfl, by go_num, hstep⟩
                case measure => simp [intOf]; omega
            · have hfin : Hid (prefOf s i = none) := by show _ = _; rw [← hr.out, prefFrom_none hlt (by rw [Hc.out]; exact hq) (by rw [Hc.out]; exact hra) (by rw [Hc.out]; exact hby)]
              cases raw <;> cases bytes <;> simp at hra hby
              all_goals
                go_wp2
                all_goals
                  go_ret3
                  exact ⟨ret_pref (by rw [hfin.out]; rfl) (by rw [hfin.out]; rfl) (by rw [hfin.out]; rfl), rfl⟩
      · have hfin : Hid (prefOf s i = none) := by show _ = _; rw [← hr.out, prefFrom_end hlt]
        go_wp2
        go_ret3
        exact ⟨ret_pref (by rw [hfin.out]; rfl) (by rw [hfin.out]; rfl) (by rw [hfin.out]; rfl), rfl⟩
    · obtain rfl : f = 0 := by omega
      have hfin : Hid (prefOf s i = none) := by show _ = _; rw [← hr.out]; rfl
      go_wp2
      go_ret3
      exact ⟨ret_pref (by rw [hfin.out]; rfl) (by rw [hfin.out]; rfl) (by rw [hfin.out]; rfl), rfl⟩
end Go.Proofs.YtkhjenlclpcehaaDoor
