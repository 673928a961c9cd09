/- Whether a name needs backquotes, as package token says it. Condition: the name is not empty and at most 2^38 bytes long. -/
import Derived.Test.YtkhjenlclpcehaaDoorIa
import Derived.Test.YtkhjenlclpcehaaDoorIb
import Derived.Test.YtkhjenlclpcehaaDoorIc
import Derived.Test.YtkhjenlclpcehaaDoorPi
namespace Go.Proofs.YtkhjenlclpcehaaDoor
open Go.RowKit Go.PlainAid

def needB (s : ByteArray) : Bool := zzB (upperS s) || !letterB (bt s 0) || !decide (partsEnd s 0 = s.size)

theorem IsKeyword_c (s : ByteArray) (w : World) (hs : s.size ≤ 274877906944) :
    Calls Tryd.prog 31 #[.string s] w fun e w' => e = .returned (.bool (zzB (upperS s))) ∧ Below w.heap.size w w' := by
  have hU := Lib.hid (ToUpper_c s w hs)
  have hup : (⟨(upperL s.data.toList).toArray⟩ : ByteArray) = upperS s := rfl
  rw [hup] at hU
  clear hup
  go_enter Tryd.func31, Tryd.ntmps31
  go_wp2_with (first
    | (go_at_call 44; refine hU.out.mono ?_; rintro e w' ⟨rfl, hbw⟩)
    | (go_at_call 43; refine (ZzKeyword_c _ _).mono ?_; rintro e w' ⟨rfl, rfl⟩))
  go_ret
  exact ⟨rfl, hbw⟩

set_option maxHeartbeats 800000 in
set_option maxRecDepth 20000 in
theorem needQuote_c (s : ByteArray) (w : World) (hs : s.size ≤ 274877906944) (h0 : 0 < s.size) :
    Calls Tryd.prog 18 #[.string s] w fun e w' => e = .returned (.bool (needB s)) ∧ Below w.heap.size w w' := by
  have hb := get_bt s
  have hK := Lib.hid (IsKeyword_c s w hs)
  have hN : Hid (needB s = (zzB (upperS s) || !letterB (bt s 0) || !decide (partsEnd s 0 = s.size))) := by show _ = _; rfl
  cases hz : zzB (upperS s)
  · rw [hz] at hK hN
    cases hl : letterB (bt s 0)
    · rw [hl] at hN
      go_enter Tryd.func18, Tryd.ntmps18
      go_wp2_with (first
        | (go_at_call 31; refine hK.out.mono ?_; rintro e w' ⟨rfl, hbw⟩)
        | (go_at_call 32; refine (IdStart_c _ _).mono ?_; rintro e w' ⟨rfl, rfl⟩))
      go_ret
      exact ⟨ret_bool (by rw [hN.out]; rfl), hbw⟩
    · rw [hl] at hN
      go_enter Tryd.func18, Tryd.ntmps18
      go_wp2_with (first
        | (go_at_call 31; refine hK.out.mono ?_; rintro e w' ⟨rfl, hbw⟩)
        | (go_at_call 32; refine (IdStart_c _ _).mono ?_; rintro e w' ⟨rfl, rfl⟩))
      go_loop [3] (fun v => ∃ k : Nat, k ≤ s.size ∧ v = .int .i64 k ∧ Hid (partsEnd s k = partsEnd s 0)) (fun v => s.size - (intOf v).toNat)
      case atStart => exact ⟨0, by omega, rfl, rfl⟩
      case round =>
        obtain ⟨k, hk, rfl, hr⟩ := hrel
        by_cases hlt : k < s.size
        · cases hbl : partB (bt s k)
          · go_wp2_with (go_at_call 33; refine (IdPart_c _ _).mono ?_; rintro e w' ⟨rfl, rfl⟩)
            go_ret
            have he : partsEnd s 0 = k := by rw [← hr.out, partsEnd_stop (by simp [hbl])]
            exact ⟨ret_bool (by rw [hN.out, he, decide_eq_false (by omega)]; rfl), hbw⟩
          · go_wp2_with (go_at_call 33; refine (IdPart_c _ _).mono ?_; rintro e w' ⟨rfl, rfl⟩)
            go_round
            case rel => exact ⟨k + 1, by omega, by go_num, by show partsEnd s (k + 1) = _; rw [← hr.out, partsEnd_go hlt hbl]⟩
            case measure => simp [intOf]; omega
        · go_wp2
          go_ret
          have he : partsEnd s 0 = k := by rw [← hr.out, partsEnd_stop (by simp [hlt])]
          exact ⟨ret_bool (by rw [hN.out, he, decide_eq_true (by omega)]; rfl), hbw⟩
  · rw [hz] at hK hN
    go_enter Tryd.func18, Tryd.ntmps18
    go_wp2_with (go_at_call 31; refine hK.out.mono ?_; rintro e w' ⟨rfl, hbw⟩)
    go_ret
    exact ⟨ret_bool (by rw [hN.out]; rfl), hbw⟩
end Go.Proofs.YtkhjenlclpcehaaDoor
