/- The reference's numbers are the plain ones. Condition: the text is shorter than 2^61 bytes. -/
import Derived.Test.YtkhjenlclpcehaaDoorBb
import Derived.Test.YtkhjenlclpcehaaDoorPe
import Derived.Deep.DeepCutAuto
import Derived.Deep.CutBlock
namespace Go.Proofs.YtkhjenlclpcehaaDoor
open Go.RowKit Go.PlainAid

theorem ret_ib {a b : Int} {c d : Bool} (h : a = b) (h2 : c = d) : Ending.returned (.tuple #[.int .i64 a, .bool c]) = .returned (.tuple #[.int .i64 b, .bool d]) := by rw [h, h2]

/-- What a number leaves: the end, whether it is one; the token's kind and base. -/
def NumPost (s : ByteArray) (i b : Nat) (x : TokS) (w : World) (e : Ending) (w' : World) : Prop :=
  e = .returned (.tuple #[.int .i64 (numOf s i).stop, .bool (numOf s i).ok]) ∧ TokAt w' b { x with kind := numKind (numOf s i).float, base := (numOf s i).base } ∧ Only b w w'

set_option maxHeartbeats 3200000 in
set_option maxRecDepth 100000 in
theorem lNumber_hex (s : ByteArray) (i b : Nat) (x : TokS) (w : World) (hs : s.size ≤ 2305843009213693952) (ht : TokAt w b x) (hx : isHexAt s i) :
    Calls Tryd.prog 27 #[.string s, .int .i64 i, .pointer (some ⟨b, 0, none⟩)] w (NumPost s i b x w) := by
  have hb := get_bt s
  have hbn := bt_nonneg s
  have hbl := bt_le s
  have hi2 : i + 2 ≤ s.size := by
    rcases hx with h | h
    · exact startsB_two h
    · exact startsB_two h
  have hfin := Lib.hid (numOf_hex hx)
  have hf0 := ht.free 0
  have hf4 := ht.free 4
  have hc0 := ht.cell0
  have hc4 := ht.cell4
  unfold isHexAt at hx
  cases h1 : startsB s i ⟨#[48, 120]⟩ <;> cases h2 : startsB s i ⟨#[48, 88]⟩
  · simp [h1, h2] at hx
  all_goals
    clear hx
    go_enter Tryd.func27, Tryd.ntmps27
    go_wp2_with (go_at_call 23; refine (lStarts_c _ _ _ _ (by omega) (by decide) (by omega)).mono ?_; rintro e w' ⟨rfl, rfl⟩)
    go_loop [8] (fun v => ∃ k : Nat, k ≤ s.size ∧ v = .int .i64 k ∧ Hid (hexEnd s k = hexEnd s (i + 2))) (fun v => s.size - (intOf v).toNat)
    case atStart => exact ⟨i + 2, hi2, by go_num, rfl⟩
    case round =>
      obtain ⟨k, hk, rfl, hr⟩ := hrel
      have hn0 := hbn k
      have hn1 := hbl k
      clear hbn hbl
      by_cases hlt : k < s.size
      · by_cases hv : 0 ≤ hexV (bt s k)
        · go_wp2_with (go_at_call 42; refine (Hex_c _ _ hn0 hn1).mono ?_; rintro e w' ⟨rfl, rfl⟩)
          go_round
          case rel => exact ⟨k + 1, by omega, by go_num, by show hexEnd s (k + 1) = _; rw [← hr.out, hexEnd_go hlt hv]⟩
          case measure => simp [intOf]; omega
        · have hst := Lib.hid (hexEnd_stop (s := s) (i := k) (fun h => hv h.2))
          go_wp2_with (first | (go_at_call 42; refine (Hex_c _ _ hn0 hn1).mono ?_; rintro e w' ⟨rfl, rfl⟩) | (go_at_call 24; refine (IdentPart_c _ _).mono ?_; rintro e w' ⟨rfl, rfl⟩))
          go_ret2
          refine ⟨?_, ?_, ?_⟩
          · exact ret_ib (by rw [hfin.out, ← hr.out, hst.out]) (by rw [hfin.out, ← hr.out, hst.out]; show _ = loose s k; rw [loose_in hlt])
          · rw [hfin.out]; exact (ht.setKind kInt).setBase 16
          · exact ((Only.refl b w).setCell 0 _).setCell 4 _
      · have hst := Lib.hid (hexEnd_stop (s := s) (i := k) (fun h => hlt h.1))
        go_wp2
        go_ret2
        refine ⟨?_, ?_, ?_⟩
        · exact ret_ib (by rw [hfin.out, ← hr.out, hst.out]) (by rw [hfin.out, ← hr.out, hst.out]; show _ = loose s k; rw [loose_end hlt])
        · rw [hfin.out]; exact (ht.setKind kInt).setBase 16
        · exact ((Only.refl b w).setCell 0 _).setCell 4 _

end Go.Proofs.YtkhjenlclpcehaaDoor
