/- zzHex of package token at a number below 128 and width 2: its two digits. Condition: the table of math/bits holds what it was laid with. -/
import Derived.Test.YtkhjenlclpcehaaDoorIh
namespace Go.Proofs.YtkhjenlclpcehaaDoor
open Go.RowKit Go.PlainAid Go.Joins

set_option maxHeartbeats 1000000 in
set_option maxRecDepth 100000 in
theorem FormatUintI_c (c : Nat) (w : World) (hc : c < 128) (htab : Lib.TabIs Tryd.prog w "math/bits.deBruijn64tab" .u8 tab64) :
    Calls Tryd.prog 54 #[.int .u64 c, .int .i64 16] w fun e w' => e = .returned (.string ⟨(hexS c).toArray⟩) ∧ Below w.heap.size w w' := by
  have h1 := Lib.hid (formatBits_c c w hc htab)
  clear htab
  go_enter Tryd.func54, Tryd.ntmps54
  go_wp2_with fail
  refine h1.out.mono ?_
  rintro e w' ⟨rfl, hb⟩
  go_wp2
  go_ret
  exact ⟨rfl, hb⟩

set_option maxHeartbeats 1000000 in
set_option maxRecDepth 100000 in
theorem FormatUint_c (c : Nat) (w : World) (hc : c < 128) (htab : Lib.TabIs Tryd.prog w "math/bits.deBruijn64tab" .u8 tab64) :
    Calls Tryd.prog 50 #[.int .u64 c, .int .i64 16] w fun e w' => e = .returned (.string ⟨(hexS c).toArray⟩) ∧ Below w.heap.size w w' := by
  have h1 := Lib.hid (FormatUintI_c c w hc htab)
  clear htab
  go_enter Tryd.func50, Tryd.ntmps50
  go_wp2_with fail
  refine h1.out.mono ?_
  rintro e w' ⟨rfl, hb⟩
  go_wp2
  go_ret
  exact ⟨rfl, hb⟩

/-- The number in two digits. -/
def hex2 (c : Nat) : List UInt8 := [hexD (c / 16), hexD (c % 16)]
set_option maxHeartbeats 2000000 in
set_option maxRecDepth 100000 in
theorem zzHex_c (c : Nat) (w : World) (hc : c < 128) (htab : Lib.TabIs Tryd.prog w "math/bits.deBruijn64tab" .u8 tab64) :
    Calls Tryd.prog 40 #[.int .u64 c, .int .i64 2] w fun e w' => e = .returned (.string ⟨(hex2 c).toArray⟩) ∧ Below w.heap.size w w' := by
  have h1 := Lib.hid (FormatUint_c c w hc htab)
  clear htab
  go_enter Tryd.func40, Tryd.ntmps40
  go_wp2_with fail
  refine h1.out.mono ?_
  rintro e w1 ⟨rfl, hb⟩
  clear h1
  go_wp2_with fail
  go_loopw [5] (fun v5 wr => (v5 = .string ⟨(hexS c).toArray⟩ ∨ v5 = .string ⟨(hex2 c).toArray⟩) ∧ Below w.heap.size w wr) (fun v5 _ => match v5 with | .string s => 2 - s.size | _ => 0)
  case atStart => exact ⟨Or.inl rfl, hb⟩
  case round =>
    obtain ⟨hv, hbw⟩ := hrel
    have hs2 : (ByteArray.mk (hex2 c).toArray).size = 2 := rfl
    by_cases hlt : c < 16
    · have e1 : (ByteArray.mk (hexS c).toArray) = ⟨#[hexD c]⟩ := by unfold hexS; rw [if_pos hlt]
      have e2 : (ByteArray.mk (hex2 c).toArray) = ⟨#[48, hexD c]⟩ := by
        unfold hex2
        rw [show c / 16 = 0 by omega, show c % 16 = c by omega]; rfl
      rw [e1, e2] at hv
      rcases hv with rfl | rfl
      · go_wp2
        have e3 : (ByteArray.mk #[48] ++ ByteArray.mk #[hexD c]) = ⟨#[48, hexD c]⟩ := rfl
        rw [e3, e2]
        exact ⟨⟨Or.inr rfl, hbw⟩, by show 2 - 2 < 2 - 1; decide⟩
      · go_wp2
        go_ret
        exact ⟨by rw [e2]; rfl, hbw⟩
    · have e1 : hexS c = hex2 c := by unfold hexS hex2; rw [if_neg hlt]
      rw [e1, or_self] at hv
      subst hv
      go_wp2
      go_ret
      exact ⟨rfl, hbw⟩
end Go.Proofs.YtkhjenlclpcehaaDoor
