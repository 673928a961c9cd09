/- unicode.IsPrint at a byte below 128: from the table of properties. Condition: the table holds what it was laid with. -/
import Derived.Test.YtkhjenlclpcehaaDoorWa
import Derived.Lib.LaidTab
import Derived.Lib.Props
namespace Go.Proofs.YtkhjenlclpcehaaDoor
open Go.RowKit Go.PlainAid

theorem print_tab : ∀ c, c < 128 → (decide (((Lib.propertiesTab.getD c 0).toNat &&& 128) = 0) = !decide (32 ≤ c ∧ c ≤ 126)) ∧ 0 ≤ Lib.propertiesTab.getD c 0 ∧ Lib.propertiesTab.getD c 0 < 256 := by decide +kernel

set_option maxHeartbeats 2000000 in
set_option maxRecDepth 1000000 in
theorem IsPrint_c (c : Nat) (w : World) (hc : c < 128) (htab : Lib.TabIs Tryd.prog w "unicode.properties" .u8 Lib.propertiesTab) :
    Calls Tryd.prog 38 #[.int .i32 c] w fun e w' => e = .returned (.bool (decide (32 ≤ c ∧ c ≤ 126))) ∧ w' = w := by
  obtain ⟨p1, p4, p5⟩ := print_tab c hc
  have hcell : w.cell? ⟨1, c, none⟩ = some (.int .u8 (Lib.propertiesTab.getD c 0)) := htab.cell (by kernel_rfl) c (by rw [Lib.propertiesTab_length]; omega)
  generalize Lib.propertiesTab.getD c 0 = pv at *
  have hand : bits .and .u8 pv 128 = ((pv.toNat &&& 128 : Nat) : Int) := u8_and pv 128 p4 p5 (by decide) (by decide)
  generalize pv.toNat &&& 128 = q at *
  have e : decide (32 ≤ c ∧ c ≤ 126) = !decide (q = 0) := by rw [p1, Bool.not_not]
  clear htab p1
  rw [e]
  clear e
  have hcz : (c : Int) ≤ 255 := by omega
  have hcz2 : (c : Int) < 256 := by omega
  go_enter Tryd.func38, Tryd.ntmps38
  go_wp2
  all_goals (go_ret; refine ⟨congrArg Ending.returned ?_, rfl⟩; show Value.bool _ = Value.bool _; refine congrArg Value.bool ?_; by_cases hq : q = 0 <;> simp [hq] <;> omega)
end Go.Proofs.YtkhjenlclpcehaaDoor
