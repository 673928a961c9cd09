/- What package token writes for one character between backquotes: an escape, or nothing. Condition: the character is below 128. -/
import Derived.Test.YtkhjenlclpcehaaDoorWa
namespace Go.Proofs.YtkhjenlclpcehaaDoor
open Go.RowKit Go.PlainAid

def escQ (r : Int) : ByteArray := if r = 96 then ⟨#[92, 96]⟩ else if r = 10 then ⟨#[92, 110]⟩ else if r = 13 then ⟨#[92, 114]⟩ else if r = 9 then ⟨#[92, 116]⟩ else if r = 92 then ⟨#[92, 92]⟩ else ⟨#[]⟩
theorem ret_str {a b : ByteArray} (h : a = b) : Ending.returned (.string a) = .returned (.string b) := by rw [h]

theorem escape96_c (r : Int) (w : World) (h0 : 0 ≤ r) (h1 : r < 128) :
    Calls Tryd.prog 36 #[.int .i32 r, .int .i32 96, .bool true] w fun e w' => e = .returned (.string (escQ r)) ∧ w = w' := by
  by_cases h96 : r = 96
  · subst h96
    go_enter Tryd.func36, Tryd.ntmps36
    go_wp2
    go_ret
    exact ⟨ret_str (by decide +kernel), rfl⟩
  · by_cases h10 : r = 10
    · subst h10
      go_enter Tryd.func36, Tryd.ntmps36
      go_wp2
      go_ret
      exact ⟨rfl, rfl⟩
    · by_cases h13 : r = 13
      · subst h13
        go_enter Tryd.func36, Tryd.ntmps36
        go_wp2
        go_ret
        exact ⟨rfl, rfl⟩
      · by_cases h9 : r = 9
        · subst h9
          go_enter Tryd.func36, Tryd.ntmps36
          go_wp2
          go_ret
          exact ⟨rfl, rfl⟩
        · by_cases h92 : r = 92
          · subst h92
            go_enter Tryd.func36, Tryd.ntmps36
            go_wp2
            go_ret
            exact ⟨rfl, rfl⟩
          · have e1 : (r == 96) = false := by simp [h96]
            have e2 : (r == 10) = false := by simp [h10]
            have e3 : (r == 13) = false := by simp [h13]
            have e4 : (r == 9) = false := by simp [h9]
            have e5 : (r == 92) = false := by simp [h92]
            have he : Hid (escQ r = ⟨#[]⟩) := by show _ = _; simp [escQ, h96, h10, h13, h9, h92]
            clear h96 h10 h13 h9 h92
            go_enter Tryd.func36, Tryd.ntmps36
            go_wp2
            go_ret
            exact ⟨ret_str he.out.symm, rfl⟩
end Go.Proofs.YtkhjenlclpcehaaDoor
