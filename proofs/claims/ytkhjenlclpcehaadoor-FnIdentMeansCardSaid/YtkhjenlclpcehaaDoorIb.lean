/- The parser's keywords are the plain list. No condition. -/
import Derived.Test.YtkhjenlclpcehaaDoorWb
namespace Go.Proofs.YtkhjenlclpcehaaDoor
open Go.RowKit Go.PlainAid

def zzB (s : ByteArray) : Bool := kwList.any (fun l => s.toList == l)
theorem zz_hit {s : ByteArray} {l : List UInt8} (h : (s.toList == l) = true) (hl : kwList.any (fun k => l == k) = true) : true = zzB s := by
  unfold zzB; rw [eq_of_beq h]; exact hl.symm

set_option maxHeartbeats 6400000 in
set_option maxRecDepth 100000 in
theorem ZzKeyword_c (s : ByteArray) (w : World) :
    Calls Tryd.prog 43 #[.string s] w fun e w' => e = .returned (.bool (zzB s)) ∧ w = w' := by
  go_enter Tryd.func43, Tryd.ntmps43
  go_wp2
  all_goals first
    | (rename_i h1 h2; rw [h1] at h2; cases h2; done)
    | (rename_i h; go_ret; exact ⟨ret_bool (zz_hit h rfl), rfl⟩)
    | (go_ret; refine ⟨ret_bool ?_, rfl⟩; unfold zzB kwList; simp only [List.any_cons, List.any_nil, *]; rfl)
end Go.Proofs.YtkhjenlclpcehaaDoor
