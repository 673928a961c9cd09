/- A name that needs no backquotes is bare. No condition but that the name is not empty. -/
import Derived.Test.YtkhjenlclpcehaaDoorWn
import Derived.Test.YtkhjenlclpcehaaDoorIe
import Derived.Test.YtkhjenlclpcehaaDoorPl
namespace Go.Proofs.YtkhjenlclpcehaaDoor
open Go.PlainAid

theorem bare_need (s : ByteArray) (h : 0 < s.size) : bareB s = !needB s := by
  unfold bareB needB
  rw [kwB_zzB, decide_eq_true h]
  cases letterB (bt s 0) <;> cases zzB (upperS s) <;> simp
end Go.Proofs.YtkhjenlclpcehaaDoor
