/- The list of the operators of more than one byte. -/
import Derived.Test.YtiicdalodfjgaaaGreatFmtSpH
namespace Go.Proofs.YtiicdalodfjgaaaGreatFmt
open Go.RowKit

def sgC : Array Value := (sgL.map Value.string).toArray
theorem sgC_at (i : Nat) (h : i < 13) : sgC[i]? = some (.string (sgL.getD i ⟨#[]⟩)) := by
  have hl : sgL.length = 13 := rfl
  unfold sgC
  simp [hl, h]
set_option maxRecDepth 100000 in
theorem signs_any (w : World) : Calls Tryz.prog 46 #[] w fun e w' => e = .returned (.slice (some ⟨w.heap.size, 0, none⟩) 13 13) ∧ w' = w.alloc (.cells sgC 9) := by
  go_enter Tryz.func46, Tryz.ntmps46
  go_wp2_with fail
  go_ret
  exact ⟨rfl, rfl⟩
end Go.Proofs.YtiicdalodfjgaaaGreatFmt
