/- Part 25 of the proof: BytBin. -/
import Derived.Test.YtjekbomlpcdojaaGreatDoorK10
import Derived.Test.YtjekbomlpcdojaaGreatDoorK11
set_option linter.unusedVariables false
set_option linter.unusedSimpArgs false
set_option linter.unusedSectionVars false
set_option maxHeartbeats 16000000
namespace Go.Proofs.YtjekbomlpcdojaaGreatDoor
open Go Go.RowKit
theorem bytesAt_row {w : World} {g m cap : Nat} {sc l : List UInt8} {T : TypeId} (hb : w.heap[g]? = some (.cells (bcells sc).toArray T (0, 0))) (ht : sc.take m = l) (hl : l.length = m) (hc : m ≤ cap) (hcap : cap ≤ 140737488355328) : BytesAt (fun _ => True) w (.slice (some ⟨g, 0, none⟩) m cap) l := by
 by_cases hz : l = []
 ·subst hz
  simp at hl
  subst hl
  exact .inl ⟨rfl, _, _, rfl⟩
 ·refine .inr ⟨hz, g, 0, cap, by rw [hl], by omega, by omega, trivial, fun j b hj => ?_⟩
  obtain ⟨hj', e⟩ := List.getElem?_eq_some_iff.mp hj
  rw [row_cells hb ht j hj', e]
end Go.Proofs.YtjekbomlpcdojaaGreatDoor
