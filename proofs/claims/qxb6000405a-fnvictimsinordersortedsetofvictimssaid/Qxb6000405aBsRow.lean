import Derived.Test.Qxb6000405aOwn
import Derived.ProofKit
import Derived.OpenShut
/-! A []int32 that came in, as 'Bs' has it. -/
namespace Go.Proofs.Qxb6000405a
open Go.ChangeShapes Go.WideShapes Go.ChangeAt Go.RowKit

theorem Bs.of_row {w : World} {x : Addr} {len : Nat} {zs : List Int} (hl : len ≤ zs.length) (hc : ∀ i, i < zs.length → w.cell? (x.add i) = some (.int .i32 (zs.getD i 0))) : Bs w (some x) len (zs.take len) := by
  refine ⟨by simp; omega, by simp, fun y hy j u hu => ?_⟩
  obtain rfl := Option.some.inj hy
  have hj : j < len := by
    have := (List.getElem?_eq_some_iff.1 hu).1
    simp at this
    omega
  rw [hc j (by omega)]
  simp only [List.getElem?_map, List.getElem?_take, if_pos hj] at hu
  rw [List.getElem?_eq_getElem (by omega)] at hu
  simp [List.getD, List.getElem?_eq_getElem (show j < zs.length by omega)]
  simpa using hu

theorem Bs.nil (w : World) : Bs w none 0 [] := ⟨rfl, fun _ => rfl, fun x h => by cases h⟩

end Go.Proofs.Qxb6000405a
