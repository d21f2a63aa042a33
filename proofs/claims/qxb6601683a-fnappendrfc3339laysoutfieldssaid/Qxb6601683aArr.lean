import Derived.Test.Qxb6601683aProg
import Derived.WalkKit
import Derived.ProofKit
import Derived.OpenShut
/-! Arrays of integers by value, opened. -/
namespace Go.Proofs.Qxb6601683a
open Go.ChangeShapes Go.WideShapes Go.ChangeAt Go.RowKit

theorem ints_of_cells (l : List Value) (h : ∀ c ∈ l, ∃ z, c = Value.int .i64 z) : ∃ zs : List Int, zs.length = l.length ∧ l = zs.map (Value.int .i64) := by
  induction l with
  | nil => exact ⟨[], rfl, rfl⟩
  | cons c l ih =>
    obtain ⟨z, rfl⟩ := h c (by simp)
    obtain ⟨zs, h1, h2⟩ := ih (fun c hc => h c (by simp [hc]))
    exact ⟨z :: zs, by simp [h1], by simp [← h2]⟩

/-- An array of n ints, by value: its n cells are ints. -/
theorem open_arr {H : Type} {enc : TypeId × Value → H} {P : Program} {W : World} {base : Nat} {t e : TypeId} {n : Nat} {v : Value} {d : DataW H} {p : List MemPlace} {sp : Nat → Bool}
    (hu : P.underlying t = some (.array n e)) (he : P.underlying e = some (.int .i64)) (hc : P.cellsOf e = 1) (hct : P.cellsOf t = n)
    (hv : Value.okWide P W .any base t v) (h : DataW.Trod enc P W 0 sp true t v d p) : ∃ zs : List Int, zs.length = n ∧ v = .agg (zs.map (Value.int .i64)).toArray := by
  obtain ⟨cs, rfl, hsz, _⟩ : ∃ cs, v = .agg cs ∧ cs.size = P.cellsOf t ∧ Row.okWide P W .any base t cs := by
    simpa [Value.okWide, hu] using hv
  obtain ⟨fuel, hf⟩ := h
  obtain ⟨xs, m, rfl, hx, hl, hxl, hi⟩ := DataW.trod_array hu hf
  obtain ⟨l⟩ := cs
  have hll : l.length = n := by simpa [hct] using hsz
  have hcells : ∀ c ∈ l, ∃ z, c = Value.int .i64 z := by
    intro c hcm
    obtain ⟨i, hilt, rfl⟩ := List.getElem_of_mem hcm
    have hin : i < n := by omega
    have h1 := hi i hin
    rw [hc] at h1
    obtain ⟨y, hy⟩ : ∃ y, xs[i]? = some y := ⟨xs[i]'(by omega), List.getElem?_eq_getElem _⟩
    rw [hy] at h1
    obtain ⟨z, e0, _, _⟩ := DataW.trod_int he h1
    refine ⟨z, ?_⟩
    have e1 : (List.drop (i * 1) l).take 1 = [Value.int .i64 z] := by simpa [Value.cells] using e0
    rw [Nat.mul_one, List.drop_eq_getElem_cons hilt] at e1
    exact (List.cons.inj e1).1
  obtain ⟨zs, h1, h2⟩ := ints_of_cells l hcells
  exact ⟨zs, by omega, by rw [h2]⟩

theorem list6 (zs : List Int) (h : zs.length = 6) : ∃ a b c d e f, zs = [a, b, c, d, e, f] := by
  match zs, h with
  | [a, b, c, d, e, f], _ => exact ⟨a, b, c, d, e, f, rfl⟩

theorem list8 (zs : List Int) (h : zs.length = 8) : ∃ a b c d e f g k, zs = [a, b, c, d, e, f, g, k] := by
  match zs, h with
  | [a, b, c, d, e, f, g, k], _ => exact ⟨a, b, c, d, e, f, g, k, rfl⟩

theorem Try.cells3 : Try.prog.cellsOf 3 = 1 := by kernel_rfl
theorem Try.cells33 : Try.prog.cellsOf 33 = 8 := by kernel_rfl
theorem Try.cells38 : Try.prog.cellsOf 38 = 6 := by kernel_rfl

end Go.Proofs.Qxb6601683a
