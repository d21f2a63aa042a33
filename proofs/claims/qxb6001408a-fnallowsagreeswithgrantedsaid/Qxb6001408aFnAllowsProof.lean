import Derived.Test.Qxb6001408aRows
import Derived.WalkKit
import Derived.ProofKit
import Derived.OpenShut
import Derived.ShutString
import Derived.ChangeOld
import Derived.Below
import Derived.Deep.Strs
import Derived.Test.Qxb6001408aLaw
import Derived.Test.Qxb6001408aInit
/-! 'Rows.FnAllowsAgreesWithGrantedSaid'. -/
namespace Go.Proofs.Qxb6001408a.allowsGranted
open Go.ChangeShapes Go.WideShapes Go.ChangeAt Go.RowKit
open Go.ChangeMaps (open_string shut_string)
open Go.Deep (open_slice1 open_strs choose_lt)
set_option linter.unusedVariables false

theorem own : ownKnob Try.prog.godebug = none := by kernel_rfl
theorem laidOut : laidOutB Try.prog = true := by kernel_rfl

section
variable {H : Type} {enc : TypeId × Value → H} {P : Program} {w : World} {base : Nat} {held : Bool}

theorem RdS.of_add {w : World} {x : Addr} {n : Nat} {z : Nat → ByteArray} (h : ∀ i, i < n → w.cell? (x.add i) = some (.string (z i))) : RdS w (some x) n z := fun hn => by
  obtain ⟨b, o, s⟩ := x
  have hs : s = none := by simpa [Addr.add] using World.cell?_spot (h 0 hn)
  subst hs
  refine ⟨b, o, rfl, fun i hi => ?_⟩
  rw [← h i hi]
  by_cases h0 : i = 0 <;> simp [Addr.add, h0]

theorem read_strs {t e : TypeId} {fuel : Nat} {a : Option Addr} {n c : Nat} {x : DataW H × List MemPlace} (ht : P.underlying t = some (.slice e)) (he : P.underlying e = some .string) (hc : P.cellsOf e = 1)
    (h : DataW.trod enc P w base (fun _ => true) held fuel t [.slice a n c] = some x) : ∃ z : Nat → ByteArray, RdS w a n z := by
  rcases open_strs ht he hc h with ⟨hcs, _⟩ | ⟨a', len, cap, m, Sx, hcs, _, hl, _, hm, _, hcell⟩
  · simp at hcs
    obtain ⟨rfl, rfl, rfl⟩ := hcs
    exact ⟨fun _ => ⟨#[]⟩, fun hn => by omega⟩
  · simp at hcs
    obtain ⟨rfl, rfl, rfl⟩ := hcs
    simp at hm
    exact ⟨Sx, RdS.of_add fun i hi => (hcell i (by omega)).1⟩

theorem read_rows {t e q : TypeId} {fuel : Nat} {a : Option Addr} {n c : Nat} {x : DataW H × List MemPlace} (ht : P.underlying t = some (.slice e)) (he : P.underlying e = some (.slice q)) (hq : P.underlying q = some .string) (ce : P.cellsOf e = 1) (cq : P.cellsOf q = 1)
    (h : DataW.trod enc P w base (fun _ => true) held fuel t [.slice a n c] = some x) : ∃ (f : Nat → Option Addr × Nat × Nat) (z : Nat → Nat → ByteArray), RdSS w a n f z := by
  rcases open_slice1 ht ce h with ⟨hcs, _⟩ | ⟨a', len, cap, m, k, V, D, Pl, hcs, _, hl, _, hm, _, hx⟩
  · simp at hcs
    obtain ⟨rfl, rfl, rfl⟩ := hcs
    exact ⟨fun _ => (none, 0, 0), fun _ _ => ⟨#[]⟩, fun hn => by omega⟩
  · simp at hcs
    obtain ⟨rfl, rfl, rfl⟩ := hcs
    simp at hm
    have each : ∀ i, i < n → ∃ y : (Option Addr × Nat × Nat) × (Nat → ByteArray), V i = .slice y.1.1 y.1.2.1 y.1.2.2 ∧ RdS w y.1.1 y.1.2.1 y.2 := fun i hi => by
      have hi2 := (hx i (by omega)).2
      rcases open_strs he hq cq hi2 with ⟨hcs, _⟩ | ⟨a2, len2, cap2, m2, Sx, hcs, _, hl2, _, hm2, _, hcell⟩
      · have e : V i = .slice none 0 0 := by simpa using hcs
        exact ⟨((none, 0, 0), fun _ => ⟨#[]⟩), e, fun hn => by simp at hn⟩
      · have e : V i = .slice (some a2) len2 cap2 := by simpa using hcs
        simp at hm2
        exact ⟨((some a2, len2, cap2), Sx), e, RdS.of_add fun j hj => (hcell j (by have : j < len2 := hj; omega)).1⟩
    obtain ⟨y, hy⟩ := choose_lt (α := (Option Addr × Nat × Nat) × (Nat → ByteArray)) each
    refine ⟨fun i => (y i).1, fun i => (y i).2, fun hn => ?_⟩
    obtain ⟨b, o, s⟩ := a'
    have hs : s = none := by simpa [Addr.add] using World.cell?_spot (hx 0 (by omega)).1
    subst hs
    refine ⟨b, o, rfl, fun i hi => ⟨?_, (hy i hi).2⟩⟩
    rw [← (hy i hi).1, ← (hx i (by omega)).1]
    by_cases h0 : i = 0 <;> simp [Addr.add, h0]
end

set_option maxRecDepth 100000 in
theorem lifted (os : Os) (started : os.Started) (H : Type) (enc : TypeId × Value → H) :
    ReturnsInHanded {} Try.checked os 8 .any (Rows.fnAllowsAgreesWithGrantedSpec.pre6 enc Try.prog Try.f8 Rows.fnAllowsAgreesWithGrantedRow.domain false) (Rows.fnAllowsAgreesWithGrantedSpec.post enc Try.prog Try.f8 false true false false) := by
  refine returnsInHanded_of_change (C := Try.checked) own started (by kernel_rfl) Try.func8
    (ChangeSpec.witness6 (enc := enc) (C := Try.checked) false ⟨#[], #[.slice none 0 0, .slice none 0 0, .slice none 0 0, .string ByteArray.empty, .string ByteArray.empty, .string ByteArray.empty], []⟩ 8 (by kernel_rfl) (by kernel_rfl) (by kernel_rfl) (by kernel_rfl)) ?_
  intro W base args ds gs before hval0 hW hcnd _
  have hval : ∀ (j : Nat) t v, Try.f8.params[j]? = some t → args[j]? = some v → Value.okWide Try.prog W .any base t v := hval0
  have hW' := hW
  obtain ⟨p, q, hA0, hV, rfl, hfz, hnd⟩ := hW
  have hA : DataW.TrodAll enc Try.prog W 0 (fun _ => true) true Try.f8.params.toList args.toList ds p := hA0
  rw [Try.params8] at hA hval
  obtain ⟨v0, vs0, d0, ds0, p0, q0, hargs, rfl, rfl, h0, r0⟩ := trodAll_cons hA
  obtain ⟨v1, vs1, d1, ds1, p1, q1, rfl, rfl, rfl, h1, r1⟩ := trodAll_cons r0
  obtain ⟨v2, vs2, d2, ds2, p2, q2, rfl, rfl, rfl, h2, r2⟩ := trodAll_cons r1
  obtain ⟨v3, vs3, d3, ds3, p3, q3, rfl, rfl, rfl, h3, r3⟩ := trodAll_cons r2
  obtain ⟨v4, vs4, d4, ds4, p4, q4, rfl, rfl, rfl, h4, r4⟩ := trodAll_cons r3
  obtain ⟨v5, vs5, d5, ds5, p5, q5, rfl, rfl, rfl, h5, r5⟩ := trodAll_cons r4
  obtain ⟨rfl, rfl, rfl⟩ := trodAll_nil r5
  obtain rfl : args = #[v0, v1, v2, v3, v4, v5] := by cases args; simp_all
  obtain ⟨rfl, rfl⟩ := trodVars_none hV
  have k0 := h0
  have lt0 : ∀ x ∈ p0, x.block < W.heap.size := by obtain ⟨m, hm⟩ := k0; exact DataW.trod_lt m _ _ _ hm
  have k1 := h1
  have lt1 : ∀ x ∈ p1, x.block < W.heap.size := by obtain ⟨m, hm⟩ := k1; exact DataW.trod_lt m _ _ _ hm
  have k2 := h2
  have lt2 : ∀ x ∈ p2, x.block < W.heap.size := by obtain ⟨m, hm⟩ := k2; exact DataW.trod_lt m _ _ _ hm
  obtain ⟨a0, n0, c0, rfl⟩ := okWide_slice Try.underlying22 (hval 0 22 v0 rfl rfl)
  obtain ⟨a1, n1, c1, rfl⟩ := okWide_slice Try.underlying36 (hval 1 36 v1 rfl rfl)
  obtain ⟨a2, n2, c2, rfl⟩ := okWide_slice Try.underlying22 (hval 2 22 v2 rfl rfl)
  obtain ⟨z0, g0⟩ : ∃ z, RdS W a0 n0 z := by obtain ⟨m, hm⟩ := h0; exact read_strs Try.underlying22 Try.underlying9 (by kernel_rfl) (by simpa [Value.cells] using hm)
  obtain ⟨f, z1, g1⟩ : ∃ f z, RdSS W a1 n1 f z := by obtain ⟨m, hm⟩ := h1; exact read_rows Try.underlying36 Try.underlying22 Try.underlying9 (by kernel_rfl) (by kernel_rfl) (by simpa [Value.cells] using hm)
  obtain ⟨z2, g2⟩ : ∃ z, RdS W a2 n2 z := by obtain ⟨m, hm⟩ := h2; exact read_strs Try.underlying22 Try.underlying9 (by kernel_rfl) (by simpa [Value.cells] using hm)
  obtain ⟨s3, rfl, rfl, rfl, w3⟩ := open_string Try.underlying9 (hval 3 9 v3 rfl rfl) h3
  obtain ⟨s4, rfl, rfl, rfl, w4⟩ := open_string Try.underlying9 (hval 4 9 v4 rfl rfl) h4
  obtain ⟨s5, rfl, rfl, rfl, w5⟩ := open_string Try.underlying9 (hval 5 9 v5 rfl rfl) h5
  clear hA0 hval0
  refine (law8 a0 a1 a2 n0 c0 n1 c1 n2 c2 z0 z2 f z1 s3 s4 s5 W g0 g1 g2).mono fun e W' ⟨he, hg⟩ => ?_
  have bel := grown_below hg
  subst he
  exact ⟨_, rfl, _, _, _, [], _, [], hW', trodAll_mk1 (shut_bool Try.underlying4 _), (trodAll_cons_mk (Below.trod laidOut (by kernel_rfl) (of_decide_eq_true (by kernel_rfl)) k0 bel lt0) (trodAll_cons_mk (Below.trod laidOut (by kernel_rfl) (of_decide_eq_true (by kernel_rfl)) k1 bel lt1) (trodAll_cons_mk (Below.trod laidOut (by kernel_rfl) (of_decide_eq_true (by kernel_rfl)) k2 bel lt2) (trodAll_cons_mk (shut_string Try.underlying9 w3) (trodAll_cons_mk (shut_string Try.underlying9 w4) (trodAll_cons_mk (shut_string Try.underlying9 w5) trodAll_mk0)))))), rfl, bel.frame _, fun h => by cases h⟩

theorem closed : joinedFacts Try.prog 8 Try.f8 Rows.fnAllowsAgreesWithGrantedSpec Rows.fnAllowsAgreesWithGrantedRow = true := by
  unfold joinedFacts
  rw [init_enter, init_lifts, init_make]
  kernel_rfl

theorem over : Rows.fnAllowsAgreesWithGrantedRow.holds Try.pinned (OpenSpec.ofChange Rows.fnAllowsAgreesWithGrantedSpec) :=
  OpenClaim.holds_of_wide 8 Try.f8 rfl rfl rfl rfl rfl rfl rfl ⟨rfl, rfl, rfl, rfl, rfl⟩ rfl rfl rfl rfl rfl (by kernel_rfl) Try.func8 closed
    (of_decide_eq_true (by kernel_rfl)) (by unfold Func.isWrapper; first | (rw [if_pos (by decide +kernel)]; kernel_rfl) | (rw [if_neg (by decide +kernel)]; exact ⟨rfl, rfl⟩))
    (fun os started H enc _ => lifted os started H enc)

/-- THE STATEMENT -/
theorem proved : Rows.FnAllowsAgreesWithGrantedSaid := over
#print axioms proved
end Go.Proofs.Qxb6001408a.allowsGranted
