/- A proof of 'Rows.FnDaysInMatchesCivilDayCountSaid'. The frame is the kit's shell for this function; the walks and the law are ours. -/
import Derived.Test.Qxb6601683aRows
import Derived.WalkKit
import Derived.ProofKit
import Derived.OpenShut
import Derived.ShutString
import Derived.Test.Qxb6601683aCal
namespace Go.Proofs.Qxb6601683a.fnDaysInMatchesCivilDayCount
open Go.ChangeShapes Go.WideShapes Go.ChangeAt Go.RowKit
open Go.ChangeMaps (open_string shut_string)
set_option linter.unusedVariables false      -- a walk need not use every 'w<i>' (that an integer argument fits its kind)

theorem own : ownKnob Try.prog.godebug = none := by kernel_rfl

theorem civ_bd (y m : Int) (hy0 : 0 ≤ y) (hy1 : y ≤ 400) (hm0 : 1 ≤ m) (hm1 : m ≤ 12) : -1000 ≤ civ y m ∧ civ y m ≤ 200000 := by
  unfold civ; split <;> omega
theorem zzdim_any (y m : Int) (w : World) :
    Calls Try.prog 9 #[.int .i64 y, .int .i64 m] w fun e w' => e = .returned (.int .i64 (dim y m)) ∧ w' = w := by
  go_enter Try.func9, Try.ntmps9
  go_wp2_with (go_at_call 20; refine (dim_any _ _ _).mono ?_; rintro e w' ⟨rfl, rfl⟩)
  go_ret
  exact ⟨rfl, rfl⟩

theorem ret_true {a b : Int} (h : a = b) : Ending.returned (.bool (a == b)) = .returned (.bool true) := by simp [h]
theorem tm (y : Int) (hy : y < 0) : -400 < y.tmod 400 ∧ y.tmod 400 ≤ 0 ∧ (y.tmod 400 < 0 → y.tmod 400 + 400 = y % 400) ∧ (¬ y.tmod 400 < 0 → y.tmod 400 = 0 ∧ y % 400 = 0) := by
  rw [Int.tmod_eq_emod]
  split <;> omega

set_option maxHeartbeats 400000 in
theorem walkA (a0 : Int) (w : World) (hy : 0 ≤ a0) :
    Calls Try.prog 3 #[.int .i64 a0, .int .i64 12] w fun e w' => e = .returned (.bool true) ∧ Grown w w' := by
  have hlaw := law a0 (a0 % 400) 12 rfl (by omega) (by omega)
  simp only [if_true] at hlaw
  have b1 := civ_bd (a0 % 400 + 1) 1 (by omega) (by omega) (by omega) (by omega)
  have b2 := civ_bd (a0 % 400) 12 (by omega) (by omega) (by omega) (by omega)
  have HL : Hid (dim a0 12 = civ (a0 % 400 + 1) 1 - civ (a0 % 400) 12) := hlaw
  clear hlaw
  go_enter Try.func3, Try.ntmps3
  go_wp2_with (first | (go_at_call 8; refine (civ_any _ _ _ (by omega) (by omega) (by omega) (by omega)).mono ?_; rintro e w' ⟨rfl, rfl⟩) | (go_at_call 9; refine (zzdim_any _ _ _).mono ?_; rintro e w' ⟨rfl, rfl⟩))
  go_ret
  exact ⟨ret_true (HL.out), Grown.refl _⟩

set_option maxHeartbeats 400000 in
theorem walkB (a0 a1 : Int) (w : World) (hy : 0 ≤ a0) (h1 : 1 ≤ a1) (h2 : a1 ≤ 12) (h12 : ¬ a1 = 12) :
    Calls Try.prog 3 #[.int .i64 a0, .int .i64 a1] w fun e w' => e = .returned (.bool true) ∧ Grown w w' := by
  have hlaw := law a0 (a0 % 400) a1 rfl (by omega) (by omega)
  simp only [if_neg h12] at hlaw
  have b1 := civ_bd (a0 % 400) (a1 + 1) (by omega) (by omega) (by omega) (by omega)
  have b2 := civ_bd (a0 % 400) a1 (by omega) (by omega) (by omega) (by omega)
  have HL : Hid (dim a0 a1 = civ (a0 % 400) (a1 + 1) - civ (a0 % 400) a1) := hlaw
  clear hlaw
  have h11 : a1 ≤ 11 := by omega
  clear h12 h2
  go_enter Try.func3, Try.ntmps3
  go_wp2_with (first | (go_at_call 8; refine (civ_any _ _ _ (by omega) (by omega) (by omega) (by omega)).mono ?_; rintro e w' ⟨rfl, rfl⟩) | (go_at_call 9; refine (zzdim_any _ _ _).mono ?_; rintro e w' ⟨rfl, rfl⟩))
  go_ret
  exact ⟨ret_true (HL.out), Grown.refl _⟩

set_option maxHeartbeats 400000 in
theorem walkC (a0 : Int) (w : World) (hy : a0 < 0) (t0 : -400 < a0.tmod 400) (hn : a0.tmod 400 < 0) (ht : a0.tmod 400 + 400 = a0 % 400) :
    Calls Try.prog 3 #[.int .i64 a0, .int .i64 12] w fun e w' => e = .returned (.bool true) ∧ Grown w w' := by
  have hlaw := law a0 (a0.tmod 400 + 400) 12 ht (by omega) (by omega)
  simp only [if_true] at hlaw
  have b1 := civ_bd (a0.tmod 400 + 400 + 1) 1 (by omega) (by omega) (by omega) (by omega)
  have b2 := civ_bd (a0.tmod 400 + 400) 12 (by omega) (by omega) (by omega) (by omega)
  have HL : Hid (dim a0 12 = civ (a0.tmod 400 + 400 + 1) 1 - civ (a0.tmod 400 + 400) 12) := hlaw
  clear hlaw ht
  go_enter Try.func3, Try.ntmps3
  go_wp2_with (first | (go_at_call 8; refine (civ_any _ _ _ (by omega) (by omega) (by omega) (by omega)).mono ?_; rintro e w' ⟨rfl, rfl⟩) | (go_at_call 9; refine (zzdim_any _ _ _).mono ?_; rintro e w' ⟨rfl, rfl⟩))
  go_ret
  exact ⟨ret_true (HL.out), Grown.refl _⟩

set_option maxHeartbeats 400000 in
theorem walkD (a0 a1 : Int) (w : World) (hy : a0 < 0) (t0 : -400 < a0.tmod 400) (hn : a0.tmod 400 < 0) (ht : a0.tmod 400 + 400 = a0 % 400) (h1 : 1 ≤ a1) (h2 : a1 ≤ 12) (h12 : ¬ a1 = 12) :
    Calls Try.prog 3 #[.int .i64 a0, .int .i64 a1] w fun e w' => e = .returned (.bool true) ∧ Grown w w' := by
  have hlaw := law a0 (a0.tmod 400 + 400) a1 ht (by omega) (by omega)
  simp only [if_neg h12] at hlaw
  have b1 := civ_bd (a0.tmod 400 + 400) (a1 + 1) (by omega) (by omega) (by omega) (by omega)
  have b2 := civ_bd (a0.tmod 400 + 400) a1 (by omega) (by omega) (by omega) (by omega)
  have HL : Hid (dim a0 a1 = civ (a0.tmod 400 + 400) (a1 + 1) - civ (a0.tmod 400 + 400) a1) := hlaw
  clear hlaw ht
  have h11 : a1 ≤ 11 := by omega
  clear h12 h2
  go_enter Try.func3, Try.ntmps3
  go_wp2_with (first | (go_at_call 8; refine (civ_any _ _ _ (by omega) (by omega) (by omega) (by omega)).mono ?_; rintro e w' ⟨rfl, rfl⟩) | (go_at_call 9; refine (zzdim_any _ _ _).mono ?_; rintro e w' ⟨rfl, rfl⟩))
  go_ret
  exact ⟨ret_true (HL.out), Grown.refl _⟩

set_option maxHeartbeats 400000 in
theorem walkE (a0 : Int) (w : World) (t0 : 0 ≤ a0.tmod 400) (t1 : a0.tmod 400 ≤ 0) (ht : a0.tmod 400 = 0 ∧ a0 % 400 = 0) :
    Calls Try.prog 3 #[.int .i64 a0, .int .i64 12] w fun e w' => e = .returned (.bool true) ∧ Grown w w' := by
  have hlaw := law a0 (a0.tmod 400) 12 (by omega) (by omega) (by omega)
  simp only [if_true] at hlaw
  have b1 := civ_bd (a0.tmod 400 + 1) 1 (by omega) (by omega) (by omega) (by omega)
  have b2 := civ_bd (a0.tmod 400) 12 (by omega) (by omega) (by omega) (by omega)
  have HL : Hid (dim a0 12 = civ (a0.tmod 400 + 1) 1 - civ (a0.tmod 400) 12) := hlaw
  clear hlaw ht
  go_enter Try.func3, Try.ntmps3
  go_wp2_with (first | (go_at_call 8; refine (civ_any _ _ _ (by omega) (by omega) (by omega) (by omega)).mono ?_; rintro e w' ⟨rfl, rfl⟩) | (go_at_call 9; refine (zzdim_any _ _ _).mono ?_; rintro e w' ⟨rfl, rfl⟩))
  go_ret
  exact ⟨ret_true (HL.out), Grown.refl _⟩

set_option maxHeartbeats 400000 in
theorem walkF (a0 a1 : Int) (w : World) (t0 : 0 ≤ a0.tmod 400) (t1 : a0.tmod 400 ≤ 0) (ht : a0.tmod 400 = 0 ∧ a0 % 400 = 0) (h1 : 1 ≤ a1) (h2 : a1 ≤ 12) (h12 : ¬ a1 = 12) :
    Calls Try.prog 3 #[.int .i64 a0, .int .i64 a1] w fun e w' => e = .returned (.bool true) ∧ Grown w w' := by
  have hlaw := law a0 (a0.tmod 400) a1 (by omega) (by omega) (by omega)
  simp only [if_neg h12] at hlaw
  have b1 := civ_bd (a0.tmod 400) (a1 + 1) (by omega) (by omega) (by omega) (by omega)
  have b2 := civ_bd (a0.tmod 400) a1 (by omega) (by omega) (by omega) (by omega)
  have HL : Hid (dim a0 a1 = civ (a0.tmod 400) (a1 + 1) - civ (a0.tmod 400) a1) := hlaw
  clear hlaw ht
  have h11 : a1 ≤ 11 := by omega
  clear h12 h2
  go_enter Try.func3, Try.ntmps3
  go_wp2_with (first | (go_at_call 8; refine (civ_any _ _ _ (by omega) (by omega) (by omega) (by omega)).mono ?_; rintro e w' ⟨rfl, rfl⟩) | (go_at_call 9; refine (zzdim_any _ _ _).mono ?_; rintro e w' ⟨rfl, rfl⟩))
  go_ret
  exact ⟨ret_true (HL.out), Grown.refl _⟩

/-! ### STEP 1: THE WALK: the Go text returns true. 'Grown w w'': the world has at most new blocks (Derived/RowKit3.lean). Part the cases AHEAD of 'go_enter' where a test parts the walk; take each callee by a contract of your own. -/
theorem walk (a0 : Int) (a1 : Int) (w0 : (Lit.int .i64 a0).wf = true) (w1 : (Lit.int .i64 a1).wf = true) (w : World) :
    Calls Try.prog 3 #[.int .i64 a0, .int .i64 a1] w fun e w' => e = .returned (.bool true) ∧ Grown w w' := by
  by_cases h1 : a1 < 1
  · go_enter Try.func3, Try.ntmps3
    go_wp2
    go_ret
    exact ⟨rfl, Grown.refl _⟩
  by_cases h2 : 12 < a1
  · go_enter Try.func3, Try.ntmps3
    go_wp2
    go_ret
    exact ⟨rfl, Grown.refl _⟩
  have hr0 : 0 ≤ a0 % 400 := by omega
  have hr1 : a0 % 400 < 400 := by omega
  by_cases hy : 0 ≤ a0
  · rcases Classical.em (a1 = 12) with h12 | h12
    · subst h12
      clear h1 h2 w1
      exact walkA a0 w hy
    · exact walkB a0 a1 w hy (by omega) (by omega) h12
  · obtain ⟨t0, t1, t2, t3⟩ := tm a0 (by omega)
    by_cases hn : a0.tmod 400 < 0
    · rcases Classical.em (a1 = 12) with h12 | h12
      · subst h12
        clear h1 h2 w1
        exact walkC a0 w (by omega) t0 hn (t2 hn)
      · exact walkD a0 a1 w (by omega) t0 hn (t2 hn) (by omega) (by omega) h12
    · rcases Classical.em (a1 = 12) with h12 | h12
      · subst h12
        clear h1 h2 w1
        exact walkE a0 w (by omega) (by omega) (t3 hn)
      · exact walkF a0 a1 w (by omega) (by omega) (t3 hn) (by omega) (by omega) h12

/-! ### THE ROW's STEP: WRITTEN OUT: LEAVE IT -/
set_option maxRecDepth 100000 in
theorem lifted (os : Os) (started : os.Started) (H : Type) (enc : TypeId × Value → H) :
    ReturnsInHanded {} Try.checked os 3 .any (Rows.fnDaysInMatchesCivilDayCountSpec.pre6 enc Try.prog Try.f3 Rows.fnDaysInMatchesCivilDayCountRow.domain false) (Rows.fnDaysInMatchesCivilDayCountSpec.post enc Try.prog Try.f3 false true false false) := by
  refine returnsInHanded_of_change (C := Try.checked) own started (by kernel_rfl) Try.func3
    (ChangeSpec.witness6 (enc := enc) (C := Try.checked) false ⟨#[], #[.int .i64 0, .int .i64 0], []⟩ 8 (by kernel_rfl) (by kernel_rfl) (by kernel_rfl) (by kernel_rfl)) ?_
  intro W base args ds gs before hval0 hW hcnd _
  have hval : ∀ (j : Nat) t v, Try.f3.params[j]? = some t → args[j]? = some v → Value.okWide Try.prog W .any base t v := hval0
  have hW' := hW
  obtain ⟨p, q, hA0, hV, rfl, hfz, hnd⟩ := hW
  have hA : DataW.TrodAll enc Try.prog W 0 (fun _ => true) true Try.f3.params.toList args.toList ds p := hA0
  rw [Try.params3] at hA hval
  obtain ⟨v0, vs0, d0, ds0, p0, q0, hargs, rfl, rfl, h0, r0⟩ := trodAll_cons hA
  obtain ⟨v1, vs1, d1, ds1, p1, q1, rfl, rfl, rfl, h1, r1⟩ := trodAll_cons r0
  obtain ⟨rfl, rfl, rfl⟩ := trodAll_nil r1
  obtain rfl : args = #[v0, v1] := by cases args; simp_all
  obtain ⟨rfl, rfl⟩ := trodVars_none hV
  obtain ⟨a0, rfl, rfl, rfl, w0⟩ := open_int Try.underlying3 (hval 0 3 v0 rfl rfl) h0
  obtain ⟨a1, rfl, rfl, rfl, w1⟩ := open_int Try.underlying3 (hval 1 3 v1 rfl rfl) h1
  clear hA0 hval0
  simp only [List.append_nil] at hW'
  refine (walk a0 a1 w0 w1 W).mono fun e W' ⟨he, hg⟩ => ?_
  subst he
  exact ⟨_, rfl, post_of_same (pa := []) (pv := []) hW' (fun _ _ _ => (trodAll_cons_mk (shut_bool Try.underlying4 _) trodAll_mk0)) (fun sp _ => (trodAll_cons_mk (shut_int Try.underlying3 w0) (trodAll_cons_mk (shut_int Try.underlying3 w1) trodAll_mk0))) (fun _ _ => rfl) rfl
    (hg.frame _) hg.2.1 (ok_one (by kernel_rfl) rfl (okWide_bool_mk Try.underlying4 _))⟩

theorem over : Rows.fnDaysInMatchesCivilDayCountRow.holds Try.pinned (OpenSpec.ofChange Rows.fnDaysInMatchesCivilDayCountSpec) :=
  OpenClaim.holds_of_wide 3 Try.f3 rfl rfl rfl rfl rfl rfl rfl ⟨rfl, rfl, rfl, rfl, rfl⟩ rfl rfl rfl rfl rfl (by kernel_rfl) Try.func3 (by kernel_rfl)
    (of_decide_eq_true (by kernel_rfl)) (by unfold Func.isWrapper; first | (rw [if_pos (by decide +kernel)]; kernel_rfl) | (rw [if_neg (by decide +kernel)]; exact ⟨rfl, rfl⟩))
    (fun os started H enc _ => lifted os started H enc)

/-- ████ THE STATEMENT ████ -/
theorem proved : Rows.FnDaysInMatchesCivilDayCountSaid :=
  over
#print axioms proved
end Go.Proofs.Qxb6601683a.fnDaysInMatchesCivilDayCount
