import Derived.Test.Qxb6000405aSmall
/-! zzClone32 (10). -/
namespace Go.Proofs.Qxb6000405a
open Go.RowKit

theorem list_of_get (xs : List Value) (z : Nat → Int) (n : Nat) (hl : xs.length = n) (h : ∀ i, i < n → xs[i]? = some (.int .i32 (z i))) : xs = (rowv z n).map (Value.int .i32) := by
  apply List.ext_getElem?
  intro i
  by_cases hi : i < n
  · rw [h i hi]; simp [rowv, hi]
  · rw [List.getElem?_eq_none (by omega), List.getElem?_eq_none (by simp [rowv]; omega)]

/-- The round of a filling loop. -/
theorem fill_step {w wr : World} {n k : Nat} {xs : List Value} {z : Nat → Int} (hk : k < n) (h : wr.ownsRow w.heap.size 21 1 (.slice (some ⟨w.heap.size, 0, none⟩) n n) n xs ∧ ∀ i, i < k → xs[i]? = some (.int .i32 (z i))) (hg : w.grownBy wr none) :
    Hid ((wr.setCell ⟨w.heap.size, k, none⟩ (.int .i32 (z k))).ownsRow w.heap.size 21 1 (.slice (some ⟨w.heap.size, 0, none⟩) n n) n (xs.set k (.int .i32 (z k))) ∧ ∀ i, i < k + 1 → (xs.set k (.int .i32 (z k)))[i]? = some (.int .i32 (z i))) ∧
    Hid (w.grownBy (wr.setCell ⟨w.heap.size, k, none⟩ (.int .i32 (z k))) none) := by
  obtain ⟨h1, h2⟩ := h.1.stored k (.int .i32 (z k))
  have hl : xs.length = n := by simpa using h.1.1
  refine ⟨⟨h1, fun i hi => ?_⟩, grown_trans hg h2 (fun g e => ?_)⟩
  · by_cases hik : i = k
    · subst hik; rw [List.getElem?_set_self (by omega)]
    · rw [List.getElem?_set_ne (by omega)]; exact h.2 i (by omega)
  · cases e; exact .inr (Nat.le_refl _)

set_option maxHeartbeats 400000 in
theorem clone_some (x : Addr) (n cap : Nat) (z : Nat → Int) (w : World) (h : Rd w (some x) n z) (hn : n ≤ 1048576) :
    Calls Try.prog 10 #[.slice (some x) n cap] w fun e w' => e = .returned (.slice (some ⟨w.heap.size, 0, none⟩) n n) ∧ w'.ownsRow w.heap.size 21 1 (.slice (some ⟨w.heap.size, 0, none⟩) n n) n ((rowv z n).map (Value.int .i32)) ∧ w.grownBy w' none := by
  have q : ∀ (w : World) (a : Option Addr) (n c n' c' : Nat), (binOp .eql 22 (.slice a n c) (.slice none n' c')).run Try.prog w = .ok (.bool a.isNone) w := fun w a n c n' c' => Lib.run_eql_slice_nil w _ _ a n c n' c' Try.underlying22
  obtain ⟨i0, hi, hz0, hz1, hz2⟩ := info_parts Try.info21
  have HB : Hid (Rd w (some x) n z) := h
  clear h
  go_enter Try.func10, Try.ntmps10
  go_wp2_with (at_make; refine wpList_make_full _ rfl _ _ 22 rfl w.heap.size 21 i0 (.int .i32 0) 1 Try.underlying22 hi hz0 hz1 _ _ _ _ n rfl rfl rfl rfl (by rw [hz2]; omega) (by unfold maxLen; omega) (Nat.le_refl _) ?_; intro w1 hown1 hgrow1; have HO1 : Hid (w1.ownsRow w.heap.size 21 1 _ n _ ∧ w.grownBy w1 none) := ⟨hown1, hgrow1⟩; clear hown1 hgrow1)
  clear q
  go_loopw [12, 4] (fun i _ wr => ∃ k : Nat, k ≤ n ∧ i = .int .i64 k ∧ ∃ xs : List Value, Hid (wr.ownsRow w.heap.size 21 1 (.slice (some ⟨w.heap.size, 0, none⟩) n n) n xs ∧ ∀ i, i < k → xs[i]? = some (.int .i32 (z i))) ∧ Hid (w.grownBy wr none)) (fun i _ _ => n - (intOf i).toNat)
  case atStart => exact ⟨0, Nat.zero_le _, rfl, _, ⟨HO1.out.1, fun i hi => by omega⟩, HO1.out.2⟩
  case round =>
    clear HO1
    obtain ⟨k, hk, rfl, xs, HX, HG⟩ := hrel
    by_cases hlt : k < n
    · obtain ⟨b, o, e, hc⟩ := HB.out.kept HG.out (fun _ _ => by simp) (by omega)
      cases e
      have d1 := hc k hlt
      have hl : xs.length = n := by simpa using HX.out.1.1
      have d2 : wr.cell? ⟨w.heap.size, k, none⟩ = some (xs[k]'(by omega)) := by
        rw [HX.out.1.cellAt k (by omega)]; exact List.getElem?_eq_getElem _
      obtain ⟨u, hu⟩ : ∃ u, u = xs[k]'(by omega) := ⟨_, rfl⟩
      rw [← hu] at d2
      have d3 := HX.out.1.frozenAt k
      have hkk : (k : Int) < (n : Int) := by omega
      have HS := fill_step (z := z) hlt HX.out HG.out
      have HS1 : Hid (_ ∧ _) := HS
      clear hc hl HS hu
      go_wp2
      go_roundw
      case rel => exact ⟨k + 1, by omega, by go_num, _, HS1.out.1, HS1.out.2⟩
      case measure => simp [intOf]; omega
    · obtain rfl : k = n := by omega
      go_wp2
      go_ret
      have e := list_of_get xs z k (by simpa using HX.out.1.1) HX.out.2
      refine ⟨rfl, ?_, HG.out⟩
      rw [← e]
      exact HX.out.1

/-- zzClone32: a fresh row of the same numbers (nil stays nil). -/
theorem clone_any (ao : Option Addr) (n cap : Nat) (z : Nat → Int) (w : World) (hnil : ao = none → n = 0) (h : Rd w ao n z) (hn : n ≤ 1048576) :
    Calls Try.prog 10 #[.slice ao n cap] w fun e w' => ∃ ao' cap', e = .returned (.slice ao' n cap') ∧ w'.ownsRow w.heap.size 21 1 (.slice ao' n cap') n ((rowv z n).map (Value.int .i32)) ∧ w.grownBy w' none := by
  cases ao with
  | none =>
    obtain rfl := hnil rfl
    refine (clone_nil 0 cap w).mono fun e w' ⟨he, hw⟩ => ?_
    subst hw
    exact ⟨none, 0, he, World.ownsRow_nil _ _ _ _, World.grownBy.refl _ _⟩
  | some x =>
    refine (clone_some x n cap z w h hn).mono fun e w' ⟨he, ho, hg⟩ => ?_
    exact ⟨_, _, he, ho, hg⟩

end Go.Proofs.Qxb6000405a
