import Derived.Test.Qxb6000405aVio
import Derived.Deep.QuietTactic
import Derived.BigQuiet
/-! The plain law, and FnVictimsInOrderSortedSetOfVictims (7). -/
namespace Go.Proofs.Qxb6000405a
open Go.RowKit

/-! ### The plain law -/
theorem asc_pair (z : Nat → Int) (n : Nat) (h : ∀ j, j + 1 < n → z j < z (j + 1)) : ∀ i j, i < j → j < n → z i < z j := by
  intro i j hij
  induction j with
  | zero => omega
  | succ j ih =>
    intro hj
    by_cases e : i = j
    · subst e; exact h i hj
    · have := ih (by omega) (by omega)
      have := h j hj
      omega
theorem pick_asc {zv zd : Nat → Int} {nv nd : Nat} (h : ∀ j, j + 1 < nd → zd j < zd (j + 1)) : ∀ i, i + 1 < (pick zv nv zd nd).length → (pick zv nv zd nd).getD i 0 < (pick zv nv zd nd).getD (i + 1) 0 := by
  have hp : (rowv zd nd).Pairwise (· < ·) := by
    rw [List.pairwise_iff_getElem]
    intro i j hi hj hij
    simp only [rowv, List.getElem_map, List.getElem_range]
    exact asc_pair zd nd h i j hij (by simpa [rowv] using hj)
  have hq : (pick zv nv zd nd).Pairwise (· < ·) := hp.filter _
  intro i hi
  rw [List.pairwise_iff_getElem] at hq
  have := hq i (i + 1) (by omega) hi (by omega)
  simpa [List.getD, hi, show i < (pick zv nv zd nd).length by omega] using this
theorem mem_getD {l : List Int} {x : Int} (h : x ∈ l) : ∃ i, i < l.length ∧ l.getD i 0 = x := by
  obtain ⟨i, hi, e⟩ := List.getElem_of_mem h
  exact ⟨i, hi, by simpa [List.getD, hi] using e⟩
theorem pick_all {zv zd : Nat → Int} {nv nd : Nat} (h : ∀ j, j < nv → ∃ i, i < nd ∧ zd i = zv j) (j : Nat) (hj : j < nv) : ∃ i, i < (pick zv nv zd nd).length ∧ (pick zv nv zd nd).getD i 0 = zv j := by
  apply mem_getD
  obtain ⟨i, hi, e⟩ := h j hj
  rw [pick, List.mem_filter]
  exact ⟨by rw [← e, rowv]; exact List.mem_map.2 ⟨i, by simpa using hi, rfl⟩, (hasB_iff _ _ _).2 ⟨j, hj, rfl⟩⟩
theorem pick_only {zv zd : Nat → Int} {nv nd : Nat} (i : Nat) (hi : i < (pick zv nv zd nd).length) : ∃ j, j < nv ∧ zv j = (pick zv nv zd nd).getD i 0 := by
  have hm : (pick zv nv zd nd)[i] ∈ pick zv nv zd nd := List.getElem_mem hi
  have e : (pick zv nv zd nd).getD i 0 = (pick zv nv zd nd)[i] := by simp [List.getD, hi]
  rw [e]
  exact (hasB_iff _ _ _).1 (List.mem_filter.1 hm).2

/-! ### The call of ZZVictimsInOrder -/
theorem vio26 (av ad : Option Addr) (nv cv nd cd p : Nat) (zv zd : Nat → Int) (w : World) (hv : Rd w av nv zv) (hd : Rd w ad nd zd) (hnv : nv ≤ 1048576) (hnd : nd ≤ 1048576) (hp : p ≤ 65536)
    (hzv : ∀ i, i < nv → 0 ≤ zv i ∧ zv i < p) (hzd : ∀ i, i < nd → 0 ≤ zd i ∧ zd i < p) :
    Calls Try.prog 26 #[.slice av nv cv, .slice ad nd cd, .int .i64 (p : Int)] w fun e w' => ∃ v', e = .returned v' ∧ w'.ownsRow w.heap.size 21 1 v' (pick zv nv zd nd).length ((pick zv nv zd nd).map (Value.int .i32)) ∧ w.grownBy w' none := by
  by_cases h0 : 0 < nv
  · exact vio_some av ad nv cv nd cd p zv zd w hv hd h0 hnv hnd hp hzv hzd
  · obtain rfl : nv = 0 := by omega
    refine (vio_none av ad cv nd cd p w).mono fun e w' ⟨he, hw⟩ => ?_
    subst hw
    have e0 : pick zv 0 zd nd = [] := by
      rw [pick, List.filter_eq_nil_iff]
      intro x _
      simp [hasB]
    rw [e0]
    exact ⟨_, he, World.ownsRow_nil _ _ _ _, World.grownBy.refl _ _⟩

set_option maxHeartbeats 400000 in
theorem vio22 (av ad : Option Addr) (nv cv nd cd p : Nat) (zv zd : Nat → Int) (w : World) (hv : Rd w av nv zv) (hd : Rd w ad nd zd) (hnv : nv ≤ 1048576) (hnd : nd ≤ 1048576) (hp : p ≤ 65536)
    (hzv : ∀ i, i < nv → 0 ≤ zv i ∧ zv i < p) (hzd : ∀ i, i < nd → 0 ≤ zd i ∧ zd i < p) :
    Calls Try.prog 22 #[.slice av nv cv, .slice ad nd cd, .int .i64 (p : Int)] w fun e w' => ∃ v', e = .returned v' ∧ w'.ownsRow w.heap.size 21 1 v' (pick zv nv zd nd).length ((pick zv nv zd nd).map (Value.int .i32)) ∧ w.grownBy w' none := by
  have HC := hidP (vio26 av ad nv cv nd cd p zv zd w hv hd hnv hnd hp hzv hzd)
  clear hv hd hnv hnd hp hzv hzd
  go_enter Try.func22, Try.ntmps22
  go_wp2_with (go_at_call 26; refine HC.out.mono ?_; rintro e w' ⟨v', rfl, hown', hg'⟩)
  go_ret
  exact ⟨_, rfl, hown', hg'⟩

/-! ### The law's walk where a test sends it home -/
set_option maxRecDepth 100000 in
set_option maxHeartbeats 4000000 in
theorem early (a0 a1 : Option Addr) (nv c0 nd c1 : Nat) (p : Int) (zv zd : Nat → Int) (w : World) (hv : Rd w a0 nv zv) (hd : Rd w a1 nd zd) (e0 : a0 = none → nv = 0) (e1 : a1 = none → nd = 0)
    (b0 : nv ≤ 9223372036854775807) (b1 : nd ≤ 9223372036854775807) (i0 : ∀ i, i < nv → -2147483648 ≤ zv i ∧ zv i ≤ 2147483647) (i1 : ∀ i, i < nd → -2147483648 ≤ zd i ∧ zd i ≤ 2147483647)
    (hno : ¬ (nv + nd ≤ 1048576 ∧ 4 * ((nv : Int) + (nd : Int)) ≤ 1048576 ∧ (nv : Int) ≤ 4096 ∧ (nd : Int) ≤ 4096 ∧ 0 ≤ p ∧ p ≤ 65536 ∧ (∀ i, i < nv → 0 ≤ zv i ∧ zv i < p) ∧ ∀ i, i < nd → 0 ≤ zd i ∧ zd i < p)) :
    Calls Try.prog 7 #[.slice a0 nv c0, .slice a1 nd c1, .int .i64 p] w fun e w' => e = .returned (.bool true) ∧ Below w.heap.size w w' := by
  by_cases hlen : nv + nd ≤ 1048576
  rotate_left
  · go_enter Try.func7, Try.ntmps7
    go_wp2_with (go_at_call 19; refine (z19_no _ _ _ _ _ _ _ _ b0 b1 hlen).mono ?_; rintro e w' ⟨rfl, rfl⟩)
    go_ret
    exact ⟨rfl, Below.refl _ _⟩
  clear b0 b1
  have l0 : (nv : Int) ≤ 1048576 := by omega
  have l1 : (nd : Int) ≤ 1048576 := by omega
  by_cases h4 : (1048576 : Int) < 4 * ((nv : Int) + (nd : Int))
  · go_enter Try.func7, Try.ntmps7
    go_wp2_with (go_at_call 19; refine (z19_yes _ _ _ _ _ _ _ _ hlen).mono ?_; rintro e w' ⟨rfl, rfl⟩)
    go_ret
    exact ⟨rfl, Below.refl _ _⟩
  by_cases h5 : (4096 : Int) < (nv : Int)
  · go_enter Try.func7, Try.ntmps7
    go_wp2_with (go_at_call 19; refine (z19_yes _ _ _ _ _ _ _ _ hlen).mono ?_; rintro e w' ⟨rfl, rfl⟩)
    go_ret
    exact ⟨rfl, Below.refl _ _⟩
  by_cases h6 : (4096 : Int) < (nd : Int)
  · go_enter Try.func7, Try.ntmps7
    go_wp2_with (go_at_call 19; refine (z19_yes _ _ _ _ _ _ _ _ hlen).mono ?_; rintro e w' ⟨rfl, rfl⟩)
    go_ret
    exact ⟨rfl, Below.refl _ _⟩
  by_cases h7 : p < 0
  · go_enter Try.func7, Try.ntmps7
    go_wp2_with (go_at_call 19; refine (z19_yes _ _ _ _ _ _ _ _ hlen).mono ?_; rintro e w' ⟨rfl, rfl⟩)
    go_ret
    exact ⟨rfl, Below.refl _ _⟩
  by_cases h8 : 65536 < p
  · go_enter Try.func7, Try.ntmps7
    go_wp2_with (go_at_call 19; refine (z19_yes _ _ _ _ _ _ _ _ hlen).mono ?_; rintro e w' ⟨rfl, rfl⟩)
    go_ret
    exact ⟨rfl, Below.refl _ _⟩
  obtain ⟨pn, rfl⟩ : ∃ pn : Nat, p = (pn : Int) := ⟨p.toNat, by omega⟩
  have HV : Hid (Rd w a0 nv zv ∧ (a0 = none → nv = 0) ∧ ∀ i, i < nv → -2147483648 ≤ zv i ∧ zv i ≤ 2147483647) := ⟨hv, e0, i0⟩
  have HD : Hid (Rd w a1 nd zd ∧ (a1 = none → nd = 0) ∧ ∀ i, i < nd → -2147483648 ≤ zd i ∧ zd i ≤ 2147483647) := ⟨hd, e1, i1⟩
  clear hv hd e0 e1 i0 i1
  by_cases g1 : ∀ i, i < nv → 0 ≤ zv i ∧ zv i < (pn : Int)
  rotate_left
  · have G1 := hidP g1
    clear g1
    go_enter Try.func7, Try.ntmps7
    go_wp2_with (first | (go_at_call 19; refine (z19_yes _ _ _ _ _ _ _ _ hlen).mono ?_; rintro e w' ⟨rfl, rfl⟩) | (go_at_call 20; refine (all20_no a0 nv _ zv _ _ (by omega) HV.out.2.2 HV.out.1 G1.out).mono ?_; rintro e w' ⟨rfl, rfl⟩))
    go_ret
    exact ⟨rfl, Below.refl _ _⟩
  have G1 := hidP g1
  clear g1
  by_cases g2 : ∀ i, i < nd → 0 ≤ zd i ∧ zd i < (pn : Int)
  rotate_left
  · have G2 := hidP g2
    clear g2
    go_enter Try.func7, Try.ntmps7
    go_wp2_with (first | (go_at_call 19; refine (z19_yes _ _ _ _ _ _ _ _ hlen).mono ?_; rintro e w' ⟨rfl, rfl⟩) | fail)
    refine (all20_yes a0 nv _ zv _ _ (by omega) (by omega) HV.out.1 G1.out).mono ?_
    rintro e w' ⟨rfl, rfl⟩
    go_wp2_with fail
    refine (all20_no a1 nd _ zd _ _ (by omega) HD.out.2.2 HD.out.1 G2.out).mono ?_
    rintro e w' ⟨rfl, rfl⟩
    go_wp2
    go_ret
    exact ⟨rfl, Below.refl _ _⟩
  exact absurd ⟨hlen, by omega, by omega, by omega, by omega, by omega, G1.out, g2⟩ hno

end Go.Proofs.Qxb6000405a
