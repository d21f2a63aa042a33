import Derived.Test.Qxb6601683aProg
import Derived.Test.Qxb6601683aOwn
import Derived.WalkSpells
import Derived.WalkLawsBesides
/-! cloneBytes (11). -/
namespace Go.Proofs.Qxb6601683a
open Go.RowKit

theorem Try.info5 : (Try.prog.info? 5).map (fun i => (i.zero, i.size, i.bytes)) = some (some (.int .u8 0), 1, 1) := by kernel_rfl

theorem clone_nil (n cap : Nat) (w : World) :
    Calls Try.prog 11 #[.slice none n cap] w fun e w' => e = .returned (.slice none 0 0) ∧ w' = w := by
  have q : ∀ (w : World) (a : Option Addr) (n c n' c' : Nat), (binOp .eql 25 (.slice a n c) (.slice none n' c')).run Try.prog w = .ok (.bool a.isNone) w := fun w a n c n' c' => Lib.run_eql_slice_nil w _ _ a n c n' c' Try.underlying25
  go_enter Try.func11, Try.ntmps11
  go_wp2
  go_ret
  exact ⟨rfl, rfl⟩

set_option maxHeartbeats 400000 in
theorem clone_some (x : Addr) (n cap : Nat) (ys : List Int) (w : World) (h : Bs w (some x) n ys) (hn : n ≤ 1048576) :
    Calls Try.prog 11 #[.slice (some x) n cap] w fun e w' => e = .returned (.slice (some ⟨w.heap.size, 0, none⟩) n n) ∧ w'.ownsRow w.heap.size 5 1 (.slice (some ⟨w.heap.size, 0, none⟩) n n) n (ys.map (Value.int .u8)) ∧ w.grownBy w' none := by
  have q : ∀ (w : World) (a : Option Addr) (n c n' c' : Nat), (binOp .eql 25 (.slice a n c) (.slice none n' c')).run Try.prog w = .ok (.bool a.isNone) w := fun w a n c n' c' => Lib.run_eql_slice_nil w _ _ a n c n' c' Try.underlying25
  obtain ⟨i0, hi, hz0, hz1, hz2⟩ := info_parts Try.info5
  have HB : Hid (Bs w (some x) n ys) := h
  clear h
  go_enter Try.func11, Try.ntmps11
  go_wp2_with (first
    | (at_make; refine wpList_make_full _ rfl _ _ 25 rfl w.heap.size 5 i0 (.int .u8 0) 1 Try.underlying25 hi hz0 hz1 _ _ _ _ n rfl rfl rfl rfl (by rw [hz2]; omega) (by unfold maxLen; omega) (Nat.le_refl _) ?_; intro w1 hown1 hgrow1; obtain ⟨cur, hcur, hcl⟩ := own_row hown1; have HC : Hid (w1.heap[w.heap.size]? = some (.cells cur.toArray 5 (0, 0))) := hcur; clear hcur hown1)
    | (refine wpList_copy_splice rfl (.tmp 9) (.tmp 10) 25 25 rfl 5 Try.underlying25 (by rw [hi]; simp [hz1]) _ _ _ _ _ _ rfl rfl w.heap.size 0 cur 5 HC.out (ys.map (Value.int .u8)) (by rw [List.length_map, HB.out.1]; simp) (fun _ => ⟨rfl, x, rfl, (HB.out.below hgrow1).2.2 x rfl⟩) (by rw [List.length_map, HB.out.1, hcl]; simp) (ints_oneCell _ _) w.heap.size w1 (Below.refl _ _) (Nat.le_refl _) ?_; intro w2 HG2 hB2))
  go_ret
  have hl := HB.out.1
  have hG := HG2.out
  rw [splice_all _ _ (by rw [List.length_map, hl, hcl])] at hG
  refine ⟨rfl, own_of_block hG (by simpa using hl) (by unfold maxLen; omega) (Nat.le_refl _), ?_⟩
  exact below_grown ((grown_below hgrow1).trans hB2)

/-- cloneBytes: a fresh row of the same bytes (nil stays nil). -/
theorem clone_any (ao : Option Addr) (n cap : Nat) (ys : List Int) (w : World) (h : Bs w ao n ys) (hn : n ≤ 1048576) :
    Calls Try.prog 11 #[.slice ao n cap] w fun e w' => ∃ ao' cap', e = .returned (.slice ao' n cap') ∧ w'.ownsRow w.heap.size 5 1 (.slice ao' n cap') n (ys.map (Value.int .u8)) ∧ w.grownBy w' none := by
  cases ao with
  | none =>
    obtain ⟨h1, h2, _⟩ := h
    have h0 : n = 0 := h2 rfl
    have hy : ys = [] := List.eq_nil_of_length_eq_zero (by omega)
    subst h0
    subst hy
    refine (clone_nil 0 cap w).mono fun e w' ⟨he, hw⟩ => ?_
    subst hw
    exact ⟨none, 0, he, World.ownsRow_nil _ _ _ _, World.grownBy.refl _ _⟩
  | some x =>
    refine (clone_some x n cap ys w h hn).mono fun e w' ⟨he, ho, hg⟩ => ?_
    exact ⟨_, _, he, ho, hg⟩

end Go.Proofs.Qxb6601683a
