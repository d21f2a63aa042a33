import Derived.Test.Qxb6601683aTextLaw
/-! FnAppendRFC3339TextOrderIsTimeOrder (7). -/
namespace Go.Proofs.Qxb6601683a.textOrder
open Go.RowKit

/-- The k-th of a list of fields. -/
def fld (l : List Int) (k : Nat) : Int := l.getD k 0

theorem fld6 (a0 a1 a2 a3 a4 a5 : Int) (k : Nat) (hk : k < 6) : (#[.int .i64 a0, .int .i64 a1, .int .i64 a2, .int .i64 a3, .int .i64 a4, .int .i64 a5] : Array Value)[k]? = some (.int .i64 (fld [a0, a1, a2, a3, a4, a5] k)) := by
  have h : k = 0 ∨ k = 1 ∨ k = 2 ∨ k = 3 ∨ k = 4 ∨ k = 5 := by omega
  rcases h with rfl | rfl | rfl | rfl | rfl | rfl <;> rfl

theorem fld8 (a0 a1 a2 a3 a4 a5 a6 a7 s : Int) (k : Nat) (hk : k < 8) : (#[.int .i64 a0, .int .i64 a1, .int .i64 a2, .int .i64 a3, .int .i64 a4, .int .i64 a5, .int .i64 a6, .int .i64 a7, .int .u8 s] : Array Value)[k]? = some (.int .i64 (fld [a0, a1, a2, a3, a4, a5, a6, a7] k)) := by
  have h : k = 0 ∨ k = 1 ∨ k = 2 ∨ k = 3 ∨ k = 4 ∨ k = 5 ∨ k = 6 ∨ k = 7 := by omega
  rcases h with rfl | rfl | rfl | rfl | rfl | rfl | rfl | rfl <;> rfl

theorem fld68 (a0 a1 a2 a3 a4 a5 oh om : Int) (k : Nat) (hk : k < 6) : (#[.int .i64 a0, .int .i64 a1, .int .i64 a2, .int .i64 a3, .int .i64 a4, .int .i64 a5] : Array Value)[k]? = some (.int .i64 (fld [a0, a1, a2, a3, a4, a5, oh, om] k)) := by
  have h : k = 0 ∨ k = 1 ∨ k = 2 ∨ k = 3 ∨ k = 4 ∨ k = 5 := by omega
  rcases h with rfl | rfl | rfl | rfl | rfl | rfl <;> rfl

theorem cellB {w w' : World} {b : Nat} (hg : w.grownBy w' none) (hb : b < w.heap.size) : ∀ o, w'.cell? ⟨b, o, none⟩ = w.cell? ⟨b, o, none⟩ :=
  fun o => World.cell?_of_block (a := ⟨b, o, none⟩) (hg.block b hb (by simp))

theorem bel_drewN {B : Nat} {a w : World} (h : Below B a w) (n : Nat) : Below B a (w.drewN n) := ⟨h.os, h.tape, h.output, h.size, h.block⟩

theorem ret_true {a b : Int} (h : a = b) : Ending.returned (.bool (a == b)) = .returned (.bool true) := by simp [h]

/-- The boxes of the two arrays lie in W. -/
def Boxes (B : Nat) (a0 a1 a2 a3 a4 a5 b0 b1 b2 b3 b4 b5 : Int) (W : World) : Prop :=
  W.cell? ⟨B, 0, none⟩ = some (.int .i64 a0) ∧ W.cell? ⟨B, 1, none⟩ = some (.int .i64 a1) ∧ W.cell? ⟨B, 2, none⟩ = some (.int .i64 a2) ∧ W.cell? ⟨B, 3, none⟩ = some (.int .i64 a3) ∧ W.cell? ⟨B, 4, none⟩ = some (.int .i64 a4) ∧ W.cell? ⟨B, 5, none⟩ = some (.int .i64 a5) ∧
  W.cell? ⟨B + 1, 0, none⟩ = some (.int .i64 b0) ∧ W.cell? ⟨B + 1, 1, none⟩ = some (.int .i64 b1) ∧ W.cell? ⟨B + 1, 2, none⟩ = some (.int .i64 b2) ∧ W.cell? ⟨B + 1, 3, none⟩ = some (.int .i64 b3) ∧ W.cell? ⟨B + 1, 4, none⟩ = some (.int .i64 b4) ∧ W.cell? ⟨B + 1, 5, none⟩ = some (.int .i64 b5)

theorem Boxes.kept {B : Nat} {a0 a1 a2 a3 a4 a5 b0 b1 b2 b3 b4 b5 : Int} {W W' : World} (h : Boxes B a0 a1 a2 a3 a4 a5 b0 b1 b2 b3 b4 b5 W) (hB : B + 1 < W.heap.size) (hg : W.grownBy W' none) : Hid (Boxes B a0 a1 a2 a3 a4 a5 b0 b1 b2 b3 b4 b5 W') := by
  have e : ∀ b o, b < W.heap.size → W'.cell? ⟨b, o, none⟩ = W.cell? ⟨b, o, none⟩ := fun b o hb => World.cell?_of_block (a := ⟨b, o, none⟩) (hg.block b hb (by simp))
  show Boxes _ _ _ _ _ _ _ _ _ _ _ _ _ _
  unfold Boxes
  rw [e B 0 (by omega), e B 1 (by omega), e B 2 (by omega), e B 3 (by omega), e B 4 (by omega), e B 5 (by omega), e (B + 1) 0 hB, e (B + 1) 1 hB, e (B + 1) 2 hB, e (B + 1) 3 hB, e (B + 1) 4 hB, e (B + 1) 5 hB]
  exact h

theorem nbox {W w1 : World} {O : Obj} {cs : Array Value} {t : TypeId} (hg : ((W.alloc O).alloc (.cells cs t)).grownBy w1 none) (i : Nat) (u : Value) (hi : cs[i]? = some u) : w1.cell? ⟨W.heap.size + 1, i, none⟩ = some u := by
  refine hg.cell (a := ⟨W.heap.size + 1, i, none⟩) ?_ (by simp)
  rw [World.cell?_alloc_at _ _ _ _ (by simp)]
  exact hi

theorem bd8 {a : List Int} {oh om : Int} (hl : a.length = 6) (o1 : 0 ≤ oh) (o2 : oh ≤ 99) (o3 : 0 ≤ om) (o4 : om ≤ 99) (h : ∀ j, j < 6 → 0 ≤ fld a j ∧ fld a j ≤ 99) :
    Hid (∀ k, k < 8 → 0 ≤ fld (a ++ [oh, om]) k ∧ fld (a ++ [oh, om]) k ≤ 99) := by
  intro k hk
  by_cases h6 : k < 6
  · have : fld (a ++ [oh, om]) k = fld a k := by simp [fld, List.getD, List.getElem?_append_left (show k < a.length by omega)]
    rw [this]; exact h k h6
  · have h67 : k = 6 ∨ k = 7 := by omega
    rcases h67 with rfl | rfl
    · have : fld (a ++ [oh, om]) 6 = oh := by simp [fld, List.getD, hl]
      rw [this]; exact ⟨o1, o2⟩
    · have : fld (a ++ [oh, om]) 7 = om := by simp [fld, List.getD, hl]
      rw [this]; exact ⟨o3, o4⟩

set_option maxHeartbeats 2000000 in
theorem walk (a0 a1 a2 a3 a4 a5 b0 b1 b2 b3 b4 b5 oh om s : Int) (w : World) :
    Calls Try.prog 7 #[.agg #[.int .i64 a0, .int .i64 a1, .int .i64 a2, .int .i64 a3, .int .i64 a4, .int .i64 a5], .agg #[.int .i64 b0, .int .i64 b1, .int .i64 b2, .int .i64 b3, .int .i64 b4, .int .i64 b5], .int .i64 oh, .int .i64 om, .int .u8 s] w fun e w' => e = .returned (.bool true) ∧ Below w.heap.size w w' := by
  have HBel : Hid (Below w.heap.size w ((w.alloc (.cells #[.int .i64 a0, .int .i64 a1, .int .i64 a2, .int .i64 a3, .int .i64 a4, .int .i64 a5] 38)).alloc (.cells #[.int .i64 b0, .int .i64 b1, .int .i64 b2, .int .i64 b3, .int .i64 b4, .int .i64 b5] 38))) := ((Below.refl _ _).alloc (Nat.le_refl _) _).alloc (by simp) _
  by_cases o1 : oh < 0
  · go_enter Try.func7, Try.ntmps7
    go_wp2
    go_ret
    exact ⟨rfl, HBel.out⟩
  by_cases o2 : 99 < oh
  · go_enter Try.func7, Try.ntmps7
    go_wp2
    go_ret
    exact ⟨rfl, HBel.out⟩
  by_cases o3 : om < 0
  · go_enter Try.func7, Try.ntmps7
    go_wp2
    go_ret
    exact ⟨rfl, HBel.out⟩
  by_cases o4 : 99 < om
  · go_enter Try.func7, Try.ntmps7
    go_wp2
    go_ret
    exact ⟨rfl, HBel.out⟩
  obtain ⟨W, hW⟩ : ∃ W, W = (w.alloc (.cells #[.int .i64 a0, .int .i64 a1, .int .i64 a2, .int .i64 a3, .int .i64 a4, .int .i64 a5] 38)).alloc (.cells #[.int .i64 b0, .int .i64 b1, .int .i64 b2, .int .i64 b3, .int .i64 b4, .int .i64 b5] 38) := ⟨_, rfl⟩
  rw [← hW] at HBel
  have hWs : W.heap.size = w.heap.size + 2 := by rw [hW]; simp
  have H1 : Hid (∀ k, k < 6 → W.cell? ⟨w.heap.size, k, none⟩ = some (.int .i64 (fld [a0, a1, a2, a3, a4, a5] k))) := fun k hk => by
    rw [hW, World.cell?_alloc_past _ _ _ (by simp), World.cell?_alloc_at _ _ _ _ rfl]; exact fld6 _ _ _ _ _ _ k hk
  have H2 : Hid (∀ k, k < 6 → W.cell? ⟨w.heap.size + 1, k, none⟩ = some (.int .i64 (fld [b0, b1, b2, b3, b4, b5] k))) := fun k hk => by
    rw [hW, World.cell?_alloc_at _ _ _ _ (by simp)]; exact fld6 _ _ _ _ _ _ k hk
  have HBx : Hid (Boxes w.heap.size a0 a1 a2 a3 a4 a5 b0 b1 b2 b3 b4 b5 W) :=
    ⟨H1.out 0 (by omega), H1.out 1 (by omega), H1.out 2 (by omega), H1.out 3 (by omega), H1.out 4 (by omega), H1.out 5 (by omega), H2.out 0 (by omega), H2.out 1 (by omega), H2.out 2 (by omega), H2.out 3 (by omega), H2.out 4 (by omega), H2.out 5 (by omega)⟩
  have HW : Hid (W = _) := hW
  have HWs : Hid (W.heap.size = w.heap.size + 2) := hWs
  clear hW hWs
  go_enter Try.func7, Try.ntmps7
  go_wp2
  rw [← HW.out]
  clear HW
  go_loop [11] (fun i => ∃ k : Nat, k ≤ 6 ∧ i = .int .i64 k ∧ Hid (∀ j, j < k → (0 ≤ fld [a0, a1, a2, a3, a4, a5] j ∧ fld [a0, a1, a2, a3, a4, a5] j ≤ 99) ∧ (0 ≤ fld [b0, b1, b2, b3, b4, b5] j ∧ fld [b0, b1, b2, b3, b4, b5] j ≤ 99))) (fun i => 6 - (intOf i).toNat)
  case atStart => exact ⟨0, Nat.zero_le _, rfl, fun j hj => by omega⟩
  case round =>
    obtain ⟨k, hk, rfl, HR⟩ := hrel
    by_cases hlt : k < 6
    · have c1 := H1.out k hlt
      have c2 := H2.out k hlt
      by_cases g1 : fld [a0, a1, a2, a3, a4, a5] k < 0
      · go_wp2
        go_ret
        exact ⟨rfl, HBel.out⟩
      by_cases g2 : 99 < fld [a0, a1, a2, a3, a4, a5] k
      · go_wp2
        go_ret
        exact ⟨rfl, HBel.out⟩
      by_cases g3 : fld [b0, b1, b2, b3, b4, b5] k < 0
      · go_wp2
        go_ret
        exact ⟨rfl, HBel.out⟩
      by_cases g4 : 99 < fld [b0, b1, b2, b3, b4, b5] k
      · go_wp2
        go_ret
        exact ⟨rfl, HBel.out⟩
      go_wp2
      go_round
      case rel =>
        refine ⟨k + 1, by omega, by go_num, fun j hj => ?_⟩
        by_cases hjk : j < k
        · exact HR.out j hjk
        · obtain rfl : j = k := by omega
          exact ⟨⟨by omega, by omega⟩, ⟨by omega, by omega⟩⟩
      case measure => simp [intOf]; omega
    · obtain ⟨x0, x1, x2, x3, x4, x5, y0, y1, y2, y3, y4, y5⟩ := HBx.out
      have hs0 : w.heap.size < W.heap.size := by have := HWs.out; omega
      have hs1 : w.heap.size + 1 < W.heap.size := by have := HWs.out; omega
      have HLa := bd8 (a := [a0, a1, a2, a3, a4, a5]) rfl o1 o2 o3 o4 (fun j hj => (HR.out j (by omega)).1)
      have HLb := bd8 (a := [b0, b1, b2, b3, b4, b5]) rfl o1 o2 o3 o4 (fun j hj => (HR.out j (by omega)).2)
      go_wp2_with fail
      refine (rfc17 a0 a1 a2 a3 a4 a5 oh om s (fld [a0, a1, a2, a3, a4, a5, oh, om]) (.slice none 0 0) _ 0 [] _ (fld8 a0 a1 a2 a3 a4 a5 oh om s) (fun k hk => (HLa.out k hk).1) (fun k hk => (HLa.out k hk).2) (Nat.le_refl _) (World.ownsRow_nil _ _ _ _) (by omega)).mono ?_
      rintro e w1 ⟨v1, rfl, hown1, happ1⟩
      have hG1 : Hid (_ ∧ _) := ⟨hown1, happ1⟩
      have hz1 : W.heap.size + 2 ≤ w1.heap.size := by have := happ1.1.size; simpa using this
      have n0 := nbox happ1.1 0 (.int .i64 b0) rfl
      have n1 := nbox happ1.1 1 (.int .i64 b1) rfl
      have n2 := nbox happ1.1 2 (.int .i64 b2) rfl
      have n3 := nbox happ1.1 3 (.int .i64 b3) rfl
      have n4 := nbox happ1.1 4 (.int .i64 b4) rfl
      have n5 := nbox happ1.1 5 (.int .i64 b5) rfl
      have n6 := nbox happ1.1 6 (.int .i64 oh) rfl
      have n7 := nbox happ1.1 7 (.int .i64 om) rfl
      have HG1 : Hid (W.grownBy w1 none) := grown_trans (grown_alloc (World.grownBy_alloc W _ none) _) happ1.1 (fun _ h => by cases h)
      have HB1 := HBx.out.kept hs1 (grown_trans (grown_alloc (World.grownBy_alloc W _ none) _) happ1.1 (fun _ h => by cases h))
      clear hown1 happ1 x0 x1 x2 x3 x4 x5 y0 y1 y2 y3 y4 y5
      go_wp2_with fail
      refine (rfc17 b0 b1 b2 b3 b4 b5 oh om s (fld [b0, b1, b2, b3, b4, b5, oh, om]) (.slice none 0 0) w1.heap.size 0 [] _ (fld8 b0 b1 b2 b3 b4 b5 oh om s) (fun k hk => (HLb.out k hk).1) (fun k hk => (HLb.out k hk).2) (Nat.le_refl _) (World.ownsRow_nil _ _ _ _) (by omega)).mono ?_
      rintro e w2 ⟨v2, rfl, hown2, happ2⟩
      have hz2 : w1.heap.size ≤ w2.heap.size := happ2.1.size
      obtain ⟨x0, x1, x2, x3, x4, x5, y0, y1, y2, y3, y4, y5⟩ := HB1.out.kept (by omega) happ2.1
      have HB2 : Hid (Below w.heap.size w w2) := HBel.out.trans ((grown_below (grown_trans HG1.out happ2.1 (fun _ h => by cases h))).mono (by omega))
      obtain ⟨ao1, cap1, rfl, _⟩ := own_form hG1.out.1
      obtain ⟨ao2, cap2, rfl, _⟩ := own_form hown2
      obtain ⟨p1, q1, rfl, d1⟩ := (Bs.of_own (own_below hG1.out.1 happ2.1)).at (by omega)
      obtain ⟨p2, q2, rfl, d2⟩ := (Bs.of_own hown2).at (by omega)
      have HD1 : Hid (_ ∧ _) := ⟨d1, d2⟩
      clear hG1 hown2 happ2 n0 n1 n2 n3 n4 n5 n6 n7 d1 d2
      go_wp2_with fail
      go_region_held3 (fun w' => w'.cell? ⟨w.heap.size, 0, none⟩ = some (.int .i64 a0) ∧ w'.cell? ⟨w.heap.size, 1, none⟩ = some (.int .i64 a1) ∧ w'.cell? ⟨w.heap.size, 2, none⟩ = some (.int .i64 a2) ∧ w'.cell? ⟨w.heap.size, 3, none⟩ = some (.int .i64 a3) ∧ w'.cell? ⟨w.heap.size, 4, none⟩ = some (.int .i64 a4) ∧ w'.cell? ⟨w.heap.size, 5, none⟩ = some (.int .i64 a5) ∧ w'.cell? ⟨w.heap.size + 1, 0, none⟩ = some (.int .i64 b0) ∧ w'.cell? ⟨w.heap.size + 1, 1, none⟩ = some (.int .i64 b1) ∧ w'.cell? ⟨w.heap.size + 1, 2, none⟩ = some (.int .i64 b2) ∧ w'.cell? ⟨w.heap.size + 1, 3, none⟩ = some (.int .i64 b3) ∧ w'.cell? ⟨w.heap.size + 1, 4, none⟩ = some (.int .i64 b4) ∧ w'.cell? ⟨w.heap.size + 1, 5, none⟩ = some (.int .i64 b5)) (go_keep)
        (first
          | (go_at_call 18; refine (cmp18 _ _ 25 _ _ p1 q1 p2 q2 (fun i => (txt (fld [a0, a1, a2, a3, a4, a5, oh, om]) s 8).getD i 0) (fun i => (txt (fld [b0, b1, b2, b3, b4, b5, oh, om]) s 8).getD i 0) _ rfl rfl (by omega) (by exact HD1.out.1) (by exact HD1.out.2)).mono ?_; rintro e w3 ⟨rfl, q, rfl⟩)
          | (go_at_call 19; refine (cmp19 a0 a1 a2 a3 a4 a5 b0 b1 b2 b3 b4 b5 (fld [a0, a1, a2, a3, a4, a5, oh, om]) (fld [b0, b1, b2, b3, b4, b5, oh, om]) _ ?_ ?_).mono ?_; exact fld68 a0 a1 a2 a3 a4 a5 oh om; exact fld68 b0 b1 b2 b3 b4 b5 oh om; rintro e w4 ⟨rfl, hg4⟩; have hc0 := cellB (b := w.heap.size) hg4 (by show _ < w2.heap.size; omega); have hc1 := cellB (b := w.heap.size + 1) hg4 (by show _ < w2.heap.size; omega)))
      go_wp2
      go_ret
      exact ⟨ret_true (text_law _ _ s rfl rfl), (bel_drewN HB2.out _).trans ((grown_below hg4).mono (show w.heap.size ≤ w2.heap.size by omega))⟩

end Go.Proofs.Qxb6601683a.textOrder
