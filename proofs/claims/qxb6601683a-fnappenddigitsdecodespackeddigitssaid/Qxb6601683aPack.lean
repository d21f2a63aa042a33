import Derived.Test.Qxb6601683aDigLaw
/-! The plain law of packing: 'digs' of a packed text gives the text back. -/
namespace Go.Proofs.Qxb6601683a

/-- Two digits an octet, low nibble first; an odd last digit is padded by 15. -/
def pk : List Int → List Int
  | [] => []
  | [a] => [tb a + 16 * 15]
  | a :: b :: r => (tb a + 16 * tb b) :: pk r

theorem tb_le (a : Int) : tb a ≤ 14 := by
  unfold tb
  repeat' split
  all_goals omega

theorem digC_tb (a : Int) (h : 0 ≤ tb a) : digC (tb a) = a := by
  unfold tb at h ⊢
  split
  · rename_i h1
    have hd : ∀ x : Int, 0 ≤ x → x ≤ 9 → digC x = x + 48 := by
      intro x h0 h9
      have hx : x = 0 ∨ x = 1 ∨ x = 2 ∨ x = 3 ∨ x = 4 ∨ x = 5 ∨ x = 6 ∨ x = 7 ∨ x = 8 ∨ x = 9 := by omega
      rcases hx with rfl | rfl | rfl | rfl | rfl | rfl | rfl | rfl | rfl | rfl <;> decide
    rw [hd _ (by omega) (by omega)]
    omega
  · rename_i h1
    simp only [h1, if_false] at h
    split
    · rename_i h2; subst h2; decide
    · rename_i h2
      simp only [h2, if_false] at h
      split
      · rename_i h3; subst h3; decide
      · rename_i h3
        simp only [h3, if_false] at h
        split
        · rename_i h4; subst h4; decide
        · rename_i h4
          simp only [h4, if_false] at h
          split
          · rename_i h5; subst h5; decide
          · rename_i h5
            simp only [h5, if_false] at h
            split
            · rename_i h6; subst h6; decide
            · rename_i h6
              simp only [h6, if_false] at h
              omega

theorem nibs_pk : ∀ (S T : List Int), (∀ a ∈ S, 0 ≤ tb a) → ∃ rest, nibs (pk S ++ (if S.length % 2 = 0 then [255] else []) ++ T) = S.map tb ++ 15 :: rest
  | [], T, _ => ⟨15 :: nibs T, rfl⟩
  | [a], T, h => by
    have h0 := h a (by simp)
    have h1 := tb_le a
    refine ⟨nibs T, ?_⟩
    rw [if_neg (show ¬ ([a] : List Int).length % 2 = 0 by simp)]
    show nibs ((tb a + 16 * 15) :: T) = tb a :: 15 :: nibs T
    rw [nibs, show (tb a + 16 * 15) % 16 = tb a by omega, show (tb a + 16 * 15) / 16 = 15 by omega]
  | a :: b :: r, T, h => by
    have h0 := h a (by simp)
    have h1 := tb_le a
    have h2 := h b (by simp)
    have h3 := tb_le b
    obtain ⟨rest, hr⟩ := nibs_pk r T (fun x hx => h x (by simp [hx]))
    refine ⟨rest, ?_⟩
    have e : (a :: b :: r).length % 2 = r.length % 2 := by simp only [List.length_cons]; omega
    rw [e]
    simp only [pk, List.cons_append, nibs, List.map_cons]
    rw [show (tb a + 16 * tb b) % 16 = tb a by omega, show (tb a + 16 * tb b) / 16 = tb b by omega, hr]

theorem digs_pk (S T : List Int) (h : ∀ a ∈ S, 0 ≤ tb a) : digs (pk S ++ (if S.length % 2 = 0 then [255] else []) ++ T) = S := by
  obtain ⟨rest, hr⟩ := nibs_pk S T h
  unfold digs
  rw [hr, takeWhile_stop _ _ _ (fun y hy => ?_) rfl]
  · rw [List.map_map]
    have : ∀ a ∈ S, (digC ∘ tb) a = a := fun a ha => digC_tb a (h a ha)
    rw [List.map_congr_left this, List.map_id']
  · obtain ⟨a, _, rfl⟩ := List.mem_map.1 hy
    have := tb_le a
    simp; omega

theorem pk_append : ∀ (l m : List Int), l.length % 2 = 0 → pk (l ++ m) = pk l ++ pk m
  | [], m, _ => rfl
  | [a], m, h => by simp at h
  | a :: b :: r, m, h => by
    have := pk_append r m (by simp only [List.length_cons] at h; omega)
    simp [pk, this]

theorem pk_length : ∀ l : List Int, (pk l).length = (l.length + 1) / 2
  | [] => rfl
  | [a] => by simp [pk]
  | a :: b :: r => by
    have := pk_length r
    simp only [pk, List.length_cons, this]
    omega

/-- One more octet. -/
theorem pk_step (S : List Int) (k : Nat) (h : 2 * k < S.length) :
    pk (S.take (2 * (k + 1))) = pk (S.take (2 * k)) ++ [tb (S.getD (2 * k) 0) + 16 * (if 2 * k + 1 < S.length then tb (S.getD (2 * k + 1) 0) else 15)] := by
  have hl : (S.take (2 * k)).length % 2 = 0 := by rw [List.length_take]; omega
  by_cases h2 : 2 * k + 1 < S.length
  · have e : S.take (2 * (k + 1)) = S.take (2 * k) ++ [S.getD (2 * k) 0, S.getD (2 * k + 1) 0] := by
      have e1 : S.getD (2 * k) 0 = S[2 * k] := by simp [List.getD, h]
      have e2 : S.getD (2 * k + 1) 0 = S[2 * k + 1] := by simp [List.getD, h2]
      rw [e1, e2, show 2 * (k + 1) = 2 * k + 1 + 1 by omega, List.take_succ_eq_append_getElem h2, List.take_succ_eq_append_getElem h, List.append_assoc]
      rfl
    rw [e, pk_append _ _ hl, if_pos h2]
    rfl
  · have e : S.take (2 * (k + 1)) = S.take (2 * k) ++ [S.getD (2 * k) 0] := by
      rw [List.take_of_length_le (by omega : S.length ≤ 2 * (k + 1))]
      conv => lhs; rw [← List.take_append_drop (2 * k) S, List.drop_eq_getElem_cons h, List.drop_of_length_le (by omega)]
      simp [List.getD, h]
    rw [e, pk_append _ _ hl, if_neg h2]
    rfl

end Go.Proofs.Qxb6601683a
