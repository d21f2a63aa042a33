import Derived.Test.Qxb6601683aDig
/-! Plain laws on 'digs', 'nibs', 'tb', 'digC'. -/
namespace Go.Proofs.Qxb6601683a

theorem tb_digC (x : Int) (h0 : 0 ≤ x) (h1 : x < 15) : tb (digC x) = x := by
  have h : x = 0 ∨ x = 1 ∨ x = 2 ∨ x = 3 ∨ x = 4 ∨ x = 5 ∨ x = 6 ∨ x = 7 ∨ x = 8 ∨ x = 9 ∨ x = 10 ∨ x = 11 ∨ x = 12 ∨ x = 13 ∨ x = 14 := by omega
  rcases h with rfl | rfl | rfl | rfl | rfl | rfl | rfl | rfl | rfl | rfl | rfl | rfl | rfl | rfl | rfl <;> decide

theorem takeWhile_le {p : Int → Bool} (l : List Int) : (l.takeWhile p).length ≤ l.length := by
  induction l with
  | nil => simp
  | cons x xs ih => simp only [List.takeWhile_cons]; split <;> simp; omega
theorem takeWhile_get {p : Int → Bool} (l : List Int) (j : Nat) (h : j < (l.takeWhile p).length) : (l.takeWhile p).getD j 0 = l.getD j 0 ∧ p (l.getD j 0) = true := by
  induction l generalizing j with
  | nil => simp at h
  | cons x xs ih =>
    simp only [List.takeWhile_cons] at h ⊢
    split at h
    · rename_i hp
      cases j with
      | zero => simp [hp]
      | succ j =>
        have := ih j (by simpa using h)
        simpa [hp] using this
    · simp at h
theorem takeWhile_stops {p : Int → Bool} (l : List Int) (h : (l.takeWhile p).length < l.length) : p (l.getD (l.takeWhile p).length 0) = false := by
  induction l with
  | nil => simp at h
  | cons x xs ih =>
    simp only [List.takeWhile_cons] at h ⊢
    split at h
    · rename_i hp
      have := ih (by simpa using h)
      simpa [hp] using this
    · rename_i hp
      simp [hp]

theorem nibs_get (l : List Int) (j : Nat) (h : j < 2 * l.length) : (nibs l).getD j 0 = if j % 2 = 0 then l.getD (j / 2) 0 % 16 else l.getD (j / 2) 0 / 16 := by
  induction l generalizing j with
  | nil => simp at h
  | cons x xs ih =>
    match j, h with
    | 0, _ => rfl
    | 1, _ => rfl
    | j + 2, h =>
      have := ih j (by simp at h; omega)
      have e1 : (j + 2) % 2 = j % 2 := by omega
      have e2 : (j + 2) / 2 = j / 2 + 1 := by omega
      rw [e1, e2]
      simpa [nibs] using this

theorem digs_len (l : List Int) : (digs l).length ≤ 2 * l.length := by
  unfold digs
  rw [List.length_map, ← nibs_length]
  exact takeWhile_le _

/-- Each digit stands for the nibble at its place. -/
theorem digs_get (l : List Int) (hb : ∀ k, 0 ≤ l.getD k 0 ∧ l.getD k 0 ≤ 255) (j : Nat) (h : j < (digs l).length) :
    (0 ≤ (digs l).getD j 0 ∧ (digs l).getD j 0 ≤ 255) ∧ tb ((digs l).getD j 0) = (if j % 2 = 0 then l.getD (j / 2) 0 % 16 else l.getD (j / 2) 0 / 16) ∧ 0 ≤ (if j % 2 = 0 then l.getD (j / 2) 0 % 16 else l.getD (j / 2) 0 / 16) := by
  have hl := digs_len l
  have h' : j < ((nibs l).takeWhile (fun n => !(n == 15))).length := by simpa [digs] using h
  obtain ⟨g1, g2⟩ := takeWhile_get _ _ h'
  have e : (digs l).getD j 0 = digC ((nibs l).getD j 0) := by
    rw [← g1]
    unfold digs
    simp [List.getD, h']
  rw [e]
  rw [nibs_get l j (by omega)] at g2 ⊢
  have hbd := hb (j / 2)
  have h0 : 0 ≤ (if j % 2 = 0 then l.getD (j / 2) 0 % 16 else l.getD (j / 2) 0 / 16) := by split <;> omega
  have h1 : (if j % 2 = 0 then l.getD (j / 2) 0 % 16 else l.getD (j / 2) 0 / 16) < 15 := by
    have h15 : (if j % 2 = 0 then l.getD (j / 2) 0 % 16 else l.getD (j / 2) 0 / 16) ≠ 15 := by simpa using g2
    split at h15 <;> rename_i hp <;> simp only [hp, if_true, if_false] <;> omega
  exact ⟨digC_bd _ h0 h1, tb_digC _ h0 h1, h0⟩

theorem digs_stop15 (l : List Int) (h : (digs l).length < 2 * l.length) : (if (digs l).length % 2 = 0 then l.getD ((digs l).length / 2) 0 % 16 else l.getD ((digs l).length / 2) 0 / 16) = 15 := by
  have e : (digs l).length = ((nibs l).takeWhile (fun n => !(n == 15))).length := by simp [digs]
  rw [← nibs_get l _ h]
  have := takeWhile_stops (p := fun n => !(n == 15)) (nibs l) (by rw [← e, nibs_length]; exact h)
  rw [← e] at this
  simpa using this

end Go.Proofs.Qxb6601683a
