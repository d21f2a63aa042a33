import Derived.Test.Qxb6601683aRfc
import Derived.Deep.QuietTactic
import Derived.BigQuiet
/-! cmpBytes (18), cmpInts6 (19), and the plain law on texts. -/
namespace Go.Proofs.Qxb6601683a
open Go.RowKit

/-- Lexicographic comparison of m places from k on. -/
def cmpN (a b : Nat → Int) (k : Nat) : Nat → Int
  | 0 => 0
  | m + 1 => if a k < b k then -1 else if b k < a k then 1 else cmpN a b (k + 1) m

theorem ret_int' {k : IntKind} {a b : Int} (h : a = b) : Ending.returned (.int k a) = .returned (.int k b) := by rw [h]
theorem cmpN_lt {a b : Nat → Int} {k n : Nat} (h : k < n) (hl : a k < b k) : cmpN a b k (n - k) = -1 := by
  obtain ⟨m, hm⟩ : ∃ m, n - k = m + 1 := ⟨n - k - 1, by omega⟩
  rw [hm, cmpN, if_pos hl]
theorem cmpN_gt {a b : Nat → Int} {k n : Nat} (h : k < n) (hl : b k < a k) : cmpN a b k (n - k) = 1 := by
  obtain ⟨m, hm⟩ : ∃ m, n - k = m + 1 := ⟨n - k - 1, by omega⟩
  rw [hm, cmpN, if_neg (by omega), if_pos hl]
theorem cmpN_eq {a b : Nat → Int} {k n : Nat} (h : k < n) (hl : a k = b k) : cmpN a b k (n - k) = cmpN a b (k + 1) (n - (k + 1)) := by
  obtain ⟨m, hm⟩ : ∃ m, n - k = m + 1 := ⟨n - k - 1, by omega⟩
  have : n - (k + 1) = m := by omega
  rw [hm, cmpN, if_neg (by omega), if_neg (by omega), this]
theorem cmpN_end {a b : Nat → Int} {k n : Nat} (h : ¬ k < n) : cmpN a b k (n - k) = 0 := by
  have : n - k = 0 := by omega
  rw [this, cmpN]
set_option maxHeartbeats 1000000 in
theorem cmp18 (x y : Addr) (n ca cb b1 o1 b2 o2 : Nat) (z1 z2 : Nat → Int) (w : World) (hx : x = ⟨b1, o1, none⟩) (hy : y = ⟨b2, o2, none⟩) (hn : n ≤ 1000)
    (h1 : ∀ i, i < n → w.cell? ⟨b1, o1 + i, none⟩ = some (.int .u8 (z1 i))) (h2 : ∀ i, i < n → w.cell? ⟨b2, o2 + i, none⟩ = some (.int .u8 (z2 i))) :
    Calls Try.prog 18 #[.slice (some x) n ca, .slice (some y) n cb] w fun e w' => e = .returned (.int .i64 (cmpN z1 z2 0 n)) ∧ ∃ q, w' = w.drewN q := by
  subst hx
  subst hy
  go_enter Try.func18, Try.ntmps18
  go_wp2
  go_loopw [6] (fun i wr => ∃ k : Nat, k ≤ n ∧ i = .int .i64 k ∧ Hid (cmpN z1 z2 0 n = cmpN z1 z2 k (n - k)) ∧ ∃ q, wr = w.drewN q) (fun i _ => n - (intOf i).toNat)
  case atStart => exact ⟨0, Nat.zero_le _, rfl, rfl, 0, rfl⟩
  case round =>
    obtain ⟨k, hk, rfl, HR, q, rfl⟩ := hrel
    by_cases hlt : k < n
    · have c1 := h1 k hlt
      have c2 := h2 k hlt
      have hk0 : (0 : Int) ≤ (k : Int) := by omega
      have hk1 : (k : Int) < (n : Int) := by omega
      go_wp2
      go_quiet (fail)
      go_wp2
      · go_ret
        exact ⟨ret_int' (by rw [HR.out]; exact (cmpN_lt hlt ‹_›).symm), by simp only [World.drewN_drewN]; exact ⟨_, rfl⟩⟩
      · go_quiet (fail)
        go_wp2
        · go_ret
          exact ⟨ret_int' (by rw [HR.out]; exact (cmpN_gt hlt ‹_›).symm), by simp only [World.drewN_drewN]; exact ⟨_, rfl⟩⟩
        · go_roundw
          case rel => exact ⟨k + 1, by omega, by go_num, by rw [Hid, HR.out]; exact cmpN_eq hlt (by omega), _, rfl⟩
          case measure => simp [intOf]; omega
    · go_wp2
      go_ret
      exact ⟨ret_int' (by rw [HR.out]; exact (cmpN_end hlt).symm), _, rfl⟩

set_option maxHeartbeats 1000000 in
theorem cmp19 (a0 a1 a2 a3 a4 a5 b0 b1 b2 b3 b4 b5 : Int) (za zb : Nat → Int) (w : World)
    (ha : ∀ k, k < 6 → #[Value.int .i64 a0, .int .i64 a1, .int .i64 a2, .int .i64 a3, .int .i64 a4, .int .i64 a5][k]? = some (.int .i64 (za k)))
    (hb : ∀ k, k < 6 → #[Value.int .i64 b0, .int .i64 b1, .int .i64 b2, .int .i64 b3, .int .i64 b4, .int .i64 b5][k]? = some (.int .i64 (zb k))) :
    Calls Try.prog 19 #[.agg #[.int .i64 a0, .int .i64 a1, .int .i64 a2, .int .i64 a3, .int .i64 a4, .int .i64 a5], .agg #[.int .i64 b0, .int .i64 b1, .int .i64 b2, .int .i64 b3, .int .i64 b4, .int .i64 b5]] w fun e w' =>
      e = .returned (.int .i64 (cmpN za zb 0 6)) ∧ w.grownBy w' none := by
  have HA : Hid (∀ k, k < 6 → #[Value.int .i64 a0, .int .i64 a1, .int .i64 a2, .int .i64 a3, .int .i64 a4, .int .i64 a5][k]? = some (.int .i64 (za k))) := ha
  have HB : Hid (∀ k, k < 6 → #[Value.int .i64 b0, .int .i64 b1, .int .i64 b2, .int .i64 b3, .int .i64 b4, .int .i64 b5][k]? = some (.int .i64 (zb k))) := hb
  clear ha hb
  obtain ⟨W, hW⟩ : ∃ W, W = (w.alloc (.cells #[.int .i64 a0, .int .i64 a1, .int .i64 a2, .int .i64 a3, .int .i64 a4, .int .i64 a5] 38)).alloc (.cells #[.int .i64 b0, .int .i64 b1, .int .i64 b2, .int .i64 b3, .int .i64 b4, .int .i64 b5] 38) := ⟨_, rfl⟩
  have H1 : Hid (∀ k, k < 6 → W.cell? ⟨w.heap.size, k, none⟩ = some (.int .i64 (za k))) := fun k hk => by
    rw [hW, World.cell?_alloc_past _ _ _ (by simp), World.cell?_alloc_at _ _ _ _ rfl]; exact HA.out k hk
  have H2 : Hid (∀ k, k < 6 → W.cell? ⟨w.heap.size + 1, k, none⟩ = some (.int .i64 (zb k))) := fun k hk => by
    rw [hW, World.cell?_alloc_at _ _ _ _ (by simp)]; exact HB.out k hk
  have HG : Hid (w.grownBy W none) := by rw [hW]; exact grown_alloc (World.grownBy_alloc _ _ _) _
  have HW : Hid (W = _) := hW
  clear hW HA HB
  go_enter Try.func19, Try.ntmps19
  go_wp2
  rw [← HW.out]
  clear HW
  go_loopw [5] (fun i wr => ∃ k : Nat, k ≤ 6 ∧ i = .int .i64 k ∧ Hid (cmpN za zb 0 6 = cmpN za zb k (6 - k)) ∧ ∃ q, wr = W.drewN q) (fun i _ => 6 - (intOf i).toNat)
  case atStart => exact ⟨0, Nat.zero_le _, rfl, rfl, 0, rfl⟩
  case round =>
    obtain ⟨k, hk, rfl, HR, q, rfl⟩ := hrel
    by_cases hlt : k < 6
    · have c1 := H1.out k hlt
      have c2 := H2.out k hlt
      have hk0 : (0 : Int) ≤ (k : Int) := by omega
      have hk1 : (k : Int) < 6 := by omega
      go_wp2
      go_quiet (fail)
      go_wp2
      · go_ret
        exact ⟨ret_int' (by rw [HR.out]; exact (cmpN_lt hlt ‹_›).symm), grown_drewN (grown_drewN HG.out _) _⟩
      · go_quiet (fail)
        go_wp2
        · go_ret
          exact ⟨ret_int' (by rw [HR.out]; exact (cmpN_gt hlt ‹_›).symm), grown_drewN (grown_drewN (grown_drewN HG.out _) _) _⟩
        · go_roundw
          case rel => exact ⟨k + 1, by omega, by go_num, by rw [Hid, HR.out]; exact cmpN_eq hlt (by omega), _, rfl⟩
          case measure => simp [intOf]; omega
    · go_wp2
      go_ret
      exact ⟨ret_int' (by rw [HR.out]; exact (cmpN_end hlt).symm), grown_drewN HG.out _⟩

end Go.Proofs.Qxb6601683a
