import Derived.Test.Qxb6001408aRule
/-! zzSum (12), zzStrBytes (13), zzStrsBytes (14), zzNestedBytes (36), zzRuleBytes (21): each returns a small number and leaves the world. -/
namespace Go.Proofs.Qxb6001408a
open Go.RowKit

set_option maxHeartbeats 400000 in
theorem sum12 (a b : Nat) (w : World) (ha : a ≤ 1048577) (hb : b ≤ 1048577) :
    Calls Try.prog 12 #[.int .i64 (a : Int), .int .i64 (b : Int)] w fun e w' => (∃ t : Nat, e = .returned (.int .i64 (t : Int)) ∧ t ≤ 1048577) ∧ w = w' := by
  by_cases h : (1048576 : Int) < (a : Int) + (b : Int)
  · go_enter Try.func12, Try.ntmps12
    go_wp2
    go_ret
    exact ⟨⟨1048577, rfl, by omega⟩, rfl⟩
  · go_enter Try.func12, Try.ntmps12
    go_wp2
    go_ret
    exact ⟨⟨a + b, by simp, by omega⟩, rfl⟩

set_option maxHeartbeats 400000 in
theorem str13 (s : ByteArray) (w : World) :
    Calls Try.prog 13 #[.string s] w fun e w' => (∃ t : Nat, e = .returned (.int .i64 (t : Int)) ∧ t ≤ 1048577) ∧ w = w' := by
  by_cases h : (1048576 : Int) < (s.size : Int)
  · go_enter Try.func13, Try.ntmps13
    go_wp2
    go_ret
    exact ⟨⟨1048577, rfl, by omega⟩, rfl⟩
  · go_enter Try.func13, Try.ntmps13
    go_wp2
    go_ret
    exact ⟨⟨s.size, rfl, by omega⟩, rfl⟩

set_option maxHeartbeats 800000 in
theorem strs14 (ao : Option Addr) (n c : Nat) (z : Nat → ByteArray) (w : World) (hr : RdS w ao n z) :
    Calls Try.prog 14 #[.slice ao n c] w fun e w' => (∃ t : Nat, e = .returned (.int .i64 (t : Int)) ∧ t ≤ 1048577) ∧ w = w' := by
  have HR := hidP hr
  clear hr
  by_cases h : (1048576 : Int) < (n : Int)
  · go_enter Try.func14, Try.ntmps14
    go_wp2
    go_ret
    exact ⟨⟨1048577, rfl, by omega⟩, rfl⟩
  by_cases h2 : (1048576 : Int) < 16 * (n : Int)
  · go_enter Try.func14, Try.ntmps14
    go_wp2
    go_ret
    exact ⟨⟨1048577, rfl, by omega⟩, rfl⟩
  go_enter Try.func14, Try.ntmps14
  go_wp2
  go_loop [4, 3, 2] (fun i t r => ∃ k q : Nat, k ≤ n ∧ q ≤ 1048577 ∧ i = .int .i64 k ∧ t = .int .i64 q ∧ r = .int .i64 0) (fun i _ _ => n - (intOf i).toNat)
  case atStart => exact ⟨0, 16 * n, Nat.zero_le _, by omega, rfl, by simp, rfl⟩
  case round =>
    obtain ⟨k, q, hk, hq, rfl, rfl, rfl⟩ := hrel
    by_cases hlt : k < n
    · obtain ⟨b, o, rfl, hc⟩ := HR.out (by omega)
      have d1 := hc k hlt
      have hkk : (k : Int) < (n : Int) := by omega
      clear hc
      go_wp2_with fail
      refine (str13 _ _).mono ?_
      rintro e w' ⟨⟨s, rfl, hs⟩, rfl⟩
      go_wp2_with fail
      refine (sum12 q s _ hq hs).mono ?_
      rintro e w' ⟨⟨t, rfl, ht⟩, rfl⟩
      by_cases h3 : (1048576 : Int) < (t : Int)
      · go_wp2
        go_ret
        exact ⟨⟨t, rfl, ht⟩, rfl⟩
      · go_wp2
        go_round
        case rel => exact ⟨k + 1, t, by omega, ht, by go_num, rfl, rfl⟩
        case measure => simp [intOf]; omega
    · go_wp2
      go_ret
      exact ⟨⟨q, rfl, hq⟩, rfl⟩

set_option maxHeartbeats 800000 in
theorem nest36 (ao : Option Addr) (n c : Nat) (f : Nat → Option Addr × Nat × Nat) (z : Nat → Nat → ByteArray) (w : World) (hr : RdSS w ao n f z) :
    Calls Try.prog 36 #[.slice ao n c] w fun e w' => (∃ t : Nat, e = .returned (.int .i64 (t : Int)) ∧ t ≤ 1048577) ∧ w = w' := by
  have HR := hidP hr
  clear hr
  by_cases h : (1048576 : Int) < (n : Int)
  · go_enter Try.func36, Try.ntmps36
    go_wp2
    go_ret
    exact ⟨⟨1048577, rfl, by omega⟩, rfl⟩
  by_cases h2 : (1048576 : Int) < 24 * (n : Int)
  · go_enter Try.func36, Try.ntmps36
    go_wp2
    go_ret
    exact ⟨⟨1048577, rfl, by omega⟩, rfl⟩
  go_enter Try.func36, Try.ntmps36
  go_wp2
  go_loop [4, 3, 2] (fun i t r => ∃ k q : Nat, k ≤ n ∧ q ≤ 1048577 ∧ i = .int .i64 k ∧ t = .int .i64 q ∧ r = .int .i64 0) (fun i _ _ => n - (intOf i).toNat)
  case atStart => exact ⟨0, 24 * n, Nat.zero_le _, by omega, rfl, by simp, rfl⟩
  case round =>
    obtain ⟨k, q, hk, hq, rfl, rfl, rfl⟩ := hrel
    by_cases hlt : k < n
    · obtain ⟨b, o, rfl, hc⟩ := HR.out (by omega)
      obtain ⟨d1, d2⟩ := hc k hlt
      have hkk : (k : Int) < (n : Int) := by omega
      obtain ⟨fa, fn, fc, hf⟩ : ∃ fa fn fc, f k = (fa, fn, fc) := ⟨_, _, _, rfl⟩
      rw [hf] at d1 d2
      have HD := hidP d2
      clear hc d2 hf
      go_wp2_with fail
      refine (strs14 _ _ _ _ _ HD.out).mono ?_
      rintro e w' ⟨⟨s, rfl, hs⟩, rfl⟩
      go_wp2_with fail
      refine (sum12 q s _ hq hs).mono ?_
      rintro e w' ⟨⟨t, rfl, ht⟩, rfl⟩
      by_cases h3 : (1048576 : Int) < (t : Int)
      · go_wp2
        go_ret
        exact ⟨⟨t, rfl, ht⟩, rfl⟩
      · go_wp2
        go_round
        case rel => exact ⟨k + 1, t, by omega, ht, by go_num, rfl, rfl⟩
        case measure => simp [intOf]; omega
    · go_wp2
      go_ret
      exact ⟨⟨q, rfl, hq⟩, rfl⟩

set_option maxHeartbeats 800000 in
theorem rule21 (a0 a1 a2 : Option Addr) (n0 c0 n1 c1 n2 c2 : Nat) (z0 z2 : Nat → ByteArray) (f : Nat → Option Addr × Nat × Nat) (z1 : Nat → Nat → ByteArray) (w : World)
    (h0 : RdS w a0 n0 z0) (h1 : RdSS w a1 n1 f z1) (h2 : RdS w a2 n2 z2) :
    Calls Try.prog 21 #[.slice a0 n0 c0, .slice a1 n1 c1, .slice a2 n2 c2] w fun e w' => (∃ t : Nat, e = .returned (.int .i64 (t : Int)) ∧ t ≤ 1048577) ∧ w = w' := by
  have H0 := hidP h0
  have H1 := hidP h1
  have H2 := hidP h2
  clear h0 h1 h2
  go_enter Try.func21, Try.ntmps21
  go_wp2_with fail
  refine (strs14 _ _ _ _ _ H0.out).mono ?_
  rintro e w' ⟨⟨s, rfl, hs⟩, rfl⟩
  go_wp2_with fail
  refine (nest36 _ _ _ _ _ _ H1.out).mono ?_
  rintro e w' ⟨⟨t, rfl, ht⟩, rfl⟩
  go_wp2_with fail
  refine (sum12 s t _ hs ht).mono ?_
  rintro e w' ⟨⟨p, rfl, hp⟩, rfl⟩
  go_wp2_with fail
  refine (strs14 _ _ _ _ _ H2.out).mono ?_
  rintro e w' ⟨⟨q, rfl, hq⟩, rfl⟩
  go_wp2_with fail
  refine (sum12 p q _ hp hq).mono ?_
  rintro e w' ⟨⟨r, rfl, hr⟩, rfl⟩
  go_wp2
  go_ret
  exact ⟨⟨r, rfl, hr⟩, rfl⟩

end Go.Proofs.Qxb6001408a
