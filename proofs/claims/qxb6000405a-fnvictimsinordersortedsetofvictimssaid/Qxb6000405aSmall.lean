import Derived.Test.Qxb6000405aProg
import Derived.Test.Qxb6000405aOwn
import Derived.WalkSpells
import Derived.WalkLawsBesides
import Derived.Deep.AppendLies
/-! zzBytes (19), zzAllBelow (20), zzHas (21), zzClone32 (10). -/
namespace Go.Proofs.Qxb6000405a
open Go.RowKit

theorem Try.info21 : (Try.prog.info? 21).map (fun i => (i.zero, i.size, i.bytes)) = some (some (.int .i32 0), 1, 4) := by kernel_rfl
theorem Try.info4 : (Try.prog.info? 4).map (fun i => (i.zero, i.size, i.bytes)) = some (some (.bool false), 1, 1) := by kernel_rfl

set_option maxHeartbeats 400000 in
theorem z19_yes (a0 a1 : Option Addr) (n0 c0 n1 c1 : Nat) (p : Int) (w : World) (h : n0 + n1 ≤ 1048576) :
    Calls Try.prog 19 #[.slice a0 n0 c0, .slice a1 n1 c1, .int .i64 p] w fun e w' => e = .returned (.bool true) ∧ w = w' := by
  have h0 : (n0 : Int) ≤ 1048576 := by omega
  have h1 : (n1 : Int) ≤ 1048576 := by omega
  have h2 : (n0 : Int) + (n1 : Int) ≤ 1048576 := by omega
  go_enter Try.func19, Try.ntmps19
  go_wp2
  go_ret
  exact ⟨rfl, rfl⟩

set_option maxHeartbeats 400000 in
theorem z19_no (a0 a1 : Option Addr) (n0 c0 n1 c1 : Nat) (p : Int) (w : World) (b0 : n0 ≤ 9223372036854775807) (b1 : n1 ≤ 9223372036854775807) (h : ¬ n0 + n1 ≤ 1048576) :
    Calls Try.prog 19 #[.slice a0 n0 c0, .slice a1 n1 c1, .int .i64 p] w fun e w' => e = .returned (.bool false) ∧ w = w' := by
  by_cases h0 : (1048576 : Int) < (n0 : Int)
  · go_enter Try.func19, Try.ntmps19
    go_wp2
    go_ret
    exact ⟨rfl, rfl⟩
  by_cases h1 : (1048576 : Int) < (n1 : Int)
  · go_enter Try.func19, Try.ntmps19
    go_wp2
    go_ret
    exact ⟨rfl, rfl⟩
  have h2 : (1048576 : Int) < (n0 : Int) + (n1 : Int) := by omega
  go_enter Try.func19, Try.ntmps19
  go_wp2
  go_ret
  exact ⟨rfl, rfl⟩

set_option maxHeartbeats 400000 in
theorem all20_yes (ao : Option Addr) (n c : Nat) (z : Nat → Int) (p : Int) (w : World) (hn : n ≤ 1048576) (hp : p ≤ 65536) (hr : Rd w ao n z) (h : ∀ i, i < n → 0 ≤ z i ∧ z i < p) :
    Calls Try.prog 20 #[.slice ao n c, .int .i64 p] w fun e w' => e = .returned (.bool true) ∧ w = w' := by
  have HR : Hid (Rd w ao n z) := hr
  have HA : Hid (∀ i, i < n → 0 ≤ z i ∧ z i < p) := h
  clear hr h
  go_enter Try.func20, Try.ntmps20
  go_wp2
  go_loop [9] (fun i => ∃ k : Nat, k ≤ n ∧ i = .int .i64 k) (fun i => n - (intOf i).toNat)
  case atStart => exact ⟨0, Nat.zero_le _, rfl⟩
  case round =>
    obtain ⟨k, hk, rfl⟩ := hrel
    by_cases hlt : k < n
    · obtain ⟨b, o, rfl, hc⟩ := HR.out (by omega)
      have d1 := hc k hlt
      have g1 := (HA.out k hlt).1
      have g2 := (HA.out k hlt).2
      have hkk : (k : Int) < (n : Int) := by omega
      clear hc
      go_wp2
      go_round
      case rel => exact ⟨k + 1, by omega, by go_num⟩
      case measure => simp [intOf]; omega
    · go_wp2
      go_ret
      exact ⟨rfl, rfl⟩

set_option maxHeartbeats 400000 in
theorem all20_no (ao : Option Addr) (n c : Nat) (z : Nat → Int) (p : Int) (w : World) (hn : n ≤ 1048576) (hz : ∀ i, i < n → -2147483648 ≤ z i ∧ z i ≤ 2147483647) (hr : Rd w ao n z) (h : ¬ ∀ i, i < n → 0 ≤ z i ∧ z i < p) :
    Calls Try.prog 20 #[.slice ao n c, .int .i64 p] w fun e w' => e = .returned (.bool false) ∧ w = w' := by
  have HR : Hid (Rd w ao n z) := hr
  have HA : Hid (¬ ∀ i, i < n → 0 ≤ z i ∧ z i < p) := h
  have HZ : Hid (∀ i, i < n → -2147483648 ≤ z i ∧ z i ≤ 2147483647) := hz
  clear hr h hz
  go_enter Try.func20, Try.ntmps20
  go_wp2
  go_loop [9] (fun i => ∃ k : Nat, k ≤ n ∧ i = .int .i64 k ∧ Hid (∀ i, i < k → 0 ≤ z i ∧ z i < p)) (fun i => n - (intOf i).toNat)
  case atStart => exact ⟨0, Nat.zero_le _, rfl, fun i hi => by omega⟩
  case round =>
    obtain ⟨k, hk, rfl, HK⟩ := hrel
    by_cases hlt : k < n
    · obtain ⟨b, o, rfl, hc⟩ := HR.out (by omega)
      have d1 := hc k hlt
      have hkk : (k : Int) < (n : Int) := by omega
      have z1 := (HZ.out k hlt).1
      have z2 := (HZ.out k hlt).2
      clear hc
      by_cases g1 : z k < 0
      · go_wp2
        go_ret
        exact ⟨rfl, rfl⟩
      by_cases g2 : p ≤ z k
      · go_wp2
        go_ret
        exact ⟨rfl, rfl⟩
      go_wp2
      go_round
      case rel =>
        refine ⟨k + 1, by omega, by go_num, fun i hi => ?_⟩
        by_cases hik : i < k
        · exact HK.out i hik
        · obtain rfl : i = k := by omega
          exact ⟨by omega, by omega⟩
      case measure => simp [intOf]; omega
    · exact absurd (fun i hi => HK.out i (by omega)) HA.out

set_option maxHeartbeats 400000 in
theorem has21_yes (ao : Option Addr) (n c : Nat) (z : Nat → Int) (x : Int) (w : World) (hn : n ≤ 1048576) (hr : Rd w ao n z) (h : ∃ i, i < n ∧ z i = x) :
    Calls Try.prog 21 #[.slice ao n c, .int .i32 x] w fun e w' => e = .returned (.bool true) ∧ w = w' := by
  have HR : Hid (Rd w ao n z) := hr
  have HA : Hid (∃ i, i < n ∧ z i = x) := h
  clear hr h
  go_enter Try.func21, Try.ntmps21
  go_wp2
  go_loop [9] (fun i => ∃ k : Nat, k ≤ n ∧ i = .int .i64 k ∧ Hid (∀ i, i < k → z i ≠ x)) (fun i => n - (intOf i).toNat)
  case atStart => exact ⟨0, Nat.zero_le _, rfl, fun i hi => by omega⟩
  case round =>
    obtain ⟨k, hk, rfl, HK⟩ := hrel
    by_cases hlt : k < n
    · obtain ⟨b, o, rfl, hc⟩ := HR.out (by omega)
      have d1 := hc k hlt
      have hkk : (k : Int) < (n : Int) := by omega
      clear hc
      by_cases g1 : z k = x
      · have g2 : (z k == x) = true := by simpa using g1
        clear g1
        go_wp2
        go_ret
        exact ⟨rfl, rfl⟩
      · have g2 : (z k == x) = false := by simpa using g1
        have G1 : Hid (¬ z k = x) := g1
        clear g1
        go_wp2
        go_round
        case rel =>
          refine ⟨k + 1, by omega, by go_num, fun i hi => ?_⟩
          by_cases hik : i < k
          · exact HK.out i hik
          · obtain rfl : i = k := by omega
            exact G1.out
        case measure => simp [intOf]; omega
    · obtain ⟨i, hi, hix⟩ := HA.out
      exact absurd hix (HK.out i (by omega))

set_option maxHeartbeats 400000 in
theorem has21_no (ao : Option Addr) (n c : Nat) (z : Nat → Int) (x : Int) (w : World) (hn : n ≤ 1048576) (hr : Rd w ao n z) (h : ¬ ∃ i, i < n ∧ z i = x) :
    Calls Try.prog 21 #[.slice ao n c, .int .i32 x] w fun e w' => e = .returned (.bool false) ∧ w = w' := by
  have HR : Hid (Rd w ao n z) := hr
  have HA : Hid (¬ ∃ i, i < n ∧ z i = x) := h
  clear hr h
  go_enter Try.func21, Try.ntmps21
  go_wp2
  go_loop [9] (fun i => ∃ k : Nat, k ≤ n ∧ i = .int .i64 k) (fun i => n - (intOf i).toNat)
  case atStart => exact ⟨0, Nat.zero_le _, rfl⟩
  case round =>
    obtain ⟨k, hk, rfl⟩ := hrel
    by_cases hlt : k < n
    · obtain ⟨b, o, rfl, hc⟩ := HR.out (by omega)
      have d1 := hc k hlt
      have hkk : (k : Int) < (n : Int) := by omega
      have g2 : (z k == x) = false := by
        have : ¬ z k = x := fun e => HA.out ⟨k, hlt, e⟩
        simpa using this
      clear hc
      go_wp2
      go_round
      case rel => exact ⟨k + 1, by omega, by go_num⟩
      case measure => simp [intOf]; omega
    · go_wp2
      go_ret
      exact ⟨rfl, rfl⟩

theorem clone_nil (n cap : Nat) (w : World) :
    Calls Try.prog 10 #[.slice none n cap] w fun e w' => e = .returned (.slice none 0 0) ∧ w' = w := by
  have q : ∀ (w : World) (a : Option Addr) (n c n' c' : Nat), (binOp .eql 22 (.slice a n c) (.slice none n' c')).run Try.prog w = .ok (.bool a.isNone) w := fun w a n c n' c' => Lib.run_eql_slice_nil w _ _ a n c n' c' Try.underlying22
  go_enter Try.func10, Try.ntmps10
  go_wp2
  go_ret
  exact ⟨rfl, rfl⟩

end Go.Proofs.Qxb6000405a
