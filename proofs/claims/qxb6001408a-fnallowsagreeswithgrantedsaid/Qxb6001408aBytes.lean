import Derived.Test.Qxb6001408aRule
/-! zzBytes of the law (29). -/
namespace Go.Proofs.Qxb6001408a
open Go.RowKit

def R29 (e : Ending) (P : Prop) : Prop := ∃ b : Bool, e = .returned (.bool b) ∧ (b = true → P)
theorem R29.no {P : Prop} : R29 (.returned (.bool false)) P := ⟨false, rfl, fun h => by cases h⟩
theorem R29.yes {P : Prop} (h : P) : R29 (.returned (.bool true)) P := ⟨true, rfl, fun _ => h⟩

set_option maxRecDepth 100000 in
set_option maxHeartbeats 4000000 in
theorem bytes29 (a0 a1 a2 : Option Addr) (n0 c0 n1 c1 n2 c2 : Nat) (z0 z2 : Nat → ByteArray) (f : Nat → Option Addr × Nat × Nat) (z1 : Nat → Nat → ByteArray) (u ac rp : ByteArray) (w : World)
    (h0 : RdS w a0 n0 z0) (h1 : RdSS w a1 n1 f z1) (h2 : RdS w a2 n2 z2) :
    Calls Try.prog 29 #[.slice a0 n0 c0, .slice a1 n1 c1, .slice a2 n2 c2, .string u, .string ac, .string rp] w fun e w' => R29 e (n0 ≤ 1048576 ∧ (∀ i, i < n1 → (f i).2.1 ≤ 1048576) ∧ ∀ i, i < n2 → (z2 i).size ≤ 1048576) ∧ w = w' := by
  have H0 := hidP h0
  have H1 := hidP h1
  have H2 := hidP h2
  clear h0 h1 h2
  by_cases h : (1048576 : Int) < (n0 : Int)
  · go_enter Try.func29, Try.ntmps29
    go_wp2
    go_ret
    exact ⟨R29.no, rfl⟩
  go_enter Try.func29, Try.ntmps29
  go_wp2
  go_loop [14, 13, 12] (fun i t r => ∃ k q : Nat, k ≤ n0 ∧ q ≤ 1048576 ∧ i = .int .i64 k ∧ t = .int .i64 q ∧ r = .bool false) (fun i _ _ => n0 - (intOf i).toNat)
  case atStart => exact ⟨0, n0, Nat.zero_le _, by omega, rfl, by simp, rfl⟩
  case round =>
    obtain ⟨k, q, hk, hq, rfl, rfl, rfl⟩ := hrel
    by_cases hlt : k < n0
    · obtain ⟨b, o, rfl, hc⟩ := H0.out (by omega)
      have d1 := hc k hlt
      have hkk : (k : Int) < (n0 : Int) := by omega
      clear hc
      by_cases h3 : (1048576 : Int) < ((z0 k).size : Int)
      · go_wp2
        go_ret
        exact ⟨R29.no, rfl⟩
      by_cases h4 : (1048576 : Int) < (q : Int) + ((z0 k).size : Int)
      · go_wp2
        go_ret
        exact ⟨R29.no, rfl⟩
      go_wp2
      go_round
      case rel => exact ⟨k + 1, q + (z0 k).size, by omega, by omega, by go_num, by go_num, rfl⟩
      case measure => simp [intOf]; omega
    have hke : ¬ (k : Int) < (n0 : Int) := by omega
    by_cases h5 : (1048576 : Int) < (n1 : Int)
    · go_wp2
      go_ret
      exact ⟨R29.no, rfl⟩
    by_cases h6 : (1048576 : Int) < (q : Int) + (n1 : Int)
    · go_wp2
      go_ret
      exact ⟨R29.no, rfl⟩
    go_wp2
    clear hke hlt
    go_loop [15, 13, 12, 16] (fun i t r _ => ∃ m p : Nat, m ≤ n1 ∧ p ≤ 1048576 ∧ i = .int .i64 m ∧ t = .int .i64 p ∧ r = .bool false ∧ Hid (∀ i, i < m → (f i).2.1 ≤ 1048576)) (fun i _ _ _ => n1 - (intOf i).toNat)
    case atStart => exact ⟨0, q + n1, Nat.zero_le _, by omega, rfl, by simp, rfl, fun i hi => by omega⟩
    case round =>
      obtain ⟨m, p, hm, hp, rfl, rfl, rfl, HM⟩ := hrel
      by_cases hlt : m < n1
      · obtain ⟨b, o, rfl, hc⟩ := H1.out (by omega)
        obtain ⟨d1, d2⟩ := hc m hlt
        have hkk : (m : Int) < (n1 : Int) := by omega
        have HM' : (f m).2.1 ≤ 1048576 → Hid (∀ i, i < m + 1 → (f i).2.1 ≤ 1048576) := fun hle i hi => by
          by_cases him : i < m
          · exact HM.out i him
          · obtain rfl : i = m := by omega
            exact hle
        obtain ⟨fa, fn, fc, hf⟩ : ∃ fa fn fc, f m = (fa, fn, fc) := ⟨_, _, _, rfl⟩
        rw [hf] at d1 d2 HM'
        have HD := hidP d2
        have HMM := hidP HM'
        clear hc d2 hf HM'
        by_cases h3 : (1048576 : Int) < (fn : Int)
        · go_wp2
          go_ret
          exact ⟨R29.no, rfl⟩
        by_cases h4 : (1048576 : Int) < (p : Int) + (fn : Int)
        · go_wp2
          go_ret
          exact ⟨R29.no, rfl⟩
        go_wp2
        go_loop [16, 13, 12] (fun i t r => ∃ j s : Nat, j ≤ fn ∧ s ≤ 1048576 ∧ i = .int .i64 j ∧ t = .int .i64 s ∧ r = .bool false) (fun i _ _ => fn - (intOf i).toNat)
        case atStart => exact ⟨0, p + fn, Nat.zero_le _, by omega, rfl, by simp, rfl⟩
        case round =>
          obtain ⟨j, s, hj, hs, rfl, rfl, rfl⟩ := hrel
          by_cases hlt2 : j < fn
          · obtain ⟨b2, o2, rfl, hc2⟩ := HD.out (by omega)
            have d3 := hc2 j hlt2
            have hjj : (j : Int) < (fn : Int) := by omega
            clear hc2
            by_cases h7 : (1048576 : Int) < ((z1 m j).size : Int)
            · go_wp2
              go_ret
              exact ⟨R29.no, rfl⟩
            by_cases h8 : (1048576 : Int) < (s : Int) + ((z1 m j).size : Int)
            · go_wp2
              go_ret
              exact ⟨R29.no, rfl⟩
            go_wp2
            go_round
            case rel => exact ⟨j + 1, s + (z1 m j).size, by omega, by omega, by go_num, by go_num, rfl⟩
            case measure => simp [intOf]; omega
          · have hje : ¬ (j : Int) < (fn : Int) := by omega
            go_wp2
            go_round
            case rel => exact ⟨m + 1, s, by omega, by omega, by go_num, by go_num, rfl, HMM.out (by omega)⟩
            case measure => simp [intOf]; omega
      obtain rfl : m = n1 := by omega
      have hme : ¬ (m : Int) < (m : Int) := by omega
      by_cases h7 : (1048576 : Int) < (n2 : Int)
      · go_wp2
        go_ret
        exact ⟨R29.no, rfl⟩
      by_cases h8 : (1048576 : Int) < (p : Int) + (n2 : Int)
      · go_wp2
        go_ret
        exact ⟨R29.no, rfl⟩
      go_wp2
      clear hme hlt
      go_loop [17, 13, 12] (fun i t r => ∃ j s : Nat, j ≤ n2 ∧ s ≤ 1048576 ∧ i = .int .i64 j ∧ t = .int .i64 s ∧ r = .bool false ∧ Hid (∀ i, i < j → (z2 i).size ≤ 1048576)) (fun i _ _ => n2 - (intOf i).toNat)
      case atStart => exact ⟨0, p + n2, Nat.zero_le _, by omega, rfl, by simp, rfl, fun i hi => by omega⟩
      case round =>
        obtain ⟨j, s, hj, hs, rfl, rfl, rfl, HJ⟩ := hrel
        by_cases hlt2 : j < n2
        · obtain ⟨b2, o2, rfl, hc2⟩ := H2.out (by omega)
          have d3 := hc2 j hlt2
          have hjj : (j : Int) < (n2 : Int) := by omega
          clear hc2
          by_cases h9 : (1048576 : Int) < ((z2 j).size : Int)
          · go_wp2
            go_ret
            exact ⟨R29.no, rfl⟩
          by_cases h10 : (1048576 : Int) < (s : Int) + ((z2 j).size : Int)
          · go_wp2
            go_ret
            exact ⟨R29.no, rfl⟩
          go_wp2
          go_round
          case rel =>
            refine ⟨j + 1, s + (z2 j).size, by omega, by omega, by go_num, by go_num, rfl, fun i hi => ?_⟩
            by_cases hij : i < j
            · exact HJ.out i hij
            · obtain rfl : i = j := by omega
              omega
          case measure => simp [intOf]; omega
        obtain rfl : j = n2 := by omega
        have hje : ¬ (j : Int) < (j : Int) := by omega
        by_cases k1 : (1048576 : Int) < (u.size : Int)
        · go_wp2
          go_ret
          exact ⟨R29.no, rfl⟩
        by_cases k2 : (1048576 : Int) < (s : Int) + (u.size : Int)
        · go_wp2
          go_ret
          exact ⟨R29.no, rfl⟩
        by_cases k3 : (1048576 : Int) < (ac.size : Int)
        · go_wp2
          go_ret
          exact ⟨R29.no, rfl⟩
        by_cases k4 : (1048576 : Int) < (s : Int) + (u.size : Int) + (ac.size : Int)
        · go_wp2
          go_ret
          exact ⟨R29.no, rfl⟩
        by_cases k5 : (1048576 : Int) < (rp.size : Int)
        · go_wp2
          go_ret
          exact ⟨R29.no, rfl⟩
        by_cases k6 : (1048576 : Int) < (s : Int) + (u.size : Int) + (ac.size : Int) + (rp.size : Int)
        · go_wp2
          go_ret
          exact ⟨R29.no, rfl⟩
        go_wp2
        go_ret
        exact ⟨R29.yes ⟨by omega, HM.out, HJ.out⟩, rfl⟩

end Go.Proofs.Qxb6001408a
