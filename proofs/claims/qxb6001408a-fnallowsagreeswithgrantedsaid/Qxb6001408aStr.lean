import Derived.Test.Qxb6001408aProg
import Derived.Test.Qxb6001408aOwn
import Derived.WalkSpells
import Derived.WalkLawsBesides
/-! HasPrefix (42, 39), HasSuffix (45), CutSuffix (44, 41), Prefix (38), Matches (31), Index (43), Contains (40). -/
namespace Go.Proofs.Qxb6001408a
open Go.RowKit

def hpB (s p : ByteArray) : Bool := decide (p.size ≤ s.size) && ((s.extract 0 p.size).toList == p.toList)
def hsB (s p : ByteArray) : Bool := decide (p.size ≤ s.size) && ((s.extract (s.size - p.size) s.size).toList == p.toList)

theorem ret_b {a b : Bool} (h : a = b) : Ending.returned (.bool a) = .returned (.bool b) := by rw [h]

set_option maxHeartbeats 400000 in
theorem hp42 (s p : ByteArray) (w : World) :
    Calls Try.prog 42 #[.string s, .string p] w fun e w' => e = .returned (.bool (hpB s p)) ∧ w = w' := by
  by_cases h : p.size ≤ s.size
  · have h' : (p.size : Int) ≤ (s.size : Int) := by omega
    go_enter Try.func42, Try.ntmps42
    go_wp2
    go_ret
    exact ⟨ret_b (by simp [hpB, h]), rfl⟩
  · have h' : ¬ (p.size : Int) ≤ (s.size : Int) := by omega
    go_enter Try.func42, Try.ntmps42
    go_wp2
    go_ret
    exact ⟨ret_b (by simp [hpB, h]), rfl⟩

set_option maxHeartbeats 400000 in
theorem hp39 (s p : ByteArray) (w : World) :
    Calls Try.prog 39 #[.string s, .string p] w fun e w' => e = .returned (.bool (hpB s p)) ∧ w = w' := by
  go_enter Try.func39, Try.ntmps39
  go_wp2_with (go_at_call 42; refine (hp42 _ _ _).mono ?_; rintro e w' ⟨rfl, rfl⟩)
  go_ret
  exact ⟨rfl, rfl⟩

set_option maxHeartbeats 400000 in
theorem hs45 (s p : ByteArray) (w : World) (hs : s.size ≤ 2097152) (hp : p.size ≤ 2097152) :
    Calls Try.prog 45 #[.string s, .string p] w fun e w' => e = .returned (.bool (hsB s p)) ∧ w = w' := by
  by_cases h : p.size ≤ s.size
  · have h' : (p.size : Int) ≤ (s.size : Int) := by omega
    go_enter Try.func45, Try.ntmps45
    go_wp2
    go_ret
    exact ⟨ret_b (by simp [hsB, h]), rfl⟩
  · have h' : ¬ (p.size : Int) ≤ (s.size : Int) := by omega
    go_enter Try.func45, Try.ntmps45
    go_wp2
    go_ret
    exact ⟨ret_b (by simp [hsB, h]), rfl⟩

theorem hs45_is (b : Bool) (s p : ByteArray) (w : World) (hs : s.size ≤ 2097152) (hp : p.size ≤ 2097152) (hb : hsB s p = b) :
    Calls Try.prog 45 #[.string s, .string p] w fun e w' => e = .returned (.bool b) ∧ w = w' := by
  subst hb; exact hs45 s p w hs hp

set_option maxHeartbeats 400000 in
theorem cs44_yes (s p : ByteArray) (w : World) (hs : s.size ≤ 2097152) (hp : p.size ≤ 2097152) (h : hsB s p = true) :
    Calls Try.prog 44 #[.string s, .string p] w fun e w' => e = .returned (.tuple #[.string (s.extract 0 (s.size - p.size)), .bool true]) ∧ w = w' := by
  have hle : p.size ≤ s.size := by
    have : decide (p.size ≤ s.size) = true := by simp only [hsB, Bool.and_eq_true] at h; exact h.1
    simpa using this
  have hle' : (p.size : Int) ≤ (s.size : Int) := by omega
  have HC : Hid _ := hidP (hs45_is true s p w hs hp h)
  clear h
  go_enter Try.func44, Try.ntmps44
  go_wp2_with (go_at_call 45; refine HC.out.mono ?_; rintro e w' ⟨rfl, rfl⟩)
  go_ret2
  exact ⟨rfl, rfl⟩

set_option maxHeartbeats 400000 in
theorem cs44_no (s p : ByteArray) (w : World) (hs : s.size ≤ 2097152) (hp : p.size ≤ 2097152) (h : hsB s p = false) :
    Calls Try.prog 44 #[.string s, .string p] w fun e w' => e = .returned (.tuple #[.string s, .bool false]) ∧ w = w' := by
  have HC : Hid _ := hidP (hs45_is false s p w hs hp h)
  clear h
  go_enter Try.func44, Try.ntmps44
  go_wp2_with (go_at_call 45; refine HC.out.mono ?_; rintro e w' ⟨rfl, rfl⟩)
  go_ret2
  exact ⟨rfl, rfl⟩

set_option maxHeartbeats 400000 in
theorem cs41_yes (s p : ByteArray) (w : World) (hs : s.size ≤ 2097152) (hp : p.size ≤ 2097152) (h : hsB s p = true) :
    Calls Try.prog 41 #[.string s, .string p] w fun e w' => e = .returned (.tuple #[.string (s.extract 0 (s.size - p.size)), .bool true]) ∧ w = w' := by
  have HC : Hid _ := hidP (cs44_yes s p w hs hp h)
  clear h
  go_enter Try.func41, Try.ntmps41
  go_wp2_with (go_at_call 44; refine HC.out.mono ?_; rintro e w' ⟨rfl, rfl⟩)
  go_ret2
  exact ⟨rfl, rfl⟩

set_option maxHeartbeats 400000 in
theorem cs41_no (s p : ByteArray) (w : World) (hs : s.size ≤ 2097152) (hp : p.size ≤ 2097152) (h : hsB s p = false) :
    Calls Try.prog 41 #[.string s, .string p] w fun e w' => e = .returned (.tuple #[.string s, .bool false]) ∧ w = w' := by
  have HC : Hid _ := hidP (cs44_no s p w hs hp h)
  clear h
  go_enter Try.func41, Try.ntmps41
  go_wp2_with (go_at_call 44; refine HC.out.mono ?_; rintro e w' ⟨rfl, rfl⟩)
  go_ret2
  exact ⟨rfl, rfl⟩

/-- What a pattern's text begins its repositories with, and whether it is one repository alone. -/
def pfx (t : ByteArray) : ByteArray × Bool :=
  if t.toList == [42] then (⟨#[]⟩, false) else if hsB t ⟨#[47, 42]⟩ then (t.extract 0 (t.size - 2) ++ ⟨#[47]⟩, false) else (t, true)

set_option maxHeartbeats 400000 in
theorem pfx38 (t : ByteArray) (w : World) (ht : t.size ≤ 1048576) :
    Calls Try.prog 38 #[.agg #[.string t]] w fun e w' => e = .returned (.tuple #[.string (pfx t).1, .bool (pfx t).2]) ∧ w.grownBy w' none := by
  by_cases h1 : (t.toList == [42]) = true
  · have e : pfx t = (⟨#[]⟩, false) := by simp only [pfx, h1, if_true]
    rw [e]
    clear e
    go_enter Try.func38, Try.ntmps38
    go_wp2
    go_ret2
    exact ⟨rfl, World.grownBy_alloc _ _ _⟩
  have h1' : (t.toList == [42]) = false := by simpa using h1
  clear h1
  by_cases h2 : hsB t ⟨#[47, 42]⟩ = true
  · have e : pfx t = (t.extract 0 (t.size - 2) ++ ⟨#[47]⟩, false) := by simp [pfx, h1', h2]
    rw [e]
    clear e
    have HC : Hid (∀ w, _) := hidP (fun w => cs41_yes t ⟨#[47, 42]⟩ w (by omega) (by decide) h2)
    clear h2
    go_enter Try.func38, Try.ntmps38
    go_wp2_with (go_at_call 41; refine (HC.out _).mono ?_; rintro e w' ⟨rfl, rfl⟩)
    go_ret2
    exact ⟨rfl, World.grownBy_alloc _ _ _⟩
  · have h2' : hsB t ⟨#[47, 42]⟩ = false := by simpa using h2
    have e : pfx t = (t, true) := by simp [pfx, h1', h2']
    rw [e]
    clear e
    have HC : Hid (∀ w, _) := hidP (fun w => cs41_no t ⟨#[47, 42]⟩ w (by omega) (by decide) h2')
    clear h2 h2'
    go_enter Try.func38, Try.ntmps38
    go_wp2_with (go_at_call 41; refine (HC.out _).mono ?_; rintro e w' ⟨rfl, rfl⟩)
    go_ret2
    exact ⟨rfl, World.grownBy_alloc _ _ _⟩

/-- Does the pattern of text t match the repository r? -/
def mB (t r : ByteArray) : Bool := if (pfx t).2 then r.toList == (pfx t).1.toList else hpB r (pfx t).1

set_option maxHeartbeats 400000 in
theorem match31 (t r : ByteArray) (w : World) (ht : t.size ≤ 1048576) :
    Calls Try.prog 31 #[.agg #[.string t], .agg #[.string r]] w fun e w' => e = .returned (.bool (mB t r)) ∧ w.grownBy w' none := by
  have HC : Hid (∀ w, _) := hidP (fun w => pfx38 t w ht)
  have HM : Hid (mB t r = if (pfx t).2 then r.toList == (pfx t).1.toList else hpB r (pfx t).1) := rfl
  obtain ⟨p, b, hp⟩ : ∃ p b, pfx t = (p, b) := ⟨_, _, rfl⟩
  rw [hp] at HC HM
  obtain ⟨W, hW⟩ : ∃ W, W = (w.alloc (.cells #[.string t] 28)).alloc (.cells #[.string r] 51) := ⟨_, rfl⟩
  have HG : Hid (w.grownBy W none) := by rw [hW]; exact grown_alloc (World.grownBy_alloc _ _ _) _
  have c0 : W.cell? ⟨w.heap.size, 0, none⟩ = some (.string t) := by rw [hW, World.cell?_alloc_past _ _ _ (by simp), World.cell?_alloc_at _ _ _ _ rfl]; rfl
  have c1 : W.cell? ⟨w.heap.size + 1, 0, none⟩ = some (.string r) := by rw [hW, World.cell?_alloc_at _ _ _ _ (by simp)]; rfl
  have HW : Hid (W = _) := hW
  clear hW hp
  cases b with
  | true =>
    go_enter Try.func31, Try.ntmps31
    go_wp2_with fail
    rw [← HW.out]
    refine (HC.out _).mono ?_
    rintro e w1 ⟨rfl, hg1⟩
    have c2 := hg1.cell c1 (by simp)
    have HG1 : Hid (w.grownBy w1 none) := grown_trans HG.out hg1 (fun _ h => by cases h)
    clear hg1 HW
    go_wp2
    go_ret
    exact ⟨ret_b (by rw [HM.out]; rfl), HG1.out⟩
  | false =>
    go_enter Try.func31, Try.ntmps31
    go_wp2_with fail
    rw [← HW.out]
    refine (HC.out _).mono ?_
    rintro e w1 ⟨rfl, hg1⟩
    have c2 := hg1.cell c1 (by simp)
    have HG1 : Hid (w.grownBy w1 none) := grown_trans HG.out hg1 (fun _ h => by cases h)
    clear hg1 HW
    go_wp2_with (go_at_call 39; refine (hp39 _ _ _).mono ?_; rintro e w' ⟨rfl, rfl⟩)
    go_ret
    exact ⟨ret_b (by rw [HM.out]; rfl), HG1.out⟩

/-- Is a among the n strings z? -/
def conB (z : Nat → ByteArray) (n : Nat) (a : ByteArray) : Bool := (List.range n).any (fun i => a.toList == (z i).toList)
theorem conB_yes {z : Nat → ByteArray} {n : Nat} {a : ByteArray} (h : ∃ i, i < n ∧ (a.toList == (z i).toList) = true) : conB z n a = true := by
  obtain ⟨i, hi, e⟩ := h
  exact List.any_eq_true.2 ⟨i, by simpa using hi, e⟩
theorem conB_no {z : Nat → ByteArray} {n : Nat} {a : ByteArray} (h : ¬ ∃ i, i < n ∧ (a.toList == (z i).toList) = true) : conB z n a = false := by
  rw [Bool.eq_false_iff]
  intro hc
  obtain ⟨i, hi, e⟩ := List.any_eq_true.1 hc
  exact h ⟨i, by simpa using hi, e⟩

set_option maxHeartbeats 400000 in
theorem idx43_yes (ao : Option Addr) (n c : Nat) (z : Nat → ByteArray) (a : ByteArray) (w : World) (hn : n ≤ 1048576) (hr : RdS w ao n z) (h : ∃ i, i < n ∧ (a.toList == (z i).toList) = true) :
    Calls Try.prog 43 #[.slice ao n c, .string a] w fun e w' => (∃ k : Nat, e = .returned (.int .i64 (k : Int))) ∧ w = w' := by
  have HR := hidP hr
  have HA := hidP h
  clear hr h
  go_enter Try.func43, Try.ntmps43
  go_wp2
  go_loop [8, 5] (fun i _ => ∃ k : Nat, k ≤ n ∧ i = .int .i64 k ∧ Hid (∀ i, i < k → (a.toList == (z i).toList) = false)) (fun i _ => n - (intOf i).toNat)
  case atStart => exact ⟨0, Nat.zero_le _, rfl, fun i hi => by omega⟩
  case round =>
    obtain ⟨k, hk, rfl, HK⟩ := hrel
    by_cases hlt : k < n
    · obtain ⟨b, o, rfl, hc⟩ := HR.out (by omega)
      have d1 := hc k hlt
      have hkk : (k : Int) < (n : Int) := by omega
      clear hc
      by_cases g2 : (a.toList == (z k).toList) = true
      · go_wp2
        go_ret
        exact ⟨⟨k, rfl⟩, rfl⟩
      · have g3 : (a.toList == (z k).toList) = false := by simpa using g2
        clear g2
        have G3 := hidP g3
        go_wp2
        go_round
        case rel =>
          refine ⟨k + 1, by omega, by go_num, fun i hi => ?_⟩
          by_cases hik : i < k
          · exact HK.out i hik
          · obtain rfl : i = k := by omega
            exact G3.out
        case measure => simp [intOf]; omega
    · obtain ⟨i, hi, hix⟩ := HA.out
      have := HK.out i (by omega)
      rw [hix] at this
      cases this

set_option maxHeartbeats 400000 in
theorem idx43_no (ao : Option Addr) (n c : Nat) (z : Nat → ByteArray) (a : ByteArray) (w : World) (hn : n ≤ 1048576) (hr : RdS w ao n z) (h : ¬ ∃ i, i < n ∧ (a.toList == (z i).toList) = true) :
    Calls Try.prog 43 #[.slice ao n c, .string a] w fun e w' => e = .returned (.int .i64 (-1)) ∧ w = w' := by
  have HR := hidP hr
  have HA := hidP h
  clear hr h
  go_enter Try.func43, Try.ntmps43
  go_wp2
  go_loop [8, 5] (fun i _ => ∃ k : Nat, k ≤ n ∧ i = .int .i64 k) (fun i _ => n - (intOf i).toNat)
  case atStart => exact ⟨0, Nat.zero_le _, rfl⟩
  case round =>
    obtain ⟨k, hk, rfl⟩ := hrel
    by_cases hlt : k < n
    · obtain ⟨b, o, rfl, hc⟩ := HR.out (by omega)
      have d1 := hc k hlt
      have hkk : (k : Int) < (n : Int) := by omega
      have g2 : (a.toList == (z k).toList) = false := by
        rw [Bool.eq_false_iff]
        exact fun e => HA.out ⟨k, hlt, e⟩
      clear hc
      go_wp2
      go_round
      case rel => exact ⟨k + 1, by omega, by go_num⟩
      case measure => simp [intOf]; omega
    · go_wp2
      go_ret
      exact ⟨rfl, rfl⟩

set_option maxHeartbeats 400000 in
theorem con40 (ao : Option Addr) (n c : Nat) (z : Nat → ByteArray) (a : ByteArray) (w : World) (hn : n ≤ 1048576) (hr : RdS w ao n z) :
    Calls Try.prog 40 #[.slice ao n c, .string a] w fun e w' => e = .returned (.bool (conB z n a)) ∧ w = w' := by
  by_cases h : ∃ i, i < n ∧ (a.toList == (z i).toList) = true
  · rw [conB_yes h]
    have HC := hidP (idx43_yes ao n c z a w hn hr h)
    clear h hr
    go_enter Try.func40, Try.ntmps40
    go_wp2_with (go_at_call 43; refine HC.out.mono ?_; rintro e w' ⟨⟨k, rfl⟩, rfl⟩)
    go_ret
    exact ⟨ret_b (by simp), rfl⟩
  · rw [conB_no h]
    have HC := hidP (idx43_no ao n c z a w hn hr h)
    clear h hr
    go_enter Try.func40, Try.ntmps40
    go_wp2_with (go_at_call 43; refine HC.out.mono ?_; rintro e w' ⟨rfl, rfl⟩)
    go_ret
    exact ⟨rfl, rfl⟩

end Go.Proofs.Qxb6001408a
