import Derived.Test.Qxb6001408aStr
/-! grants (35), ZZPattern (15), ZZRepository (30), zzCount (24), zzActions (16). -/
namespace Go.Proofs.Qxb6001408a
open Go.RowKit

/-- Does a rule for 'who', whose actions hold the action (con), grant it to 'user'? -/
def gB (who user : ByteArray) (con : Bool) : Bool :=
  con && (if who.toList == [97, 110, 111, 110, 121, 109, 111, 117, 115] then true else if who.toList == [42] then !(user.toList == []) else who.toList == user.toList)

set_option maxHeartbeats 800000 in
theorem grants35 (who pat user act : ByteArray) (aa : Option Addr) (na ca : Nat) (za : Nat → ByteArray) (w : World) (hn : na ≤ 1048576) (hr : RdS w aa na za) :
    Calls Try.prog 35 #[.agg #[.string who, .slice aa na ca, .string pat], .string user, .string act] w fun e w' => e = .returned (.bool (gB who user (conB za na act))) ∧ w.grownBy w' none := by
  have HC : Hid (∀ o, _) := hidP (fun o => con40 aa na ca za act (w.alloc o) hn (hr.below (World.grownBy_alloc _ _ _)))
  have HM : Hid (∀ b, gB who user b = (b && (if who.toList == [97, 110, 111, 110, 121, 109, 111, 117, 115] then true else if who.toList == [42] then !(user.toList == []) else who.toList == user.toList))) := fun _ => rfl
  obtain ⟨b, hb⟩ : ∃ b, conB za na act = b := ⟨_, rfl⟩
  rw [hb] at HC ⊢
  clear hb hr
  cases b with
  | false =>
    go_enter Try.func35, Try.ntmps35
    go_wp2_with (go_at_call 40; refine (HC.out _).mono ?_; rintro e w' ⟨rfl, rfl⟩)
    go_ret
    exact ⟨ret_b (by rw [HM.out]; rfl), World.grownBy_alloc _ _ _⟩
  | true =>
    by_cases h1 : (who.toList == [97, 110, 111, 110, 121, 109, 111, 117, 115]) = true
    · go_enter Try.func35, Try.ntmps35
      go_wp2_with (go_at_call 40; refine (HC.out _).mono ?_; rintro e w' ⟨rfl, rfl⟩)
      go_ret
      exact ⟨ret_b (by rw [HM.out, h1]; rfl), World.grownBy_alloc _ _ _⟩
    have h1' : (who.toList == [97, 110, 111, 110, 121, 109, 111, 117, 115]) = false := by simpa using h1
    clear h1
    by_cases h2 : (who.toList == [42]) = true
    · go_enter Try.func35, Try.ntmps35
      go_wp2_with (go_at_call 40; refine (HC.out _).mono ?_; rintro e w' ⟨rfl, rfl⟩)
      go_ret
      exact ⟨ret_b (by rw [HM.out, h1', h2]; simp), World.grownBy_alloc _ _ _⟩
    have h2' : (who.toList == [42]) = false := by simpa using h2
    clear h2
    go_enter Try.func35, Try.ntmps35
    go_wp2_with (go_at_call 40; refine (HC.out _).mono ?_; rintro e w' ⟨rfl, rfl⟩)
    go_ret
    exact ⟨ret_b (by rw [HM.out, h1', h2']; simp), World.grownBy_alloc _ _ _⟩

set_option maxHeartbeats 400000 in
theorem pat15 (t : ByteArray) (w : World) :
    Calls Try.prog 15 #[.string t] w fun e w' => e = .returned (.agg #[.string t]) ∧ w.grownBy w' none := by
  go_enter Try.func15, Try.ntmps15
  go_wp2
  exact bodyPost_ret (v := .agg #[.string t]) (by simp [results, Try.results15, go_sem]) rfl ⟨rfl, World.grownBy_alloc _ _ _⟩

set_option maxHeartbeats 400000 in
theorem rep30 (t : ByteArray) (w : World) :
    Calls Try.prog 30 #[.string t] w fun e w' => e = .returned (.agg #[.string t]) ∧ w.grownBy w' none := by
  go_enter Try.func30, Try.ntmps30
  go_wp2
  exact bodyPost_ret (v := .agg #[.string t]) (by simp [results, Try.results30, go_sem]) rfl ⟨rfl, World.grownBy_alloc _ _ _⟩

set_option maxHeartbeats 400000 in
theorem cnt24 (a0 a1 a2 : Option Addr) (n0 c0 n1 c1 n2 c2 : Nat) (w : World) :
    Calls Try.prog 24 #[.slice a0 n0 c0, .slice a1 n1 c1, .slice a2 n2 c2] w fun e w' => (∃ n : Nat, e = .returned (.int .i64 (n : Int)) ∧ n ≤ n0 ∧ n ≤ n1 ∧ n ≤ n2) ∧ w = w' := by
  by_cases h1 : (n1 : Int) < (n0 : Int)
  · by_cases h2 : (n2 : Int) < (n1 : Int)
    · go_enter Try.func24, Try.ntmps24
      go_wp2
      go_ret
      exact ⟨⟨n2, rfl, by omega, by omega, by omega⟩, rfl⟩
    · go_enter Try.func24, Try.ntmps24
      go_wp2
      go_ret
      exact ⟨⟨n1, rfl, by omega, by omega, by omega⟩, rfl⟩
  · by_cases h2 : (n2 : Int) < (n0 : Int)
    · go_enter Try.func24, Try.ntmps24
      go_wp2
      go_ret
      exact ⟨⟨n2, rfl, by omega, by omega, by omega⟩, rfl⟩
    · go_enter Try.func24, Try.ntmps24
      go_wp2
      go_ret
      exact ⟨⟨n0, rfl, by omega, by omega, by omega⟩, rfl⟩

theorem Try.info33 : (Try.prog.info? 33).map (fun i => (i.zero, i.size, i.bytes)) = some (some (.string ⟨#[]⟩), 1, 16) := by kernel_rfl

/-- The round of a filling loop. -/
theorem fill_step {w wr : World} {n k : Nat} {xs : List Value} {z : Nat → ByteArray} (hk : k < n) (h : wr.ownsRow w.heap.size 33 1 (.slice (some ⟨w.heap.size, 0, none⟩) n n) n xs ∧ ∀ i, i < k → xs[i]? = some (.string (z i))) (hg : w.grownBy wr none) :
    Hid ((wr.setCell ⟨w.heap.size, k, none⟩ (.string (z k))).ownsRow w.heap.size 33 1 (.slice (some ⟨w.heap.size, 0, none⟩) n n) n (xs.set k (.string (z k))) ∧ ∀ i, i < k + 1 → (xs.set k (.string (z k)))[i]? = some (.string (z i))) ∧
    Hid (w.grownBy (wr.setCell ⟨w.heap.size, k, none⟩ (.string (z k))) none) := by
  obtain ⟨h1, h2⟩ := h.1.stored k (.string (z k))
  have hl : xs.length = n := by simpa using h.1.1
  refine ⟨⟨h1, fun i hi => ?_⟩, grown_trans hg h2 (fun g e => ?_)⟩
  · by_cases hik : i = k
    · subst hik; rw [List.getElem?_set_self (by omega)]
    · rw [List.getElem?_set_ne (by omega)]; exact h.2 i (by omega)
  · cases e; exact .inr (Nat.le_refl _)

set_option maxHeartbeats 400000 in
/-- zzActions: a fresh row of the same strings. -/
theorem act16 (ao : Option Addr) (n cap : Nat) (z : Nat → ByteArray) (w : World) (h : RdS w ao n z) (hn : n ≤ 1048576) :
    Calls Try.prog 16 #[.slice ao n cap] w fun e w' => e = .returned (.slice (some ⟨w.heap.size, 0, none⟩) n n) ∧ RdS w' (some ⟨w.heap.size, 0, none⟩) n z ∧ w.grownBy w' none ∧ w.heap.size < w'.heap.size := by
  obtain ⟨i0, hi, hz0, hz1, hz2⟩ := info_parts Try.info33
  have HB := hidP h
  clear h
  go_enter Try.func16, Try.ntmps16
  go_wp2_with (at_make; refine wpList_make_full _ rfl _ _ 30 rfl w.heap.size 33 i0 (.string ⟨#[]⟩) 1 Try.underlying30 hi hz0 hz1 _ _ _ _ n rfl rfl rfl rfl (by rw [hz2]; omega) (by unfold maxLen; omega) (Nat.le_refl _) ?_; intro w1 hown1 hgrow1; have HO1 : Hid (w1.ownsRow w.heap.size 33 1 _ n _ ∧ w.grownBy w1 none) := ⟨hown1, hgrow1⟩; clear hown1 hgrow1)
  go_loopw [4] (fun i wr => ∃ k : Nat, k ≤ n ∧ i = .int .i64 k ∧ ∃ xs : List Value, Hid (wr.ownsRow w.heap.size 33 1 (.slice (some ⟨w.heap.size, 0, none⟩) n n) n xs ∧ ∀ i, i < k → xs[i]? = some (.string (z i))) ∧ Hid (w.grownBy wr none)) (fun i _ => n - (intOf i).toNat)
  case atStart => exact ⟨0, Nat.zero_le _, rfl, _, ⟨HO1.out.1, fun i hi => by omega⟩, HO1.out.2⟩
  case round =>
    clear HO1
    obtain ⟨k, hk, rfl, xs, HX, HG⟩ := hrel
    by_cases hlt : k < n
    · obtain ⟨b, o, rfl, hc⟩ := HB.out.kept HG.out (fun _ _ => by simp) (by omega)
      have d1 := hc k hlt
      have hl : xs.length = n := by simpa using HX.out.1.1
      have d2 : wr.cell? ⟨w.heap.size, k, none⟩ = some (xs[k]'(by omega)) := by
        rw [HX.out.1.cellAt k (by omega)]; exact List.getElem?_eq_getElem _
      obtain ⟨u, hu⟩ : ∃ u, u = xs[k]'(by omega) := ⟨_, rfl⟩
      rw [← hu] at d2
      have d3 := HX.out.1.frozenAt k
      have hkk : (k : Int) < (n : Int) := by omega
      have HS1 := hidP (fill_step (z := z) hlt HX.out HG.out)
      clear hc hl hu
      go_wp2
      go_roundw
      case rel => exact ⟨k + 1, by omega, by go_num, _, HS1.out.1, HS1.out.2⟩
      case measure => simp [intOf]; omega
    · obtain rfl : k = n := by omega
      go_wp2
      go_ret
      refine ⟨rfl, fun hpos => ⟨w.heap.size, 0, rfl, fun i hi => ?_⟩, HG.out, (HX.out.1.lt _ rfl).2⟩
      rw [Nat.zero_add, HX.out.1.cellAt i (by omega)]
      exact HX.out.2 i hi

end Go.Proofs.Qxb6001408a
