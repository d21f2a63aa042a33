import Derived.Test.Qxb6001408aAsk
import Derived.Test.Qxb6001408aSize
import Derived.Test.Qxb6001408aBytes
/-! The law (8). -/
namespace Go.Proofs.Qxb6001408a
open Go.RowKit

theorem RdS.lt {w : World} {ao : Option Addr} {n : Nat} {z : Nat → ByteArray} (h : RdS w ao n z) : 0 < n → ∀ x, ao = some x → x.block < w.heap.size := fun hn x hx => by
  obtain ⟨b, o, e, hc⟩ := h hn
  rw [hx] at e
  obtain rfl := Option.some.inj e
  exact World.block_lt_of_cell? w _ (hc 0 hn)
theorem RdSS.lt {w : World} {ao : Option Addr} {n : Nat} {f : Nat → Option Addr × Nat × Nat} {z : Nat → Nat → ByteArray} (h : RdSS w ao n f z) :
    (0 < n → ∀ x, ao = some x → x.block < w.heap.size) ∧ ∀ i, i < n → 0 < (f i).2.1 → ∀ x, (f i).1 = some x → x.block < w.heap.size := by
  refine ⟨fun hn x hx => ?_, fun i hi => ?_⟩
  · obtain ⟨b, o, e, hc⟩ := h hn
    rw [hx] at e
    obtain rfl := Option.some.inj e
    exact World.block_lt_of_cell? w _ (hc 0 hn).1
  · obtain ⟨b, o, e, hc⟩ := h (by omega)
    exact (hc i hi).2.lt

theorem inv_nil (w : World) (t : TypeId) : Inv (w.alloc (.cells #[.slice none 0 0] t)) w.heap.size w.heap.size (.slice none 0 0) [] := by
  refine ⟨?_, ?_, World.ownsRow_nil _ _ _ _, by simp [Value.ownBlock], fun r hr => by simp at hr⟩
  · rw [World.cell?_alloc_at _ _ _ _ rfl]; rfl
  · simp

/-- Allows is 'some granted pattern matches'. -/
theorem al_gp (u ac rp : ByteArray) (L : List Rl) : al u ac rp L = (gp u ac L L.length).any (fun p => mB p rp) := by
  unfold al gp
  rw [List.take_length, List.any_map, List.any_filter]
  rfl

theorem match31_is (b : Bool) (t r : ByteArray) (w : World) (ht : t.size ≤ 1048576) (hb : mB t r = b) :
    Calls Try.prog 31 #[.agg #[.string t], .agg #[.string r]] w fun e w' => e = .returned (.bool b) ∧ w.grownBy w' none := by
  subst hb; exact match31 t r w ht

theorem own_rds {w : World} {base : Nat} {e : TypeId} {ao : Option Addr} {cap n : Nat} {xs : List ByteArray} (h : w.ownsRow base e 1 (.slice ao n cap) n (xs.map Value.string)) (hx : n = xs.length) : RdS w ao n (fun i => xs.getD i ⟨#[]⟩) := fun hn => by
  obtain ⟨g, c, e, _, _⟩ := h.form hn
  cases e
  refine ⟨g, 0, rfl, fun i hi => ?_⟩
  rw [Nat.zero_add, h.cellAt i (by omega)]
  have hi' : i < xs.length := by omega
  simp [List.getD, hi']

theorem gp_size {w : World} {Br base : Nat} {v : Value} {L : List Rl} (h : Inv w Br base v L) (u ac : ByteArray) (i : Nat) (hi : i < (gp u ac L L.length).length) : ((gp u ac L L.length).getD i ⟨#[]⟩).size ≤ 1048576 := by
  have e : (gp u ac L L.length).getD i ⟨#[]⟩ = (gp u ac L L.length)[i] := by simp [List.getD, hi]
  rw [e]
  have hm : (gp u ac L L.length)[i] ∈ gp u ac L L.length := List.getElem_mem hi
  generalize (gp u ac L L.length)[i] = p at hm ⊢
  unfold gp at hm
  rw [List.take_length] at hm
  obtain ⟨r, hr, rfl⟩ := List.mem_map.1 hm
  exact (h.2.2.2.2 r (List.mem_filter.1 hr).1).2.2.1

theorem any_step (G : List ByteArray) (rp : ByteArray) (k : Nat) (h : k < G.length) : (G.take (k + 1)).any (fun p => mB p rp) = ((G.take k).any (fun p => mB p rp) || mB (G.getD k ⟨#[]⟩) rp) := by
  have e : G.getD k ⟨#[]⟩ = G[k] := by simp [List.getD, h]
  rw [e, List.take_succ_eq_append_getElem h, List.any_append]
  simp

set_option maxRecDepth 100000 in
set_option maxHeartbeats 4000000 in
theorem law8 (a0 a1 a2 : Option Addr) (n0 c0 n1 c1 n2 c2 : Nat) (z0 z2 : Nat → ByteArray) (f : Nat → Option Addr × Nat × Nat) (z1 : Nat → Nat → ByteArray) (u ac rp : ByteArray) (w : World)
    (h0 : RdS w a0 n0 z0) (h1 : RdSS w a1 n1 f z1) (h2 : RdS w a2 n2 z2) :
    Calls Try.prog 8 #[.slice a0 n0 c0, .slice a1 n1 c1, .slice a2 n2 c2, .string u, .string ac, .string rp] w fun e w' => e = .returned (.bool true) ∧ w.grownBy w' none := by
  have H0 := hidP h0
  have H1 := hidP h1
  have H2 := hidP h2
  clear h0 h1 h2
  obtain ⟨W, hW⟩ : ∃ W, W = w.alloc (.cells #[.slice none 0 0] 41) := ⟨_, rfl⟩
  have HG0 : Hid (w.grownBy W none) := by rw [hW]; exact World.grownBy_alloc _ _ _
  have HI0 : Hid (Inv W w.heap.size w.heap.size (.slice none 0 0) []) := by rw [hW]; exact inv_nil w 41
  have HW := hidP hW
  have hWs : w.heap.size ≤ W.heap.size := HG0.out.size
  clear hW
  go_enter Try.func8, Try.ntmps8
  go_wp2_with fail
  refine (bytes29 _ _ _ _ _ _ _ _ _ _ _ _ _ _ _ _ _ H0.out H1.out H2.out).mono ?_
  rintro e w' ⟨⟨b, rfl, hb⟩, rfl⟩
  cases b with
  | false =>
    go_wp2
    go_ret
    exact ⟨rfl, World.grownBy.refl _ _⟩
  | true =>
    have HB := hidP (hb rfl)
    clear hb
    go_wp2_with fail
    refine (rule21 _ _ _ _ _ _ _ _ _ _ _ _ _ _ H0.out H1.out H2.out).mono ?_
    rintro e w' ⟨⟨t0, rfl, ht0⟩, rfl⟩
    go_wp2_with fail
    refine (str13 _ _).mono ?_
    rintro e w' ⟨⟨t1, rfl, ht1⟩, rfl⟩
    go_wp2_with fail
    refine (str13 _ _).mono ?_
    rintro e w' ⟨⟨t2, rfl, ht2⟩, rfl⟩
    go_wp2_with fail
    refine (str13 _ _).mono ?_
    rintro e w' ⟨⟨t3, rfl, ht3⟩, rfl⟩
    go_wp2_with fail
    refine (sum12 _ _ _ ht2 ht3).mono ?_
    rintro e w' ⟨⟨t4, rfl, ht4⟩, rfl⟩
    go_wp2_with fail
    refine (sum12 _ _ _ ht1 ht4).mono ?_
    rintro e w' ⟨⟨t5, rfl, ht5⟩, rfl⟩
    go_wp2_with fail
    refine (sum12 _ _ _ ht0 ht5).mono ?_
    rintro e w' ⟨⟨t6, rfl, ht6⟩, rfl⟩
    by_cases h3 : (1048576 : Int) < (t6 : Int)
    · go_wp2
      go_ret
      exact ⟨rfl, World.grownBy.refl _ _⟩
    go_wp2_with fail
    rw [← HW.out]
    refine (add22 w.heap.size w.heap.size a0 a1 a2 n0 c0 n1 c1 n2 c2 z0 z2 f z1 W (H0.out.below HG0.out) (H1.out.below HG0.out) (H2.out.below HG0.out) (Nat.le_refl _) hWs H0.out.lt H1.out.lt.1 H2.out.lt H1.out.lt.2 HB.out.1 HB.out.2.1 HB.out.2.2 HI0.out).mono ?_
    rintro e w1 ⟨rfl, v, L, hI, hL, hs, hBl⟩
    have HG1 : Hid (w.grownBy w1 none) := below_grown ((grown_below HG0.out).trans hBl)
    have HI := hidP hI
    clear hI hs hBl HW H0 H1 H2 HB HI0 HG0 h3
    clear hWs W
    have hsz : w.heap.size < w1.heap.size := World.block_lt_of_cell? w1 _ HI.out.1
    go_wp2_with fail
    refine (rep30 _ _).mono ?_
    rintro e w2 ⟨rfl, hg⟩
    have HG2 : Hid (w.grownBy w2 none) := grown_trans HG1.out hg (fun _ h => by cases h)
    have HI2 := hidP (HI.out.below hg)
    have hsz2 : w1.heap.size ≤ w2.heap.size := hg.size
    clear HG1 HI hg
    go_wp2_with fail
    have HI3 := hidP (HI2.out.below (World.grownBy_alloc w2 (.cells #[.string rp] 51) none))
    refine (granted23 _ _ v L u ac _ HI3.out hL).mono ?_
    rintro e w3 ⟨v', rfl, hO, hg⟩
    have HG3 : Hid (w.grownBy w3 none) := grown_trans (grown_alloc HG2.out _) hg (fun _ h => by cases h)
    have HI4 := hidP (HI3.out.below hg)
    have hb : w3.cell? ⟨w2.heap.size, 0, none⟩ = some (.string rp) := hg.cell (a := ⟨w2.heap.size, 0, none⟩) (by rw [World.cell?_alloc_at _ _ _ _ rfl]; rfl) (by simp)
    have HBx := hidP hb
    have HGS := hidP (gp_size HI4.out u ac)
    have HAL := hidP (al_gp u ac rp L)
    have hGl := gp_len u ac L L.length
    obtain ⟨G, hG⟩ : ∃ G, G = gp u ac L L.length := ⟨_, rfl⟩
    rw [← hG] at hO HGS HAL hGl
    obtain ⟨ao, cap, rfl, _⟩ := own_form hO
    have HR := hidP (own_rds hO rfl)
    obtain ⟨z, hz⟩ : ∃ z : Nat → ByteArray, z = fun i => G.getD i ⟨#[]⟩ := ⟨_, rfl⟩
    have HAS : Hid (∀ k, k < G.length → (G.take (k + 1)).any (fun p => mB p rp) = ((G.take k).any (fun p => mB p rp) || mB (z k) rp)) := by rw [hz]; exact any_step G rp
    have HZS : Hid (∀ k, k < G.length → (z k).size ≤ 1048576) := by rw [hz]; exact HGS.out
    rw [← hz] at HR
    obtain ⟨n, hn⟩ : ∃ n, n = G.length := ⟨_, rfl⟩
    rw [← hn] at HR HAS HZS hGl ⊢
    have hb2 : w2.heap.size < w3.heap.size := World.block_lt_of_cell? w3 _ hb
    obtain ⟨B, hB⟩ : ∃ B, B = w2.heap.size := ⟨_, rfl⟩
    rw [← hB] at HBx hb2
    have HBB := hidP hB
    have hnn : n ≤ 1048576 := by omega
    have HAll : Hid (∀ k, n ≤ k → (G.take k).any (fun p => mB p rp) = al u ac rp L) := fun k hk => by rw [List.take_of_length_le (by omega)]; exact HAL.out.symm
    clear hb hg hO HI3 HI2 HG2 HGS HAL hG hz hn hGl
    go_wp2_with fail
    try rw [← HBB.out]
    clear HBB hB hsz2
    go_loopw [17, 18] (fun a i wr => ∃ (k : Nat) (b : Bool), k ≤ n ∧ i = .int .i64 k ∧ a = .bool b ∧ Hid (b = (G.take k).any (fun p => mB p rp)) ∧ Hid (w3.grownBy wr none)) (fun _ i _ => n - (intOf i).toNat)
    case atStart => exact ⟨0, false, Nat.zero_le _, rfl, rfl, rfl, World.grownBy.refl _ _⟩
    case round =>
      obtain ⟨k, b, hk, rfl, rfl, HA, HGr⟩ := hrel
      have drp : wr.cell? ⟨B, 0, none⟩ = some (.string rp) := HGr.out.cell HBx.out (by simp)
      by_cases hlt : k < n
      · obtain ⟨g, o, rfl, hc⟩ := (HR.out.below HGr.out) (by omega)
        have d1 := hc k hlt
        have hkk : (k : Int) < (n : Int) := by omega
        have r0 : g < wr.heap.size := World.block_lt_of_cell? wr _ d1
        have r1 : B < wr.heap.size := World.block_lt_of_cell? wr _ drp
        have hst := HAS.out k hlt
        rw [← HA.out] at hst
        have HZ := hidP (HZS.out k hlt)
        clear hc HA
        obtain ⟨m, hm⟩ : ∃ m, mB (z k) rp = m := ⟨_, rfl⟩
        rw [hm] at hst
        have HST := hidP hst
        have HC : Hid (∀ w, _) := hidP (fun w => match31_is m (z k) rp w HZ.out hm)
        clear hst hm
        cases m with
        | true =>
          go_wp2_with fail
          go_region_held3 (fun w' => w'.cell? ⟨g, o + k, none⟩ = some (.string (z k)) ∧ w'.cell? ⟨B, 0, none⟩ = some (.string rp)) (go_keep)
            ((go_at_call 31; refine (HC.out _).mono ?_; rintro e w4 ⟨rfl, hM⟩; have HM := hidP hM; have y0 := cellN (b := g) hM r0; have y1 := cellN (b := B) hM r1; clear hM))
          have HN := hidP (grown_trans (grown_drew HGr.out) HM.out (fun _ h => by cases h))
          clear y0 y1 HM HGr d1 drp HC
          go_wp2
          go_roundw
          case rel => exact ⟨k + 1, true, by omega, by go_num, rfl, (HST.out.trans (Bool.or_true b)).symm, HN⟩
          case measure => simp [intOf]; omega
        | false =>
          go_wp2_with fail
          go_region_held3 (fun w' => w'.cell? ⟨g, o + k, none⟩ = some (.string (z k)) ∧ w'.cell? ⟨B, 0, none⟩ = some (.string rp)) (go_keep)
            ((go_at_call 31; refine (HC.out _).mono ?_; rintro e w4 ⟨rfl, hM⟩; have HM := hidP hM; have y0 := cellN (b := g) hM r0; have y1 := cellN (b := B) hM r1; clear hM))
          have HN := hidP (grown_trans (grown_drew HGr.out) HM.out (fun _ h => by cases h))
          clear y0 y1 HM HGr d1 drp HC
          go_wp2
          go_roundw
          case rel => exact ⟨k + 1, b, by omega, by go_num, rfl, (HST.out.trans (Bool.or_false b)).symm, HN⟩
          case measure => simp [intOf]; omega
      · have hbe : b = al u ac rp L := by rw [HA.out]; exact HAll.out k (by omega)
        have HE := hidP hbe
        clear hbe HA
        go_wp2_with fail
        refine (allows32 _ _ v L u ac rp _ (HI4.out.below HGr.out) hL).mono ?_
        rintro e w5 ⟨rfl, hg5⟩
        rw [← HE.out]
        have HN := hidP (grown_trans (grown_trans HG3.out HGr.out (fun _ h => by cases h)) hg5 (fun _ h => by cases h))
        clear hg5 HGr drp HE HAll
        go_wp2
        go_ret
        exact ⟨ret_b (by simp), HN.out⟩

end Go.Proofs.Qxb6001408a
