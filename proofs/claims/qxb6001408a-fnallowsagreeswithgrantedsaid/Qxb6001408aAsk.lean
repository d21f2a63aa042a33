import Derived.Test.Qxb6001408aAdd
/-! Granted (23), Allows (32). -/
namespace Go.Proofs.Qxb6001408a
open Go.RowKit

theorem flat_get (L : List Rl) (i : Nat) (h : i < L.length) : (flat L)[i * 3]? = some (.string L[i].who) ∧ (flat L)[i * 3 + 1]? = some (.slice L[i].aa L[i].na L[i].ca) ∧ (flat L)[i * 3 + 2]? = some (.string L[i].pat) := by
  induction L generalizing i with
  | nil => simp at h
  | cons r L ih =>
    cases i with
    | zero => exact ⟨rfl, rfl, rfl⟩
    | succ i =>
      have := ih i (by simpa using h)
      have e : (i + 1) * 3 = i * 3 + 3 := by omega
      rw [e]
      simpa [flat, Rl.cells] using this

/-- The rules, as a reader sees them. -/
theorem Inv.at {w : World} {Br base : Nat} {v : Value} {L : List Rl} (h : Inv w Br base v L) (hn : 0 < L.length) :
    ∃ g cap, v = .slice (some ⟨g, 0, none⟩) L.length cap ∧ ∀ i (hi : i < L.length), w.cell? ⟨g, i * 3, none⟩ = some (.string L[i].who) ∧ w.cell? ⟨g, i * 3 + 1, none⟩ = some (.slice L[i].aa L[i].na L[i].ca) ∧ w.cell? ⟨g, i * 3 + 2, none⟩ = some (.string L[i].pat) := by
  obtain ⟨_, _, hown, _, _⟩ := h
  obtain ⟨g, cap, rfl, _, _⟩ := hown.form hn
  refine ⟨g, cap, rfl, fun i hi => ?_⟩
  obtain ⟨f1, f2, f3⟩ := flat_get L i hi
  exact ⟨by rw [hown.cellAt _ (by omega)]; exact f1, by rw [hown.cellAt _ (by omega)]; exact f2, by rw [hown.cellAt _ (by omega)]; exact f3⟩

theorem Inv.len {w : World} {Br base : Nat} {v : Value} {L : List Rl} (h : Inv w Br base v L) : ∃ ao cap, v = .slice ao L.length cap := by
  obtain ⟨ao, cap, e, _⟩ := own_form h.2.2.1
  exact ⟨ao, cap, e⟩

/-- Does the rule grant it? -/
def gr (user act : ByteArray) (r : Rl) : Bool := gB r.who user (conB r.za r.na act)
/-- The patterns of the first k rules that grant it. -/
def gp (user act : ByteArray) (L : List Rl) (k : Nat) : List ByteArray := ((L.take k).filter (gr user act)).map Rl.pat
theorem gp_step (user act : ByteArray) (L : List Rl) (k : Nat) (h : k < L.length) : gp user act L (k + 1) = gp user act L k ++ (if gr user act L[k] then [L[k].pat] else []) := by
  unfold gp
  rw [List.take_succ_eq_append_getElem h, List.filter_append, List.map_append]
  congr 1
  by_cases hg : gr user act L[k] <;> simp [hg]
theorem gp_len (user act : ByteArray) (L : List Rl) (k : Nat) : (gp user act L k).length ≤ k := by
  unfold gp
  rw [List.length_map]
  have h1 := List.length_filter_le (gr user act) (L.take k)
  have h2 : (L.take k).length ≤ k := List.length_take_le _ _
  omega

theorem Try.info28 : (Try.prog.info? 28).map (fun i => (i.zero, i.size, i.bytes)) = some (some (.agg #[.string ⟨#[]⟩]), 1, 16) := by kernel_rfl

theorem gp_more {w3 : World} {B k g cap : Nat} {user act p : ByteArray} {L : List Rl} (hp : gp user act L (k + 1) = gp user act L k ++ [p])
    (h : w3.ownsRow B 28 1 (.slice (some ⟨g, 0, none⟩) ((gp user act L k).length + 1) cap) ((gp user act L k).length + 1) ((gp user act L k).map Value.string ++ [.string p])) :
    Hid (w3.ownsRow B 28 1 (.slice (some ⟨g, 0, none⟩) ((gp user act L k).length + 1) cap) (gp user act L (k + 1)).length ((gp user act L (k + 1)).map Value.string)) := by
  show w3.ownsRow _ _ _ _ _ _
  rw [hp, List.length_append, List.map_append]
  exact h

set_option maxRecDepth 100000 in
set_option maxHeartbeats 2000000 in
theorem granted23 (Br base : Nat) (v : Value) (L : List Rl) (user act : ByteArray) (w : World) (hI : Inv w Br base v L) (hL : L.length ≤ 1048576) :
    Calls Try.prog 23 #[.pointer (some ⟨Br, 0, none⟩), .string user, .string act] w fun e w' => ∃ v', e = .returned v' ∧ w'.ownsRow w.heap.size 28 1 v' (gp user act L L.length).length ((gp user act L L.length).map Value.string) ∧ w.grownBy w' none := by
  obtain ⟨i0, hi, hz0, hz1, hz2⟩ := info_parts Try.info28
  have HI := hidP hI
  have hc := hI.1
  obtain ⟨ao, cap, rfl⟩ := hI.len
  clear hI
  go_enter Try.func23, Try.ntmps23
  go_wp2
  go_loopw [7, 15, 9] (fun v i _ wr => ∃ k : Nat, k ≤ L.length ∧ i = .int .i64 k ∧ Hid (wr.ownsRow w.heap.size 28 1 v (gp user act L k).length ((gp user act L k).map Value.string)) ∧ Hid (w.grownBy wr none)) (fun _ i _ _ => L.length - (intOf i).toNat)
  case atStart => exact ⟨0, Nat.zero_le _, rfl, World.ownsRow_nil _ _ _ _, World.grownBy.refl _ _⟩
  case round =>
    obtain ⟨k, hk, rfl, HO, HG⟩ := hrel
    by_cases hlt : k < L.length
    · obtain ⟨g, cap', e, hcells⟩ := (HI.out.below HG.out).at (by omega)
      cases e
      obtain ⟨d0, d1, d2⟩ := hcells k hlt
      obtain ⟨j1, j2, j3, _⟩ := (HI.out.below HG.out).2.2.2.2 L[k] (List.getElem_mem hlt)
      have hps := gp_step user act L k hlt
      have hgl := gp_len user act L k
      obtain ⟨r, hr⟩ : ∃ r, r = L[k] := ⟨_, rfl⟩
      rw [← hr] at d0 d1 d2 j1 j2 j3 hps
      have HC : Hid (∀ o, _) := hidP (fun o => grants35 r.who r.pat user act r.aa r.na r.ca r.za (wr.alloc o) j2 (j1.below (World.grownBy_alloc _ _ _)))
      have HPS := hidP hps
      have hsz : w.heap.size ≤ wr.heap.size := HG.out.size
      have hkk : (k : Int) < (L.length : Int) := by omega
      have hlt2 : g < wr.heap.size := World.block_lt_of_cell? wr _ d0
      clear hcells hr j1 hps
      by_cases hb : gr user act r = true
      · have hb' : gB r.who user (conB r.za r.na act) = true := hb
        rw [hb'] at HC
        rw [hb, if_pos rfl] at HPS
        clear hb hb'
        go_wp2_with fail
        refine (HC.out _).mono ?_
        rintro e w1 ⟨rfl, hg1⟩
        have dp : w1.cell? ⟨wr.heap.size, 2, none⟩ = some (.string r.pat) := hg1.cell (a := ⟨wr.heap.size, 2, none⟩) (by rw [World.cell?_alloc_at _ _ _ _ rfl]; rfl) (by simp)
        have HG1 := hidP (grown_trans (grown_alloc HG.out _) hg1 (fun _ h => by cases h))
        have HO1 := hidP (own_below (HO.out.alloc _) hg1)
        have hsz1 : w.heap.size ≤ w1.heap.size := HG1.out.size
        clear hg1 HC HG HO d0 d1 d2
        go_wp2_with (at_builtin; refine wpList_append_lies _ rfl _ _ _ rfl w.heap.size 28 i0 _ 1 16 Try.underlying44 hi hz0 hz1 hz2 rfl (by decide) _ (gp user act L k).length _ rfl (HO1.out.alloc _) ⟨w1.heap.size, 0, none⟩ 1 1 [.string r.pat] rfl rfl (cell_one_new _ _ _) (by simp [Value.oneCell']) (by omega) (by unfold maxLen; omega) (by omega) (by simp; omega) (w1.heap.size + 1) (by simp) ?_; intro g2 cap2 w2 hown2 hgrow2 hat2 hlt3; have HA2 := hidP (App.lies (m := (gp user act L k).length + 1) (cap := cap2) hgrow2 hat2); have HO2 := hidP hown2; clear hgrow2 hat2 hlt3 hown2)
        go_roundw
        case rel => exact ⟨k + 1, by omega, by go_num, gp_more HPS.out HO2.out, grown_trans HG1.out HA2.out.1 (fun q hq => .inr (HO1.out.lt q hq).1)⟩
        case measure => simp [intOf]; omega
      · have hbf : gr user act r = false := by simpa using hb
        have hb' : gB r.who user (conB r.za r.na act) = false := hbf
        rw [hb'] at HC
        rw [hbf, if_neg (by simp), List.append_nil] at HPS
        clear hb hb' hbf
        go_wp2_with fail
        refine (HC.out _).mono ?_
        rintro e w1 ⟨rfl, hg1⟩
        have HG1 := hidP (grown_trans (grown_alloc HG.out _) hg1 (fun _ h => by cases h))
        have HO1 := hidP (own_below (HO.out.alloc _) hg1)
        clear hg1 HC HG HO d0 d1 d2
        go_wp2
        go_roundw
        case rel => exact ⟨k + 1, by omega, by go_num, (by rw [HPS.out]; exact HO1), HG1⟩
        case measure => simp [intOf]; omega
    · obtain rfl : k = L.length := by omega
      go_wp2
      go_ret
      exact ⟨_, rfl, HO.out, HG.out⟩

/-- Does one of the first k rules allow it? -/
def al (user act repo : ByteArray) (L : List Rl) : Bool := L.any (fun r => gr user act r && mB r.pat repo)

theorem al_step (user act repo : ByteArray) (L : List Rl) (k : Nat) (h : k < L.length) : al user act repo (L.take k) = false → al user act repo (L.take (k + 1)) = (gr user act L[k] && mB L[k].pat repo) := by
  intro h0
  unfold al at h0 ⊢
  rw [List.take_succ_eq_append_getElem h, List.any_append, h0]
  simp
theorem al_stop (user act repo : ByteArray) (L : List Rl) (k : Nat) (h : k < L.length) : (gr user act L[k] && mB L[k].pat repo) = true → al user act repo L = true := by
  intro h0
  exact List.any_eq_true.2 ⟨L[k], List.getElem_mem h, h0⟩

set_option maxRecDepth 100000 in
set_option maxHeartbeats 2000000 in
theorem allows32 (Br base : Nat) (v : Value) (L : List Rl) (user act repo : ByteArray) (w : World) (hI : Inv w Br base v L) (hL : L.length ≤ 1048576) :
    Calls Try.prog 32 #[.pointer (some ⟨Br, 0, none⟩), .string user, .string act, .agg #[.string repo]] w fun e w' => e = .returned (.bool (al user act repo L)) ∧ w.grownBy w' none := by
  have HI := hidP (hI.below (World.grownBy_alloc w (.cells #[.string repo] 51) none))
  have hc := HI.out.1
  obtain ⟨ao, cap, rfl⟩ := hI.len
  obtain ⟨W, hW⟩ : ∃ W, W = w.alloc (.cells #[.string repo] 51) := ⟨_, rfl⟩
  have HG0 : Hid (w.grownBy W none) := by rw [hW]; exact World.grownBy_alloc _ _ _
  have hrp : W.cell? ⟨w.heap.size, 0, none⟩ = some (.string repo) := by rw [hW, World.cell?_alloc_at _ _ _ _ rfl]; rfl
  have HRP := hidP hrp
  rw [← hW] at HI hc
  have HW := hidP hW
  have hcw := hI.1
  have hBr : Br < w.heap.size := World.block_lt_of_cell? w _ hcw
  clear hI hW hrp hc
  go_enter Try.func32, Try.ntmps32
  go_wp2
  rw [← HW.out]
  clear HW hcw
  go_loopw [16, 10, 8] (fun i _ r wr => ∃ k : Nat, k ≤ L.length ∧ i = .int .i64 k ∧ r = .bool false ∧ Hid (al user act repo (L.take k) = false) ∧ Hid (W.grownBy wr none)) (fun i _ _ _ => L.length - (intOf i).toNat)
  case atStart => exact ⟨0, Nat.zero_le _, rfl, rfl, rfl, World.grownBy.refl _ _⟩
  case round =>
    obtain ⟨k, hk, rfl, rfl, HA, HG⟩ := hrel
    by_cases hlt : k < L.length
    · obtain ⟨g, cap', e, hcells⟩ := (HI.out.below HG.out).at (by omega)
      cases e
      obtain ⟨d0, d1, d2⟩ := hcells k hlt
      obtain ⟨j1, j2, j3, _⟩ := (HI.out.below HG.out).2.2.2.2 L[k] (List.getElem_mem hlt)
      have drp : wr.cell? ⟨w.heap.size, 0, none⟩ = some (.string repo) := HG.out.cell HRP.out (by simp)
      have hal := al_step user act repo L k hlt
      have hstop := al_stop user act repo L k hlt
      obtain ⟨r, hr⟩ : ∃ r, r = L[k] := ⟨_, rfl⟩
      rw [← hr] at d0 d1 d2 j1 j2 j3 hal hstop
      have HC : Hid (∀ o, _) := hidP (fun o => grants35 r.who r.pat user act r.aa r.na r.ca r.za (wr.alloc o) j2 (j1.below (World.grownBy_alloc _ _ _)))
      have HAL := hidP (And.intro hal hstop)
      have J3 := hidP j3
      have hsz : W.heap.size ≤ wr.heap.size := HG.out.size
      have hkk : (k : Int) < (L.length : Int) := by omega
      have hlt2 : g < wr.heap.size := World.block_lt_of_cell? wr _ d0
      have hlt4 : w.heap.size < wr.heap.size := World.block_lt_of_cell? wr _ drp
      clear hcells hr j1 hal hstop j3
      by_cases hb : gr user act r = true
      · have hb' : gB r.who user (conB r.za r.na act) = true := hb
        rw [hb'] at HC
        rw [hb] at HAL
        clear hb hb'
        go_wp2_with fail
        refine (HC.out _).mono ?_
        rintro e w1 ⟨rfl, hg1⟩
        have dp : w1.cell? ⟨wr.heap.size, 2, none⟩ = some (.string r.pat) := hg1.cell (a := ⟨wr.heap.size, 2, none⟩) (by rw [World.cell?_alloc_at _ _ _ _ rfl]; rfl) (by simp)
        have drp1 : w1.cell? ⟨w.heap.size, 0, none⟩ = some (.string repo) := hg1.cell (a := ⟨w.heap.size, 0, none⟩) (by rw [World.cell?_alloc_past _ _ _ hlt4]; exact drp) (by simp)
        have HG1 := hidP (grown_trans (grown_alloc HG.out _) hg1 (fun _ h => by cases h))
        clear hg1 HC HG d0 d1 d2 drp
        have HM := hidP (match31 r.pat repo w1 J3.out)
        by_cases hm : mB r.pat repo = true
        · rw [hm] at HM HAL
          go_wp2_with fail
          refine HM.out.mono ?_
          rintro e w2 ⟨rfl, hg2⟩
          have HG2 := hidP (grown_trans (grown_trans HG0.out HG1.out (fun _ h => by cases h)) hg2 (fun _ h => by cases h))
          clear hg2 HM
          go_wp2
          go_ret
          exact ⟨ret_b (HAL.out.2 rfl).symm, HG2.out⟩
        · have hmf : mB r.pat repo = false := by simpa using hm
          rw [hmf] at HM HAL
          clear hm hmf
          go_wp2_with fail
          refine HM.out.mono ?_
          rintro e w2 ⟨rfl, hg2⟩
          have HG2 := hidP (grown_trans HG1.out hg2 (fun _ h => by cases h))
          clear hg2 HM
          go_wp2
          go_roundw
          case rel => exact ⟨k + 1, by omega, by go_num, rfl, (by rw [HAL.out.1 HA.out]; rfl), HG2⟩
          case measure => simp [intOf]; omega
      · have hbf : gr user act r = false := by simpa using hb
        have hb' : gB r.who user (conB r.za r.na act) = false := hbf
        rw [hb'] at HC
        rw [hbf] at HAL
        clear hb hb' hbf
        go_wp2_with fail
        refine (HC.out _).mono ?_
        rintro e w1 ⟨rfl, hg1⟩
        have HG1 := hidP (grown_trans (grown_alloc HG.out _) hg1 (fun _ h => by cases h))
        clear hg1 HC HG d0 d1 d2 drp
        go_wp2
        go_roundw
        case rel => exact ⟨k + 1, by omega, by go_num, rfl, (by rw [HAL.out.1 HA.out]; rfl), HG1⟩
        case measure => simp [intOf]; omega
    · have hall : al user act repo L = false := by
        have := HA.out
        rwa [List.take_of_length_le (by omega)] at this
      have HAll := hidP hall
      clear hall
      go_wp2
      go_ret
      exact ⟨ret_b HAll.out.symm, grown_trans HG0.out HG.out (fun _ h => by cases h)⟩

end Go.Proofs.Qxb6001408a
