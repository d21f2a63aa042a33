import Derived.Test.Qxb6000405aWalk0
/-! FnVictimsInOrderSortedSetOfVictims (7): the long way. -/
namespace Go.Proofs.Qxb6000405a
open Go.RowKit

/-- What lies in memory behind the call, and what the law says of it. -/
theorem after {w wa w1 w2 w3 : World} {ao1 ao2 : Option Addr} {nv nd cap1 cap2 : Nat} {zv zd : Nat → Int} {v3 : Value} (hS : Same w wa)
    (h1 : w1.ownsRow wa.heap.size 21 1 (.slice ao1 nv cap1) nv ((rowv zv nv).map (Value.int .i32)) ∧ wa.grownBy w1 none)
    (h2 : w2.ownsRow w1.heap.size 21 1 (.slice ao2 nd cap2) nd ((rowv zd nd).map (Value.int .i32)) ∧ w1.grownBy w2 none)
    (h3 : w3.ownsRow w2.heap.size 21 1 v3 (pick zv nv zd nd).length ((pick zv nv zd nd).map (Value.int .i32))) (hg3 : w2.grownBy w3 none)
    (hasc : ∀ q, q + 1 < nd → zd q < zd (q + 1)) (hin : ∀ j, j < nv → ∃ i, i < nd ∧ zd i = zv j) :
    ∃ ao3 m cap3, v3 = .slice ao3 m cap3 ∧ m ≤ nd ∧ ∃ zr : Nat → Int, Hid (Rd w3 ao3 m zr) ∧ Hid (Rd w3 ao1 nv zv) ∧ Hid (∀ i, i + 1 < m → zr i < zr (i + 1)) ∧ Hid (∀ j, j < nv → ∃ i, i < m ∧ zr i = zv j) ∧
      Hid (∀ i, i < m → ∃ j, j < nv ∧ zv j = zr i) ∧ Hid (Below w.heap.size w w3) := by
  obtain ⟨ao3, cap3, rfl, _⟩ := own_form h3
  have hg : wa.grownBy w3 none := grown_trans (grown_trans h1.2 h2.2 (fun _ h => by cases h)) hg3 (fun _ h => by cases h)
  refine ⟨ao3, _, cap3, rfl, pick_length zv nv zd nd, fun i => (pick zv nv zd nd).getD i 0, Rd.of_bs (Bs.of_own h3), Rd.of_rowv (Bs.of_own (own_below (own_below h1.1 h2.2) hg3)), pick_asc hasc, pick_all hin, fun i hi => pick_only i hi, ?_⟩
  refine (hS.below _).trans ((grown_below hg).mono ?_)
  rw [hS.1]
  exact Nat.le_refl _

set_option maxRecDepth 100000 in
set_option maxHeartbeats 4000000 in
theorem long (a0 a1 : Option Addr) (nv c0 nd c1 pn : Nat) (zv zd : Nat → Int) (w : World) (hv : Rd w a0 nv zv) (hd : Rd w a1 nd zd) (e0 : a0 = none → nv = 0) (e1 : a1 = none → nd = 0)
    (hlen : nv + nd ≤ 1048576) (h4 : 4 * ((nv : Int) + (nd : Int)) ≤ 1048576) (h5 : (nv : Int) ≤ 4096) (h6 : (nd : Int) ≤ 4096) (h8 : (pn : Int) ≤ 65536) (g1 : ∀ i, i < nv → 0 ≤ zv i ∧ zv i < (pn : Int)) (g2 : ∀ i, i < nd → 0 ≤ zd i ∧ zd i < (pn : Int)) :
    Calls Try.prog 7 #[.slice a0 nv c0, .slice a1 nd c1, .int .i64 (pn : Int)] w fun e w' => e = .returned (.bool true) ∧ Below w.heap.size w w' := by
  have HV : Hid (Rd w a0 nv zv ∧ (a0 = none → nv = 0)) := ⟨hv, e0⟩
  have HD : Hid (Rd w a1 nd zd ∧ (a1 = none → nd = 0)) := ⟨hd, e1⟩
  have G1 := hidP g1
  have G2 := hidP g2
  have l0 : (nv : Int) ≤ 1048576 := by omega
  have l1 : (nd : Int) ≤ 1048576 := by omega
  clear hv hd e0 e1 g1 g2
  go_enter Try.func7, Try.ntmps7
  go_wp2_with (first | (go_at_call 19; refine (z19_yes _ _ _ _ _ _ _ _ hlen).mono ?_; rintro e w' ⟨rfl, rfl⟩) | fail)
  refine (all20_yes a0 nv _ zv _ _ (by omega) (by omega) HV.out.1 G1.out).mono ?_
  rintro e w' ⟨rfl, rfl⟩
  go_wp2_with fail
  refine (all20_yes a1 nd _ zd _ _ (by omega) (by omega) HD.out.1 G2.out).mono ?_
  rintro e w' ⟨rfl, rfl⟩
  go_wp2
  go_loopw [7] (fun i wr => ∃ j : Nat, (j = 0 ∨ j < nd) ∧ i = .int .i64 ((j : Int) + 1) ∧ Hid (∀ q, q < j → zd q < zd (q + 1)) ∧ Hid (Same w wr)) (fun i _ => nd + 1 - (intOf i).toNat)
  case atStart => exact ⟨0, .inl rfl, rfl, fun q hq => by omega, Same.refl _⟩
  case round =>
    obtain ⟨j, hj, rfl, HJ, HS⟩ := hrel
    by_cases hlt : j + 1 < nd
    · obtain ⟨b, o, rfl, hc⟩ := HD.out.1 (by omega)
      have d1 := HS.out.cell (hc j (by omega))
      have d2 := HS.out.cell (hc (j + 1) hlt)
      have hk0 : (0 : Int) ≤ (j : Int) := by omega
      have hk1 : (j : Int) + 1 < (nd : Int) := by omega
      clear hc
      by_cases hge : zd (j + 1) ≤ zd j
      · go_wp2
        go_quiet (fail)
        go_wp2
        go_ret
        exact ⟨rfl, (HS.out.drewN _).below _⟩
      · go_wp2
        go_quiet (fail)
        go_wp2
        go_roundw
        case rel =>
          refine ⟨j + 1, .inr hlt, by go_num, fun q hq => ?_, HS.out.drewN _⟩
          by_cases hqj : q < j
          · exact HJ.out q hqj
          · obtain rfl : q = j := by omega
            omega
        case measure => simp [intOf]; omega
    · have HASC : Hid (∀ q, q + 1 < nd → zd q < zd (q + 1)) := fun q hq => HJ.out q (by omega)
      obtain ⟨wa, rfl⟩ : ∃ wa, wa = wr := ⟨wr, rfl⟩
      have HVa : Hid (Rd wa a0 nv zv) := HS.out.rd HV.out.1
      have HDa : Hid (Rd wa a1 nd zd) := HS.out.rd HD.out.1
      clear HJ
      go_wp2
      go_loop [80, 9] (fun i _ => ∃ k : Nat, k ≤ nv ∧ i = .int .i64 k ∧ Hid (∀ j, j < k → ∃ i, i < nd ∧ zd i = zv j)) (fun i _ => nv - (intOf i).toNat)
      case atStart => exact ⟨0, Nat.zero_le _, rfl, fun j hj => by omega⟩
      case round =>
        obtain ⟨k, hk, rfl, HK⟩ := hrel
        by_cases hkn : k < nv
        · obtain ⟨b, o, rfl, hc⟩ := HVa.out (by omega)
          have d1 := hc k hkn
          have hkk : (k : Int) < (nv : Int) := by omega
          clear hc
          by_cases hh : ∃ i, i < nd ∧ zd i = zv k
          · have HH := hidP hh
            clear hh
            go_wp2_with (go_at_call 21; refine (has21_yes a1 nd _ zd (zv k) _ (by omega) HDa.out HH.out).mono ?_; rintro e w' ⟨rfl, rfl⟩)
            go_round
            case rel =>
              refine ⟨k + 1, by omega, by go_num, fun j hj => ?_⟩
              by_cases hjk : j < k
              · exact HK.out j hjk
              · obtain rfl : j = k := by omega
                exact HH.out
            case measure => simp [intOf]; omega
          · have HH := hidP hh
            clear hh
            go_wp2_with (go_at_call 21; refine (has21_no a1 nd _ zd (zv k) _ (by omega) HDa.out HH.out).mono ?_; rintro e w' ⟨rfl, rfl⟩)
            go_ret
            exact ⟨rfl, HS.out.below _⟩
        · have HIN : Hid (∀ j, j < nv → ∃ i, i < nd ∧ zd i = zv j) := fun j hj => HK.out j (by omega)
          clear HK
          go_wp2_with fail
          refine (clone_any a0 nv _ zv _ HV.out.2 HVa.out (by omega)).mono ?_
          rintro e w1 ⟨ao1, cap1, rfl, hown1, hg1⟩
          have HO1 : Hid (_ ∧ _) := ⟨hown1, hg1⟩
          clear hown1 hg1
          go_wp2_with fail
          refine (clone_any a1 nd _ zd _ HD.out.2 (HDa.out.kept HO1.out.2 (fun _ _ => by simp)) (by omega)).mono ?_
          rintro e w2 ⟨ao2, cap2, rfl, hown2, hg2⟩
          have HO2 : Hid (_ ∧ _) := ⟨hown2, hg2⟩
          clear hown2 hg2
          go_wp2_with fail
          refine (vio22 ao1 ao2 nv cap1 nd cap2 pn zv zd w2 (Rd.of_rowv (Bs.of_own (own_below HO1.out.1 HO2.out.2))) (Rd.of_rowv (Bs.of_own HO2.out.1)) (by omega) (by omega) (by omega) G1.out G2.out).mono ?_
          rintro e w3 ⟨v3, rfl, hown3, hg3⟩
          obtain ⟨ao3, m, cap3, rfl, hm, zr, HR, HRV, HA1, HA2, HA3, HBel⟩ := after HS.out HO1.out HO2.out hown3 hg3 HASC.out HIN.out
          clear HO1 HO2 hown3 hg3 HASC HIN HVa HDa HV HD HS G1 G2
          go_wp2
          go_loopw [11] (fun i wr => ∃ j : Nat, (j = 0 ∨ j < m) ∧ i = .int .i64 ((j : Int) + 1) ∧ Hid (Same w3 wr)) (fun i _ => m + 1 - (intOf i).toNat)
          case atStart => exact ⟨0, .inl rfl, rfl, Same.refl _⟩
          case round =>
            obtain ⟨j, hj, rfl, HS⟩ := hrel
            by_cases hlt : j + 1 < m
            · obtain ⟨b, o, rfl, hc⟩ := HR.out (by omega)
              have d1 := HS.out.cell (hc j (by omega))
              have d2 := HS.out.cell (hc (j + 1) hlt)
              have hk0 : (0 : Int) ≤ (j : Int) := by omega
              have hk1 : (j : Int) + 1 < (m : Int) := by omega
              have hge : zr j < zr (j + 1) := HA1.out j hlt
              clear hc
              go_wp2
              go_quiet (fail)
              go_wp2
              go_roundw
              case rel => exact ⟨j + 1, .inr hlt, by go_num, HS.out.drewN _⟩
              case measure => simp [intOf]; omega
            · obtain ⟨wb, rfl⟩ : ∃ wb, wb = wr := ⟨wr, rfl⟩
              have HRb : Hid (Rd wb ao3 m zr) := HS.out.rd HR.out
              have HVb : Hid (Rd wb ao1 nv zv) := HS.out.rd HRV.out
              go_wp2
              go_loop [115, 13] (fun i _ => ∃ k : Nat, k ≤ nv ∧ i = .int .i64 k) (fun i _ => nv - (intOf i).toNat)
              case atStart => exact ⟨0, Nat.zero_le _, rfl⟩
              case round =>
                obtain ⟨k, hk, rfl⟩ := hrel
                by_cases hkn : k < nv
                · obtain ⟨b, o, rfl, hc⟩ := HVb.out (by omega)
                  have d1 := hc k hkn
                  have hkk : (k : Int) < (nv : Int) := by omega
                  clear hc
                  go_wp2_with (go_at_call 21; refine (has21_yes ao3 m _ zr (zv k) _ (by omega) HRb.out (HA2.out k hkn)).mono ?_; rintro e w' ⟨rfl, rfl⟩)
                  go_round
                  case rel => exact ⟨k + 1, by omega, by go_num⟩
                  case measure => simp [intOf]; omega
                · go_wp2
                  go_loop [126, 15] (fun i _ => ∃ k : Nat, k ≤ m ∧ i = .int .i64 k) (fun i _ => m - (intOf i).toNat)
                  case atStart => exact ⟨0, Nat.zero_le _, rfl⟩
                  case round =>
                    obtain ⟨k, hk, rfl⟩ := hrel
                    by_cases hkm : k < m
                    · obtain ⟨b, o, rfl, hc⟩ := HRb.out (by omega)
                      have d1 := hc k hkm
                      have hkk : (k : Int) < (m : Int) := by omega
                      clear hc
                      go_wp2_with (go_at_call 21; refine (has21_yes ao1 nv _ zv (zr k) _ (by omega) HVb.out (HA3.out k hkm)).mono ?_; rintro e w' ⟨rfl, rfl⟩)
                      go_round
                      case rel => exact ⟨k + 1, by omega, by go_num⟩
                      case measure => simp [intOf]; omega
                    · go_wp2
                      go_ret
                      exact ⟨rfl, HBel.out.trans (HS.out.below _)⟩

end Go.Proofs.Qxb6000405a
