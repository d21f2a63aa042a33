import Derived.Test.Qxb6601683aDigLaw
import Derived.Deep.QuietTactic
import Derived.BigQuiet
/-! FnAppendDigitsReadsNibblesToTerminator (4), zzBytes (10). -/
namespace Go.Proofs.Qxb6601683a.reads
open Go.RowKit

set_option maxHeartbeats 400000 in
theorem z10_yes (a0 a1 : Option Addr) (n0 c0 n1 c1 : Nat) (w : World) (h : n0 + n1 ≤ 1048576) :
    Calls Try.prog 10 #[.slice a0 n0 c0, .slice a1 n1 c1] w fun e w' => e = .returned (.bool true) ∧ w = w' := by
  have h0 : (n0 : Int) ≤ 1048576 := by omega
  have h1 : (n1 : Int) ≤ 1048576 := by omega
  have h2 : (n0 : Int) + (n1 : Int) ≤ 1048576 := by omega
  go_enter Try.func10, Try.ntmps10
  go_wp2
  go_ret
  exact ⟨rfl, rfl⟩

set_option maxHeartbeats 400000 in
theorem z10_no (a0 a1 : Option Addr) (n0 c0 n1 c1 : Nat) (w : World) (b0 : n0 ≤ 9223372036854775807) (b1 : n1 ≤ 9223372036854775807) (h : ¬ n0 + n1 ≤ 1048576) :
    Calls Try.prog 10 #[.slice a0 n0 c0, .slice a1 n1 c1] w fun e w' => e = .returned (.bool false) ∧ w = w' := by
  by_cases h0 : (1048576 : Int) < (n0 : Int)
  · go_enter Try.func10, Try.ntmps10
    go_wp2
    go_ret
    exact ⟨rfl, rfl⟩
  by_cases h1 : (1048576 : Int) < (n1 : Int)
  · go_enter Try.func10, Try.ntmps10
    go_wp2
    go_ret
    exact ⟨rfl, rfl⟩
  have h2 : (1048576 : Int) < (n0 : Int) + (n1 : Int) := by omega
  go_enter Try.func10, Try.ntmps10
  go_wp2
  go_ret
  exact ⟨rfl, rfl⟩

/-- The same memory (a draw or more may lie between). -/
def Same (w w' : World) : Prop := w'.heap = w.heap ∧ w'.os = w.os ∧ w'.tape = w.tape ∧ w'.output = w.output
theorem Same.refl (w : World) : Same w w := ⟨rfl, rfl, rfl, rfl⟩
theorem Same.cell {w w' : World} (h : Same w w') {a : Addr} {u : Value} (hu : w.cell? a = some u) : w'.cell? a = some u := by
  rw [← hu]; exact World.cell?_of_block (by rw [h.1])
theorem Same.drewN {w w' : World} (h : Same w w') (n : Nat) : Same w (w'.drewN n) := h
theorem Same.below {w w' : World} (h : Same w w') (B : Nat) : Below B w w' := ⟨h.2.1, h.2.2.1, h.2.2.2, by rw [h.1]; exact Nat.le_refl _, fun k _ => by rw [h.1]⟩

/-- Where there is an element there is an address, and the elements are z. -/
def Rd (w : World) (ao : Option Addr) (n : Nat) (z : Nat → Int) : Prop := 0 < n → ∃ b o, ao = some ⟨b, o, none⟩ ∧ ∀ i, i < n → w.cell? ⟨b, o + i, none⟩ = some (.int .u8 (z i))

theorem Rd.of_bs {w : World} {ao : Option Addr} {n : Nat} {ys : List Int} (h : Bs w ao n ys) : Rd w ao n (fun i => ys.getD i 0) := fun hn => h.at hn

theorem slice_tail (ao : Option Addr) (n m cap : Nat) (w : World) : (Instr.slice 25 (.slice ao (n + m) cap) (some (.int .i64 (n : Int))) none none).run Try.prog w = .ok (.slice (if cap = n then ao else ao.map (·.add n)) m (cap - n)) w := by
  have hu : Try.prog.underlying 25 = some (.slice (Try.prog.elem 25)) := by rw [Try.underlying25]; kernel_rfl
  rw [run_slice_l (P := Try.prog) w 25 ao (n + m) cap hu .i64 (n : Int) (by omega) (by omega)]
  have hsz : (sizeOf (Try.prog.elem 25)).run Try.prog w = .ok 1 w := by kernel_rfl
  rw [hsz]
  simp [Result.andThen, sliced]

theorem Rd.tail {w : World} {ao : Option Addr} {n m cap : Nat} {z : Nat → Int} (h : Rd w ao (n + m) z) (hc : n + m ≤ cap) : Rd w (if cap = n then ao else ao.map (·.add n)) m (fun j => z (n + j)) := by
  intro hm
  obtain ⟨b, o, rfl, hcell⟩ := h (by omega)
  refine ⟨b, o + n, ?_, fun i hi => ?_⟩
  · rw [if_neg (by omega)]; simp [Addr.add_lit]
  · rw [Nat.add_assoc]; exact hcell (n + i) (by omega)

/-- What lies in memory behind the call of appendDigits. -/
theorem after12 {W w1 w2 w3 w4 : World} {ao1 ao2 ao3 : Option Addr} {n nv cap1 cap2 cap3 : Nat} {ds ys : List Int} {v4 : Value}
    (h1 : w1.ownsRow W.heap.size 5 1 (.slice ao1 n cap1) n (ds.map (Value.int .u8)) ∧ W.grownBy w1 none)
    (h2 : w2.ownsRow w1.heap.size 5 1 (.slice ao2 nv cap2) nv (ys.map (Value.int .u8)) ∧ w1.grownBy w2 none)
    (h3 : w3.ownsRow w2.heap.size 5 1 (.slice ao3 n cap3) n (ds.map (Value.int .u8)) ∧ w2.grownBy w3 none)
    (h4 : w4.ownsRow W.heap.size 5 1 v4 (n + (digs ys).length) ((ds ++ digs ys).map (Value.int .u8))) (ha : App w3 w4 (.slice ao1 n cap1) v4) :
    ∃ ao4 cap4 m, v4 = .slice ao4 (n + m) cap4 ∧ Hid (m = (digs ys).length) ∧ ∃ zg zt : Nat → Int, Hid (Rd w4 ao4 (n + m) zg) ∧ Hid (Rd w4 ao3 n zg) ∧ Hid (∀ j, j < m → zt j = (digs ys).getD j 0) ∧
      (∃ ta ct, (∀ w, (Instr.slice 25 (.slice ao4 (n + m) cap4) (some (.int .i64 (n : Int))) none none).run Try.prog w = .ok (.slice ta m ct) w) ∧ Hid (Rd w4 ta m zt)) ∧
      Hid (Rd w4 ao2 nv (fun i => ys.getD i 0)) ∧ Hid (Below W.heap.size W w4) := by
  have s1 := h1.2.size
  have s2 := h2.2.size
  have s3 := h3.2.size
  have hlds : ds.length = n := by simpa using h1.1.1
  have hrow : ∀ k, (Value.slice ao1 n cap1).ownBlock = some k → W.heap.size ≤ k ∧ k < w1.heap.size := h1.1.lt
  obtain ⟨ao4, cap4, rfl, hc4⟩ := own_form h4
  have hr4 := Rd.of_bs (Bs.of_own h4)
  refine ⟨ao4, cap4, (digs ys).length, rfl, rfl, fun i => (ds ++ digs ys).getD i 0, fun j => (ds ++ digs ys).getD (n + j) 0, hr4, ?_, ?_, ⟨_, _, fun w => slice_tail ao4 n _ cap4 w, hr4.tail hc4⟩, ?_, ?_⟩
  · have hb := (Bs.of_own h3.1).kept ha.1 (fun x hx e => by
      subst hx
      have e1 := hrow _ e.symm
      have e2 := (h3.1.lt x.block rfl).1
      omega)
    intro hpos
    obtain ⟨pb, qb, rfl, hc⟩ := hb.at hpos
    refine ⟨pb, qb, rfl, fun i hi => ?_⟩
    rw [hc i hi]
    simp [List.getD, List.getElem?_append_left (show i < ds.length by omega)]
  · intro j _
    simp [List.getD, List.getElem?_append_right (show ds.length ≤ n + j by omega), hlds]
  · exact Rd.of_bs (((Bs.of_own h2.1).below h3.2).kept ha.1 (fun x hx e => by
      subst hx
      have e1 := hrow _ e.symm
      have e2 := (h2.1.lt x.block rfl).1
      omega))
  · have hg : W.grownBy w4 none := grown_trans (grown_trans (grown_trans h1.2 h2.2 (fun _ h => by cases h)) h3.2 (fun _ h => by cases h)) ha.1 (fun k hk => .inr (hrow k hk).1)
    exact grown_below hg

theorem nibx (b o i n cap : Nat) (c x : Int) (w : World) (hi : i < 2 * n) (hn : n ≤ 1048576) (hc : w.cell? ⟨b, o + i / 2, none⟩ = some (.int .u8 c)) (h0 : 0 ≤ c) (h1 : c ≤ 255) (hx : (if i % 2 = 0 then c % 16 else c / 16) = x) :
    Calls Try.prog 14 #[.slice (some ⟨b, o, none⟩) n cap, .int .i64 i] w fun e w' => e = .returned (.int .i64 x) ∧ w' = w := by
  subst hx
  exact nib14 b o i n cap c w hi hn hc h0 h1

theorem each {ys : List Int} {j : Nat} {z : Int} (hb : ∀ k, 0 ≤ ys.getD k 0 ∧ ys.getD k 0 ≤ 255) (hj : j < (digs ys).length) (hz : z = (digs ys).getD j 0) :
    0 ≤ z ∧ z ≤ 255 ∧ ∃ x, 0 ≤ x ∧ tb z = x ∧ Hid ((if j % 2 = 0 then ys.getD (j / 2) 0 % 16 else ys.getD (j / 2) 0 / 16) = x) := by
  obtain ⟨⟨h1, h2⟩, h3, h4⟩ := digs_get ys hb j hj
  rw [← hz] at h1 h2 h3
  exact ⟨h1, h2, _, h4, h3, rfl⟩

set_option maxRecDepth 100000 in
set_option maxHeartbeats 4000000 in
theorem walk (a0 a1 : Option Addr) (n c0 nv c1 : Nat) (ds ys : List Int) (w : World) (hds : Bs w a0 n ds) (hys : Bs w a1 nv ys) (hb : ∀ k, 0 ≤ ys.getD k 0 ∧ ys.getD k 0 ≤ 255) (b0 : n ≤ 9223372036854775807) (b1 : nv ≤ 9223372036854775807) :
    Calls Try.prog 4 #[.slice a0 n c0, .slice a1 nv c1] w fun e w' => e = .returned (.bool true) ∧ Below w.heap.size w w' := by
  by_cases hlen : n + nv ≤ 1048576
  rotate_left
  · go_enter Try.func4, Try.ntmps4
    go_wp2_with (go_at_call 10; refine (z10_no _ _ _ _ _ _ _ b0 b1 hlen).mono ?_; rintro e w' ⟨rfl, rfl⟩)
    go_ret
    exact ⟨rfl, Below.refl _ _⟩
  clear b0 b1
  have l0 : (n : Int) ≤ 1048576 := by omega
  have l1 : (nv : Int) ≤ 1048576 := by omega
  have l2 : (n : Int) + (nv : Int) ≤ 1048576 := by omega
  have HD : Hid (Bs w a0 n ds ∧ Bs w a1 nv ys) := ⟨hds, hys⟩
  have HB : Hid (∀ k, 0 ≤ ys.getD k 0 ∧ ys.getD k 0 ≤ 255) := hb
  have HL : Hid (ys.length = nv) := hys.1
  clear hds hys hb
  go_enter Try.func4, Try.ntmps4
  go_wp2_with (first | (go_at_call 10; refine (z10_yes _ _ _ _ _ _ _ hlen).mono ?_; rintro e w' ⟨rfl, rfl⟩) | fail)
  refine (clone_any _ _ _ ds _ HD.out.1 (by omega)).mono ?_
  rintro e w1 ⟨ao1, cap1, rfl, hown1, hg1⟩
  have HO1 : Hid (_ ∧ _) := ⟨hown1, hg1⟩
  clear hown1 hg1
  go_wp2_with fail
  refine (clone_any _ _ _ ys _ (HD.out.2.below HO1.out.2) (by omega)).mono ?_
  rintro e w2 ⟨ao2, cap2, rfl, hown2, hg2⟩
  have HO2 : Hid (_ ∧ _) := ⟨hown2, hg2⟩
  clear hown2 hg2
  go_wp2_with fail
  refine (clone_any _ _ _ ds _ ((Bs.of_own HO1.out.1).below HO2.out.2) (by omega)).mono ?_
  rintro e w3 ⟨ao3, cap3, rfl, hown3, hg3⟩
  have HO3 : Hid (_ ∧ _) := ⟨hown3, hg3⟩
  clear hown3 hg3
  go_wp2_with fail
  refine (dig12 _ w.heap.size n ds _ nv _ ys w3 (by have h1 := HO1.out.2.size; have h2 := HO2.out.2.size; have h3 := HO3.out.2.size; omega) (own_below (own_below HO1.out.1 HO2.out.2) HO3.out.2) ((Bs.of_own HO2.out.1).below HO3.out.2) HB.out ?_ (by omega) (by omega)).mono ?_
  · intro x hx e
    subst hx
    have e1 := (HO1.out.1.lt x.block e.symm).2
    have e2 := (HO2.out.1.lt x.block rfl).1
    omega
  rintro e w4 ⟨v4, rfl, hown4, happ4⟩
  obtain ⟨ao4, cap4, m, rfl, HM, zg, zt, HG, HB4, HZ, ⟨ta, ct, hsl, HT⟩, HV, HBel⟩ := after12 HO1.out HO2.out HO3.out hown4 happ4
  have hm2 : m ≤ 2 * nv := by rw [HM.out, ← HL.out]; exact digs_len ys
  have hm3 : (m : Int) ≤ 2 * (nv : Int) := by omega
  clear HO1 HO2 HO3 hown4 happ4 HD
  go_wp2
  go_loopw [7] (fun i wr => ∃ k : Nat, k ≤ n ∧ i = .int .i64 k ∧ Hid (Same w4 wr)) (fun i _ => n - (intOf i).toNat)
  case atStart => exact ⟨0, Nat.zero_le _, rfl, Same.refl _⟩
  case round =>
    obtain ⟨k, hk, rfl, HS⟩ := hrel
    by_cases hlt : k < n
    · obtain ⟨b, o, rfl, hc⟩ := HG.out (by omega)
      obtain ⟨pb, qb, rfl, hc2⟩ := HB4.out (by omega)
      have d1 := HS.out.cell (hc k (by omega))
      have d2 := HS.out.cell (hc2 k hlt)
      have hk0 : (0 : Int) ≤ (k : Int) := by omega
      have hk1 : (k : Int) < (n : Int) := by omega
      have hk2 : (k : Int) < ((n + m : Nat) : Int) := by omega
      clear hc hc2 hsl
      go_wp2
      go_quiet (fail)
      go_wp2
      go_roundw
      case rel => exact ⟨k + 1, by omega, by go_num, HS.out.drewN _⟩
      case measure => simp [intOf]; omega
    · clear HG HB4
      go_wp2
      go_loop [9, 10] (fun i _ => ∃ j : Nat, j ≤ m ∧ i = .int .i64 j) (fun i _ => m - (intOf i).toNat)
      case atStart => exact ⟨0, Nat.zero_le _, rfl⟩
      case round =>
        clear hsl
        obtain ⟨j, hj, rfl⟩ := hrel
        by_cases hjm : j < m
        · obtain ⟨b, o, rfl, hc⟩ := HT.out (by omega)
          obtain ⟨pv, qv, rfl, hcv⟩ := HV.out (by omega)
          have d1 := HS.out.cell (hc j hjm)
          have HDV : Hid (wr.cell? ⟨pv, qv + j / 2, none⟩ = some (.int .u8 (ys.getD (j / 2) 0))) := HS.out.cell (hcv (j / 2) (by omega))
          obtain ⟨hz0, hz1, x, hx0, hxt, Hxn⟩ := each HB.out (by rw [← HM.out]; exact hjm) (HZ.out j hjm)
          have hjj : (j : Int) < (m : Int) := by omega
          clear hc hcv
          go_wp2_with (first | (go_at_call 13; refine (tb13 _ _ hz0 hz1).mono ?_; rintro e w' ⟨rfl, rfl⟩) | (go_at_call 14; refine (nibx pv qv j nv _ (ys.getD (j / 2) 0) x _ (by omega) (by omega) HDV.out (HB.out _).1 (HB.out _).2 Hxn.out).mono ?_; rintro e w' ⟨rfl, rfl⟩))
          go_round
          case rel => exact ⟨j + 1, by omega, by go_num⟩
          case measure => simp [intOf]; omega
        · by_cases hfin : m < 2 * nv
          · obtain ⟨pv, qv, rfl, hcv⟩ := HV.out (by omega)
            have HDV : Hid (wr.cell? ⟨pv, qv + m / 2, none⟩ = some (.int .u8 (ys.getD (m / 2) 0))) := HS.out.cell (hcv (m / 2) (by omega))
            have H15 : Hid ((if m % 2 = 0 then ys.getD (m / 2) 0 % 16 else ys.getD (m / 2) 0 / 16) = 15) := by
              have := digs_stop15 ys (by rw [← HM.out, HL.out]; exact hfin)
              rw [← HM.out] at this
              exact this
            have hf : (m : Int) < 2 * (nv : Int) := by omega
            clear hcv
            go_wp2_with (go_at_call 14; refine (nibx pv qv m nv _ (ys.getD (m / 2) 0) 15 _ hfin (by omega) HDV.out (HB.out _).1 (HB.out _).2 H15.out).mono ?_; rintro e w' ⟨rfl, rfl⟩)
            go_ret
            exact ⟨rfl, HBel.out.trans (HS.out.below _)⟩
          · have hf : ¬ (m : Int) < 2 * (nv : Int) := by omega
            go_wp2
            go_ret
            exact ⟨rfl, HBel.out.trans (HS.out.below _)⟩

end Go.Proofs.Qxb6601683a.reads
