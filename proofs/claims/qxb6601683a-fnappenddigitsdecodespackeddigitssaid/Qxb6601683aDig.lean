import Derived.Test.Qxb6601683aClone
import Derived.Deep.AppendLies
/-! appendDigits (21), ZZAppendDigits (12), tbcdValue (13), nibbleAt (14). -/
namespace Go.Proofs.Qxb6601683a
open Go.RowKit

theorem ret_i {k : IntKind} {a b : Int} (h : a = b) : Ending.returned (.int k a) = .returned (.int k b) := by rw [h]

set_option maxHeartbeats 400000 in
theorem nib14 (b o i n cap : Nat) (c : Int) (w : World) (hi : i < 2 * n) (hn : n ≤ 1048576) (hc : w.cell? ⟨b, o + i / 2, none⟩ = some (.int .u8 c)) (h0 : 0 ≤ c) (h1 : c ≤ 255) :
    Calls Try.prog 14 #[.slice (some ⟨b, o, none⟩) n cap, .int .i64 i] w fun e w' => e = .returned (.int .i64 (if i % 2 = 0 then c % 16 else c / 16)) ∧ w' = w := by
  by_cases hp : i % 2 = 0
  · go_enter Try.func14, Try.ntmps14
    go_wp2
    go_ret
    exact ⟨rfl, rfl⟩
  · go_enter Try.func14, Try.ntmps14
    go_wp2
    go_ret
    exact ⟨rfl, rfl⟩

/-- The value of a digit character. -/
def tb (c : Int) : Int := if 48 ≤ c ∧ c ≤ 57 then c - 48 else if c = 42 then 10 else if c = 35 then 11 else if c = 97 then 12 else if c = 98 then 13 else if c = 99 then 14 else -1

set_option maxHeartbeats 400000 in
theorem tb13 (c : Int) (w : World) (h0 : 0 ≤ c) (h1 : c ≤ 255) :
    Calls Try.prog 13 #[.int .u8 c] w fun e w' => e = .returned (.int .i64 (tb c)) ∧ w' = w := by
  go_enter Try.func13, Try.ntmps13
  go_wp2
  all_goals go_ret
  all_goals exact ⟨ret_i (by simp_all [tb] <;> omega), rfl⟩

/-- The digit character of a nibble. -/
def digC (n : Int) : Int := [48, 49, 50, 51, 52, 53, 54, 55, 56, 57, 42, 35, 97, 98, 99].getD n.toNat 0
/-- The nibbles of a row of octets, low nibble first. -/
def nibs : List Int → List Int
  | [] => []
  | z :: zs => z % 16 :: z / 16 :: nibs zs
/-- The digits up to the first nibble 15. -/
def digs (l : List Int) : List Int := ((nibs l).takeWhile (fun n => !(n == 15))).map digC

theorem nibs_append (a b : List Int) : nibs (a ++ b) = nibs a ++ nibs b := by
  induction a with
  | nil => rfl
  | cons z zs ih => simp [nibs, ih]
theorem nibs_length (a : List Int) : (nibs a).length = 2 * a.length := by
  induction a with
  | nil => rfl
  | cons z zs ih => simp [nibs, ih]; omega

theorem takeWhile_stop {p : Int → Bool} (a : List Int) (x : Int) (b : List Int) (ha : ∀ y ∈ a, p y = true) (hx : p x = false) : (a ++ x :: b).takeWhile p = a := by
  induction a with
  | nil => simp [hx]
  | cons y ys ih => simp [ha y (by simp), ih (fun z hz => ha z (by simp [hz]))]
theorem takeWhile_all {p : Int → Bool} (a : List Int) (ha : ∀ y ∈ a, p y = true) : a.takeWhile p = a := by
  induction a with
  | nil => rfl
  | cons y ys ih => simp [ha y (by simp), ih (fun z hz => ha z (by simp [hz]))]

theorem split_at (l : List Int) (k : Nat) (h : k < l.length) : l = l.take k ++ l.getD k 0 :: l.drop (k + 1) := by
  have : l.getD k 0 = l[k] := by simp [List.getD, h]
  rw [this, List.getElem_cons_drop, List.take_append_drop]

theorem digs_lo (l : List Int) (k : Nat) (h : k < l.length) (ha : ∀ y ∈ nibs (l.take k), y ≠ 15) (h15 : l.getD k 0 % 16 = 15) : digs l = (nibs (l.take k)).map digC := by
  unfold digs
  congr 1
  conv => lhs; rw [split_at l k h]
  rw [nibs_append, nibs]
  exact takeWhile_stop _ _ _ (fun y hy => by simpa using ha y hy) (by rw [h15]; rfl)
theorem digs_hi (l : List Int) (k : Nat) (h : k < l.length) (ha : ∀ y ∈ nibs (l.take k), y ≠ 15) (h1 : l.getD k 0 % 16 ≠ 15) (h15 : l.getD k 0 / 16 = 15) : digs l = (nibs (l.take k) ++ [l.getD k 0 % 16]).map digC := by
  unfold digs
  congr 1
  conv => lhs; rw [split_at l k h]
  rw [nibs_append, nibs]
  have := takeWhile_stop (p := fun n => !(n == 15)) (nibs (l.take k) ++ [l.getD k 0 % 16]) (l.getD k 0 / 16) (nibs (l.drop (k + 1))) (fun y hy => by
    rcases List.mem_append.1 hy with h2 | h2
    · simpa using ha y h2
    · simp at h2; subst h2; simpa using h1) (by rw [h15]; rfl)
  simpa using this
theorem digs_end (l : List Int) (k : Nat) (h : ¬ k < l.length) (ha : ∀ y ∈ nibs (l.take k), y ≠ 15) : digs l = (nibs (l.take k)).map digC := by
  have e : l.take k = l := List.take_of_length_le (by omega)
  rw [e] at ha ⊢
  unfold digs
  rw [takeWhile_all _ (fun y hy => by simpa using ha y hy)]
theorem nibs_step (l : List Int) (k : Nat) (h : k < l.length) : nibs (l.take (k + 1)) = nibs (l.take k) ++ [l.getD k 0 % 16, l.getD k 0 / 16] := by
  have : l.take (k + 1) = l.take k ++ [l.getD k 0] := by
    rw [List.take_succ_eq_append_getElem h]; simp [List.getD, h]
  rw [this, nibs_append]; rfl

/-- One of the two nibbles. -/
def nb (c : Int) (m : Nat) : Int := if m = 0 then c % 16 else c / 16

theorem ix44 (a b : Int) (m : Nat) (hm : m < 2) (w : World) : (Instr.index 44 (.agg #[.int .u8 a, .int .u8 b]) (.int .i64 (m : Int))).run Try.prog w = .ok (.int .u8 (if m = 0 then a else b)) w := by
  have i0 : (Instr.index 44 (.agg #[.int .u8 a, .int .u8 b]) (.int .i64 0)).run Try.prog w = .ok (.int .u8 a) w := by kernel_rfl
  have i1 : (Instr.index 44 (.agg #[.int .u8 a, .int .u8 b]) (.int .i64 1)).run Try.prog w = .ok (.int .u8 b) w := by kernel_rfl
  have h : m = 0 ∨ m = 1 := by omega
  rcases h with rfl | rfl
  · exact i0
  · exact i1

theorem ix9 (x : Int) (h0 : 0 ≤ x) (h1 : x < 15) (w : World) : (Instr.index 9 (.string { data := #[48, 49, 50, 51, 52, 53, 54, 55, 56, 57, 42, 35, 97, 98, 99] }) (.int .u8 x)).run Try.prog w = .ok (.int .u8 (digC x)) w := by
  have i0 : (Instr.index 9 (.string { data := #[48, 49, 50, 51, 52, 53, 54, 55, 56, 57, 42, 35, 97, 98, 99] }) (.int .u8 0)).run Try.prog w = .ok (.int .u8 48) w := by kernel_rfl
  have i1 : (Instr.index 9 (.string { data := #[48, 49, 50, 51, 52, 53, 54, 55, 56, 57, 42, 35, 97, 98, 99] }) (.int .u8 1)).run Try.prog w = .ok (.int .u8 49) w := by kernel_rfl
  have i2 : (Instr.index 9 (.string { data := #[48, 49, 50, 51, 52, 53, 54, 55, 56, 57, 42, 35, 97, 98, 99] }) (.int .u8 2)).run Try.prog w = .ok (.int .u8 50) w := by kernel_rfl
  have i3 : (Instr.index 9 (.string { data := #[48, 49, 50, 51, 52, 53, 54, 55, 56, 57, 42, 35, 97, 98, 99] }) (.int .u8 3)).run Try.prog w = .ok (.int .u8 51) w := by kernel_rfl
  have i4 : (Instr.index 9 (.string { data := #[48, 49, 50, 51, 52, 53, 54, 55, 56, 57, 42, 35, 97, 98, 99] }) (.int .u8 4)).run Try.prog w = .ok (.int .u8 52) w := by kernel_rfl
  have i5 : (Instr.index 9 (.string { data := #[48, 49, 50, 51, 52, 53, 54, 55, 56, 57, 42, 35, 97, 98, 99] }) (.int .u8 5)).run Try.prog w = .ok (.int .u8 53) w := by kernel_rfl
  have i6 : (Instr.index 9 (.string { data := #[48, 49, 50, 51, 52, 53, 54, 55, 56, 57, 42, 35, 97, 98, 99] }) (.int .u8 6)).run Try.prog w = .ok (.int .u8 54) w := by kernel_rfl
  have i7 : (Instr.index 9 (.string { data := #[48, 49, 50, 51, 52, 53, 54, 55, 56, 57, 42, 35, 97, 98, 99] }) (.int .u8 7)).run Try.prog w = .ok (.int .u8 55) w := by kernel_rfl
  have i8 : (Instr.index 9 (.string { data := #[48, 49, 50, 51, 52, 53, 54, 55, 56, 57, 42, 35, 97, 98, 99] }) (.int .u8 8)).run Try.prog w = .ok (.int .u8 56) w := by kernel_rfl
  have i9 : (Instr.index 9 (.string { data := #[48, 49, 50, 51, 52, 53, 54, 55, 56, 57, 42, 35, 97, 98, 99] }) (.int .u8 9)).run Try.prog w = .ok (.int .u8 57) w := by kernel_rfl
  have i10 : (Instr.index 9 (.string { data := #[48, 49, 50, 51, 52, 53, 54, 55, 56, 57, 42, 35, 97, 98, 99] }) (.int .u8 10)).run Try.prog w = .ok (.int .u8 42) w := by kernel_rfl
  have i11 : (Instr.index 9 (.string { data := #[48, 49, 50, 51, 52, 53, 54, 55, 56, 57, 42, 35, 97, 98, 99] }) (.int .u8 11)).run Try.prog w = .ok (.int .u8 35) w := by kernel_rfl
  have i12 : (Instr.index 9 (.string { data := #[48, 49, 50, 51, 52, 53, 54, 55, 56, 57, 42, 35, 97, 98, 99] }) (.int .u8 12)).run Try.prog w = .ok (.int .u8 97) w := by kernel_rfl
  have i13 : (Instr.index 9 (.string { data := #[48, 49, 50, 51, 52, 53, 54, 55, 56, 57, 42, 35, 97, 98, 99] }) (.int .u8 13)).run Try.prog w = .ok (.int .u8 98) w := by kernel_rfl
  have i14 : (Instr.index 9 (.string { data := #[48, 49, 50, 51, 52, 53, 54, 55, 56, 57, 42, 35, 97, 98, 99] }) (.int .u8 14)).run Try.prog w = .ok (.int .u8 99) w := by kernel_rfl
  have h : x = 0 ∨ x = 1 ∨ x = 2 ∨ x = 3 ∨ x = 4 ∨ x = 5 ∨ x = 6 ∨ x = 7 ∨ x = 8 ∨ x = 9 ∨ x = 10 ∨ x = 11 ∨ x = 12 ∨ x = 13 ∨ x = 14 := by omega
  rcases h with rfl | rfl | rfl | rfl | rfl | rfl | rfl | rfl | rfl | rfl | rfl | rfl | rfl | rfl | rfl
  · exact i0
  · exact i1
  · exact i2
  · exact i3
  · exact i4
  · exact i5
  · exact i6
  · exact i7
  · exact i8
  · exact i9
  · exact i10
  · exact i11
  · exact i12
  · exact i13
  · exact i14

theorem digC_bd (x : Int) (h0 : 0 ≤ x) (h1 : x < 15) : 0 ≤ digC x ∧ digC x ≤ 255 := by
  have h : x = 0 ∨ x = 1 ∨ x = 2 ∨ x = 3 ∨ x = 4 ∨ x = 5 ∨ x = 6 ∨ x = 7 ∨ x = 8 ∨ x = 9 ∨ x = 10 ∨ x = 11 ∨ x = 12 ∨ x = 13 ∨ x = 14 := by omega
  rcases h with rfl | rfl | rfl | rfl | rfl | rfl | rfl | rfl | rfl | rfl | rfl | rfl | rfl | rfl | rfl <;> decide

theorem nb_ite (c : Int) (m : Nat) : (if m = 0 then c % 16 else c / 16) = nb c m := rfl

theorem dig_start {w : World} {base n : Nat} {vd : Value} {ds ys : List Int} (h : w.ownsRow base 5 1 vd n (ds.map (Value.int .u8))) : Hid (w.ownsRow base 5 1 vd (n + 2 * 0) ((ds ++ (nibs (ys.take 0)).map digC).map (Value.int .u8))) := by
  show w.ownsRow _ _ _ _ _ _
  simpa [nibs] using h
theorem dig_inner {w : World} {base n k : Nat} {c : Int} {vd : Value} {ds ys : List Int} (h : w.ownsRow base 5 1 vd (n + 2 * k) ((ds ++ (nibs (ys.take k)).map digC).map (Value.int .u8))) : Hid (w.ownsRow base 5 1 vd (n + 2 * k + 0) ((ds ++ (nibs (ys.take k) ++ [c % 16, c / 16].take 0).map digC).map (Value.int .u8))) := by
  show w.ownsRow _ _ _ _ _ _
  simpa using h
/-- The terminator is met. -/
theorem dig_stop {ys : List Int} {k m n : Nat} {c : Int} {ds : List Int} (hk : k < ys.length) (ha : ∀ y ∈ nibs (ys.take k), y ≠ 15) (hm : m < 2) (hc : c = ys.getD k 0) (hM : ∀ i, i < m → nb c i ≠ 15) (h15 : nb c m = 15) :
    n + (digs ys).length = n + 2 * k + m ∧ ds ++ digs ys = ds ++ (nibs (ys.take k) ++ [c % 16, c / 16].take m).map digC := by
  have hm' : m = 0 ∨ m = 1 := by omega
  rcases hm' with rfl | rfl
  · have e := digs_lo ys k hk ha (by rw [← hc]; simpa [nb] using h15)
    rw [e]
    refine ⟨?_, by simp⟩
    rw [List.length_map, nibs_length, List.length_take]; omega
  · have e := digs_hi ys k hk ha (by rw [← hc]; simpa [nb] using hM 0 (by omega)) (by rw [← hc]; simpa [nb] using h15)
    rw [e, ← hc]
    refine ⟨?_, by simp⟩
    rw [List.length_map, List.length_append, nibs_length, List.length_take]; simp; omega

theorem hidC {p : Prop} (h : p) : Hid p := h
theorem hidA {w w' : World} {v v' : Value} (h : App w w' v v') : Hid (App w w' v v') := h
theorem dig_more {w3 : World} {base n k m g cap : Nat} {c x : Int} {ds l : List Int} (hm : m < 2) (hx : x = nb c m)
    (h : w3.ownsRow base 5 1 (.slice (some ⟨g, 0, none⟩) (n + 2 * k + m + 1) cap) (n + 2 * k + m + 1) ((ds ++ (l ++ [c % 16, c / 16].take m).map digC).map (Value.int .u8) ++ [.int .u8 (digC x)])) :
    Hid (w3.ownsRow base 5 1 (.slice (some ⟨g, 0, none⟩) (n + 2 * k + m + 1) cap) (n + 2 * k + (m + 1)) ((ds ++ (l ++ [c % 16, c / 16].take (m + 1)).map digC).map (Value.int .u8))) := by
  show w3.ownsRow _ _ _ _ _ _
  have hm' : m = 0 ∨ m = 1 := by omega
  rcases hm' with rfl | rfl
  · subst hx
    simpa [nb] using h
  · subst hx
    simpa [nb] using h
theorem nibs_ne {ys : List Int} {k : Nat} {c : Int} (hk : k < ys.length) (hc : c = ys.getD k 0) (h : ∀ y ∈ nibs (ys.take k), y ≠ 15) (hM : ∀ i, i < 2 → nb c i ≠ 15) : Hid (∀ y ∈ nibs (ys.take (k + 1)), y ≠ 15) := by
  intro y hy
  rw [nibs_step ys k hk, ← hc] at hy
  rcases List.mem_append.1 hy with h1 | h1
  · exact h y h1
  · simp at h1
    rcases h1 with rfl | rfl
    · simpa [nb] using hM 0 (by omega)
    · simpa [nb] using hM 1 (by omega)
theorem dig_next {w3 : World} {base n k : Nat} {v : Value} {c : Int} {ds ys : List Int} (hk : k < ys.length) (hc : c = ys.getD k 0)
    (h : w3.ownsRow base 5 1 v (n + 2 * k + 2) ((ds ++ (nibs (ys.take k) ++ [c % 16, c / 16].take 2).map digC).map (Value.int .u8))) :
    Hid (w3.ownsRow base 5 1 v (n + 2 * (k + 1)) ((ds ++ (nibs (ys.take (k + 1))).map digC).map (Value.int .u8))) := by
  show w3.ownsRow _ _ _ _ _ _
  rw [nibs_step ys k hk, ← hc]
  exact h

set_option maxRecDepth 100000 in
set_option maxHeartbeats 2000000 in
/-- appendDigits: dst, then the digits of v up to the first nibble 15. -/
theorem dig21 (vd : Value) (base n : Nat) (ds : List Int) (av : Option Addr) (nv cv : Nat) (ys : List Int) (w : World) (hbase : base ≤ w.heap.size) (hown : w.ownsRow base 5 1 vd n (ds.map (Value.int .u8)))
    (hv : Bs w av nv ys) (hb : ∀ k, 0 ≤ ys.getD k 0 ∧ ys.getD k 0 ≤ 255) (hne : ∀ x, av = some x → some x.block ≠ vd.ownBlock) (hn : n ≤ 1048576) (hnv : nv ≤ 2097152) :
    Calls Try.prog 21 #[vd, .slice av nv cv] w fun e w' => ∃ v', e = .returned v' ∧ w'.ownsRow base 5 1 v' (n + (digs ys).length) ((ds ++ digs ys).map (Value.int .u8)) ∧ App w w' vd v' := by
  obtain ⟨i0, hi, hz0, hz1, hz2⟩ := info_parts Try.info5
  have HV : Hid (Bs w av nv ys) := hv
  have hyl : Hid (ys.length = nv) := hv.1
  have HO : Hid (w.ownsRow base 5 1 vd n (ds.map (Value.int .u8))) := hown
  have HNE : Hid (∀ x, av = some x → some x.block ≠ vd.ownBlock) := hne
  have HB : Hid (∀ k, 0 ≤ ys.getD k 0 ∧ ys.getD k 0 ≤ 255) := hb
  clear hv hown hne hb
  go_enter Try.func21, Try.ntmps21
  go_wp2
  go_loopw [0, 11] (fun vr i wr => ∃ k : Nat, k ≤ nv ∧ i = .int .i64 k ∧ Hid (∀ y ∈ nibs (ys.take k), y ≠ 15) ∧ Hid (wr.ownsRow base 5 1 vr (n + 2 * k) ((ds ++ (nibs (ys.take k)).map digC).map (Value.int .u8))) ∧ Hid (App w wr vd vr)) (fun _ i _ => nv - (intOf i).toNat)
  case atStart => exact ⟨0, Nat.zero_le _, rfl, (fun y hy => by simp [nibs] at hy), dig_start HO.out, App.refl _ _⟩
  case round =>
    obtain ⟨k, hk, rfl, HN, HOr, HAr⟩ := hrel
    by_cases hlt : k < nv
    · obtain ⟨b, o, rfl, hcells⟩ := (HV.out.kept HAr.out.1 HNE.out).at (by omega)
      have hcx := hcells k hlt
      clear hcells
      obtain ⟨c, hc⟩ : ∃ c, c = ys.getD k 0 := ⟨_, rfl⟩
      rw [← hc] at hcx
      have hc0 : 0 ≤ c := by rw [hc]; exact (HB.out k).1
      have hc1 : c ≤ 255 := by rw [hc]; exact (HB.out k).2
      have HC : Hid (c = ys.getD k 0) := hc
      clear hc
      have hsz : w.heap.size ≤ wr.heap.size := HAr.out.1.size
      go_wp2
      go_loopw [0, 20] (fun vr j wr' => ∃ m : Nat, m ≤ 2 ∧ j = .int .i64 m ∧ Hid (∀ i, i < m → nb c i ≠ 15) ∧ Hid (wr'.ownsRow base 5 1 vr (n + 2 * k + m) ((ds ++ (nibs (ys.take k) ++ [c % 16, c / 16].take m).map digC).map (Value.int .u8))) ∧ Hid (App w wr' vd vr)) (fun _ j _ => 2 - (intOf j).toNat)
      case atStart => exact ⟨0, Nat.zero_le _, rfl, (fun i hi => by omega), dig_inner HOr.out, HAr⟩
      case round =>
        clear HOr HAr hcx
        obtain ⟨m, hm, rfl, HM, HOm, HAm⟩ := hrel
        by_cases hm2 : m < 2
        · obtain ⟨x, hx⟩ : ∃ x, x = nb c m := ⟨_, rfl⟩
          have hixA : ∀ w, (Instr.index 44 (.agg #[.int .u8 (c % 16), .int .u8 (c / 16)]) (.int .i64 (m : Int))).run Try.prog w = .ok (.int .u8 x) w := by
            intro w
            rw [hx]
            exact ix44 (c % 16) (c / 16) m hm2 w
          have hx0 : 0 ≤ x := by rw [hx]; unfold nb; split <;> omega
          have hx1 : x ≤ 15 := by rw [hx]; unfold nb; split <;> omega
          have HX : Hid (x = nb c m) := hx
          clear hx
          have hszm : w.heap.size ≤ wr.heap.size := HAm.out.1.size
          by_cases h15 : x = 15
          · have H15 : Hid (x = 15) := h15
            have hbt : (x == 15) = true := by simpa using h15
            clear h15
            go_wp2
            go_ret
            refine ⟨_, rfl, ?_, HAm.out⟩
            have e := dig_stop (ds := ds) (n := n) (by rw [hyl.out]; exact hlt) HN.out hm2 HC.out HM.out (by rw [← HX.out]; exact H15.out)
            rw [e.1, e.2]
            exact HOm.out
          · have hx14 : x < 15 := by omega
            have hixB := ix9 x hx0 hx14
            clear h15
            go_wp2_with (at_builtin; refine wpList_append_lies _ rfl _ _ _ rfl base 5 i0 (.int .u8 0) 1 1 Try.underlying25 hi hz0 hz1 hz2 rfl (by decide) _ (n + 2 * k + m) _ rfl (HOm.out.alloc _) ⟨wr.heap.size, 0, none⟩ 1 1 [.int .u8 (digC x)] rfl rfl (cell_one_new _ _ _) (by simp [Value.oneCell']) (by omega) (by unfold maxLen; omega) (by omega) (by simp; omega) (wr.heap.size + 1) (by simp) ?_; intro g1 cap1 w3 hown3 hgrow3 hat3 hlt3; have HA3 := hidA (App.lies (m := n + 2 * k + m + 1) (cap := cap1) hgrow3 hat3); have HO3 : Hid (w3.ownsRow base 5 1 _ _ _) := hown3; clear hgrow3 hat3 hlt3 hown3)
            go_roundw
            case rel =>
              refine ⟨m + 1, by omega, by go_num, ?_, ?_, HAm.out.trans HA3.out⟩
              · intro i hi
                by_cases him : i < m
                · exact HM.out i him
                · obtain rfl : i = m := by omega
                  rw [← HX.out]; omega
              · exact dig_more hm2 HX.out HO3.out
            case measure => simp [intOf]; omega
        · obtain rfl : m = 2 := by omega
          go_wp2
          go_roundw
          case rel =>
            refine ⟨k + 1, by omega, by go_num, ?_, ?_, HAm⟩
            · exact nibs_ne (by rw [hyl.out]; exact hlt) HC.out HN.out HM.out
            · exact dig_next (by rw [hyl.out]; exact hlt) HC.out HOm.out
          case measure => simp [intOf]; omega
    · go_wp2
      go_ret
      have e := digs_end ys k (by rw [hyl.out]; exact hlt) HN.out
      have ek : 2 * k = (digs ys).length := by rw [e, List.length_map, nibs_length, List.length_take, hyl.out]; omega
      refine ⟨_, rfl, ?_, HAr.out⟩
      rw [← ek, e]
      exact HOr.out

set_option maxHeartbeats 400000 in
theorem dig12 (vd : Value) (base n : Nat) (ds : List Int) (av : Option Addr) (nv cv : Nat) (ys : List Int) (w : World) (hbase : base ≤ w.heap.size) (hown : w.ownsRow base 5 1 vd n (ds.map (Value.int .u8)))
    (hv : Bs w av nv ys) (hb : ∀ k, 0 ≤ ys.getD k 0 ∧ ys.getD k 0 ≤ 255) (hne : ∀ x, av = some x → some x.block ≠ vd.ownBlock) (hn : n ≤ 1048576) (hnv : nv ≤ 2097152) :
    Calls Try.prog 12 #[vd, .slice av nv cv] w fun e w' => ∃ v', e = .returned v' ∧ w'.ownsRow base 5 1 v' (n + (digs ys).length) ((ds ++ digs ys).map (Value.int .u8)) ∧ App w w' vd v' := by
  have HC := hidC (dig21 vd base n ds av nv cv ys w hbase hown hv hb hne hn hnv)
  clear hbase hown hv hb hne hn hnv
  go_enter Try.func12, Try.ntmps12
  go_wp2_with (go_at_call 21; refine HC.out.mono ?_; rintro e w' ⟨v', rfl, hown', happ'⟩)
  go_ret
  exact ⟨_, rfl, hown', happ'⟩

end Go.Proofs.Qxb6601683a
