import Derived.Test.Qxb6601683aPack
import Derived.Deep.QuietTactic
import Derived.BigQuiet
/-! FnAppendDigitsDecodesPackedDigits (5), zzBytes (15). -/
namespace Go.Proofs.Qxb6601683a.decodes
open Go.RowKit

set_option maxHeartbeats 400000 in
theorem z15_yes (s : ByteArray) (a1 : Option Addr) (n1 c1 : Nat) (w : World) (h : s.size + n1 ≤ 1048576) :
    Calls Try.prog 15 #[.string s, .slice a1 n1 c1] w fun e w' => e = .returned (.bool true) ∧ w = w' := by
  have h0 : (s.size : Int) ≤ 1048576 := by omega
  have h1 : (n1 : Int) ≤ 1048576 := by omega
  have h2 : (s.size : Int) + (n1 : Int) ≤ 1048576 := by omega
  go_enter Try.func15, Try.ntmps15
  go_wp2
  go_ret
  exact ⟨rfl, rfl⟩

set_option maxHeartbeats 400000 in
theorem z15_no (s : ByteArray) (a1 : Option Addr) (n1 c1 : Nat) (w : World) (b0 : s.size ≤ 9223372036854775807) (b1 : n1 ≤ 9223372036854775807) (h : ¬ s.size + n1 ≤ 1048576) :
    Calls Try.prog 15 #[.string s, .slice a1 n1 c1] w fun e w' => e = .returned (.bool false) ∧ w = w' := by
  by_cases h0 : (1048576 : Int) < (s.size : Int)
  · go_enter Try.func15, Try.ntmps15
    go_wp2
    go_ret
    exact ⟨rfl, rfl⟩
  by_cases h1 : (1048576 : Int) < (n1 : Int)
  · go_enter Try.func15, Try.ntmps15
    go_wp2
    go_ret
    exact ⟨rfl, rfl⟩
  have h2 : (1048576 : Int) < (s.size : Int) + (n1 : Int) := by omega
  go_enter Try.func15, Try.ntmps15
  go_wp2
  go_ret
  exact ⟨rfl, rfl⟩

theorem tb13' (c : Int) (w : World) (h0 : 0 ≤ c) (h1 : c ≤ 255) :
    Calls Try.prog 13 #[.int .u8 c] w fun e w' => e = .returned (.int .i64 (tb c)) ∧ w = w' :=
  (tb13 c w h0 h1).mono fun _ _ ⟨h, k⟩ => ⟨h, k.symm⟩

/-- The bytes of a string, as numbers. -/
def byt (s : ByteArray) : List Int := s.data.toList.map fun b => (b.toNat : Int)
theorem byt_length (s : ByteArray) : (byt s).length = s.size := by simp [byt]
theorem byt_bd (s : ByteArray) (k : Nat) : 0 ≤ (byt s).getD k 0 ∧ (byt s).getD k 0 ≤ 255 := by
  by_cases h : k < (byt s).length
  · have hk : k < s.data.toList.length := by simpa [byt] using h
    have e : (byt s).getD k 0 = ((s.data.toList[k]).toNat : Int) := by simp [byt, List.getD, List.getElem?_eq_getElem hk]
    rw [e]
    have := (s.data.toList[k]).toNat_lt
    omega
  · have e : (byt s).getD k 0 = 0 := by rw [List.getD, List.getElem?_eq_none (by omega)]; rfl
    rw [e]; omega
theorem byt_at (s : ByteArray) (k : Nat) (h : k < s.size) : ((s[k]'h).toNat : Int) = (byt s).getD k 0 := by
  have hk : k < s.data.toList.length := by simpa using h
  simp [byt, List.getD, List.getElem?_eq_getElem hk]
  rfl

theorem oct_fin : ∀ (a : Fin 15) (b : Fin 16), bits BinOp.or IntKind.i64 (a.val : Int) ((b.val : Int) * 16) % 256 = (a.val : Int) + 16 * (b.val : Int) := by decide +kernel
theorem oct_eq {x y : Int} (h0 : 0 ≤ x) (h1 : x ≤ 14) (h2 : 0 ≤ y) (h3 : y ≤ 15) : bits BinOp.or IntKind.i64 x (y * 16) % 256 = x + 16 * y := by
  obtain ⟨a, rfl⟩ : ∃ a : Nat, x = a := ⟨x.toNat, by omega⟩
  obtain ⟨b, rfl⟩ : ∃ b : Nat, y = b := ⟨y.toNat, by omega⟩
  exact oct_fin ⟨a, by omega⟩ ⟨b, by omega⟩

theorem oct15 {x : Int} (h0 : 0 ≤ x) (h1 : x ≤ 14) : bits BinOp.or IntKind.i64 x 240 % 256 = x + 16 * 15 := by
  have h := oct_eq (y := 15) h0 h1 (by omega) (by omega)
  rw [show (15 : Int) * 16 = 240 from rfl] at h
  exact h

theorem dec_step {w3 : World} {B k g cap : Nat} {s : ByteArray} {oc : Int} (hk : 2 * k < s.size)
    (ho : oc = tb ((byt s).getD (2 * k) 0) + 16 * (if 2 * k + 1 < s.size then tb ((byt s).getD (2 * k + 1) 0) else 15))
    (h : w3.ownsRow B 5 1 (.slice (some ⟨g, 0, none⟩) (k + 1) cap) (k + 1) ((pk ((byt s).take (2 * k))).map (Value.int .u8) ++ [.int .u8 oc])) :
    Hid (w3.ownsRow B 5 1 (.slice (some ⟨g, 0, none⟩) (k + 1) cap) (k + 1) ((pk ((byt s).take (2 * (k + 1)))).map (Value.int .u8))) := by
  show w3.ownsRow _ _ _ _ _ _
  rw [pk_step (byt s) k (by rw [byt_length]; exact hk), byt_length, ← ho, List.map_append]
  exact h

/-- The packed text with its terminator. -/
def full (s : ByteArray) : List Int := pk (byt s) ++ (if (byt s).length % 2 = 0 then [255] else [])
theorem full_len (s : ByteArray) : (full s).length ≤ s.size / 2 + 1 := by
  unfold full
  rw [List.length_append, pk_length, byt_length]
  split <;> simp <;> omega
theorem full_digs {s : ByteArray} {T : List Int} (h : ∀ j, j < s.size → 0 ≤ tb ((byt s).getD j 0)) : Hid (digs (full s ++ T) = byt s) := by
  refine digs_pk (byt s) T (fun a ha => ?_)
  obtain ⟨i, hi, rfl⟩ := List.getElem_of_mem ha
  have := h i (by rw [← byt_length]; exact hi)
  simpa [List.getD, hi] using this
theorem pk_bd : ∀ (S : List Int), (∀ a ∈ S, 0 ≤ tb a) → ∀ x ∈ pk S, 0 ≤ x ∧ x ≤ 255
  | [], _, x, hx => by simp [pk] at hx
  | [a], h, x, hx => by
    have h0 := h a (by simp)
    have h1 := tb_le a
    simp [pk] at hx
    omega
  | a :: b :: r, h, x, hx => by
    have h0 := h a (by simp)
    have h1 := tb_le a
    have h2 := h b (by simp)
    have h3 := tb_le b
    simp only [pk, List.mem_cons] at hx
    rcases hx with rfl | hx
    · omega
    · exact pk_bd r (fun y hy => h y (by simp [hy])) x hx
theorem getD_bd {l : List Int} (h : ∀ x ∈ l, 0 ≤ x ∧ x ≤ 255) (k : Nat) : 0 ≤ l.getD k 0 ∧ l.getD k 0 ≤ 255 := by
  by_cases hk : k < l.length
  · have e : l.getD k 0 = l[k] := by simp [List.getD, hk]
    rw [e]; exact h _ (List.getElem_mem hk)
  · have e : l.getD k 0 = 0 := by rw [List.getD, List.getElem?_eq_none (by omega)]; rfl
    rw [e]; omega
theorem full_bd {s : ByteArray} {T : List Int} (h : ∀ j, j < s.size → 0 ≤ tb ((byt s).getD j 0)) (hT : ∀ k, 0 ≤ T.getD k 0 ∧ T.getD k 0 ≤ 255) : Hid (∀ k, 0 ≤ (full s ++ T).getD k 0 ∧ (full s ++ T).getD k 0 ≤ 255) := by
  intro k
  refine getD_bd (fun x hx => ?_) k
  rcases List.mem_append.1 hx with h1 | h1
  · rcases List.mem_append.1 h1 with h2 | h2
    · refine pk_bd (byt s) (fun a ha => ?_) x h2
      obtain ⟨i, hi, rfl⟩ := List.getElem_of_mem ha
      have := h i (by rw [← byt_length]; exact hi)
      simpa [List.getD, hi] using this
    · split at h2
      · simp at h2; omega
      · simp at h2
  · obtain ⟨i, hi, rfl⟩ := List.getElem_of_mem h1
    have := hT i
    simpa [List.getD, hi] using this

theorem full_even {s : ByteArray} {B k : Nat} {wr : World} {v : Value} {ys : List Int} (hk : 2 * k = s.size ∨ 2 * k = s.size + 1) (hev : s.size % 2 = 0) (_h : wr.ownsRow B 5 1 v k ((pk ((byt s).take (2 * k))).map (Value.int .u8))) :
    Hid (∀ (w3 : World) (v3 : Value), w3.ownsRow B 5 1 v3 (k + 1) ((pk ((byt s).take (2 * k))).map (Value.int .u8) ++ [.int .u8 255]) → Hid (w3.ownsRow B 5 1 v3 ((full s).length + 0) ((full s ++ ys.take 0).map (Value.int .u8)))) := by
  intro w3 v3 h
  show w3.ownsRow _ _ _ _ _ _
  rw [List.take_of_length_le (by rw [byt_length]; omega)] at h
  have e : full s = pk (byt s) ++ [255] := by unfold full; rw [byt_length, if_pos hev]
  have el : (full s).length = k + 1 := by rw [e, List.length_append, pk_length, byt_length]; simp; omega
  rw [el, e]
  simpa using h
theorem full_odd {s : ByteArray} {B k : Nat} {wr : World} {v : Value} {ys : List Int} (hk : 2 * k = s.size ∨ 2 * k = s.size + 1) (hev : ¬ s.size % 2 = 0) (h : wr.ownsRow B 5 1 v k ((pk ((byt s).take (2 * k))).map (Value.int .u8))) :
    Hid (wr.ownsRow B 5 1 v ((full s).length + 0) ((full s ++ ys.take 0).map (Value.int .u8))) := by
  show wr.ownsRow _ _ _ _ _ _
  rw [List.take_of_length_le (by rw [byt_length]; omega)] at h
  have e : full s = pk (byt s) := by unfold full; rw [byt_length, if_neg hev, List.append_nil]
  have el : (full s).length = k := by rw [e, pk_length, byt_length]; omega
  rw [el, e]
  simpa using h
theorem tail_kept {w1 w2 wx : World} {B0 n cap N : Nat} {ao : Option Addr} {ys : List Int} {vx : Value} (h1 : w1.ownsRow B0 5 1 (.slice ao n cap) n (ys.map (Value.int .u8))) (h2 : w1.grownBy w2 none)
    (hx : App w2 wx (.slice (some ⟨w1.heap.size, 0, none⟩) 0 N) vx) : Bs wx ao n ys := by
  refine ((Bs.of_own h1).below h2).kept hx.1 (fun x hxx e => ?_)
  subst hxx
  have e1 := (h1.lt x.block rfl).2
  have e2 : x.block = w1.heap.size := by simpa [Value.ownBlock] using e
  omega

/-- The same memory (a draw or more may lie between). -/
def Same (w w' : World) : Prop := w'.heap = w.heap ∧ w'.os = w.os ∧ w'.tape = w.tape ∧ w'.output = w.output
theorem Same.refl (w : World) : Same w w := ⟨rfl, rfl, rfl, rfl⟩
theorem Same.cell {w w' : World} (h : Same w w') {a : Addr} {u : Value} (hu : w.cell? a = some u) : w'.cell? a = some u := by
  rw [← hu]; exact World.cell?_of_block (by rw [h.1])
theorem Same.drewN {w w' : World} (h : Same w w') (n : Nat) : Same w (w'.drewN n) := h
theorem Same.below {w w' : World} (h : Same w w') (B : Nat) : Below B w w' := ⟨h.2.1, h.2.2.1, h.2.2.2, by rw [h.1]; exact Nat.le_refl _, fun k _ => by rw [h.1]⟩

theorem tail_step {w4 : World} {B P j g cap : Nat} {c : Int} {L ys : List Int} (hj : j < ys.length) (hc : c = ys.getD j 0)
    (h : w4.ownsRow B 5 1 (.slice (some ⟨g, 0, none⟩) (P + j + 1) cap) (P + j + 1) ((L ++ ys.take j).map (Value.int .u8) ++ [.int .u8 c])) :
    Hid (w4.ownsRow B 5 1 (.slice (some ⟨g, 0, none⟩) (P + j + 1) cap) (P + (j + 1)) ((L ++ ys.take (j + 1)).map (Value.int .u8))) := by
  show w4.ownsRow _ _ _ _ _ _
  have e : ys.take (j + 1) = ys.take j ++ [c] := by rw [List.take_succ_eq_append_getElem hj, hc]; simp [List.getD, hj]
  rw [e]
  simpa [Nat.add_assoc] using h
theorem tail_end {wr : World} {B P j nv : Nat} {v : Value} {L ys : List Int} (hl : ys.length = nv) (hj : ¬ j < nv) (h : wr.ownsRow B 5 1 v (P + j) ((L ++ ys.take j).map (Value.int .u8))) :
    Hid (wr.ownsRow B 5 1 v (P + j) ((L ++ ys).map (Value.int .u8))) := by
  show wr.ownsRow _ _ _ _ _ _
  rw [List.take_of_length_le (by omega)] at h
  exact h

set_option maxRecDepth 100000 in
set_option maxHeartbeats 8000000 in
theorem walk (s : ByteArray) (a1 : Option Addr) (nv c1 : Nat) (ys : List Int) (w : World) (hys : Bs w a1 nv ys) (hb : ∀ k, 0 ≤ ys.getD k 0 ∧ ys.getD k 0 ≤ 255) (b0 : s.size ≤ 9223372036854775807) (b1 : nv ≤ 9223372036854775807) :
    Calls Try.prog 5 #[.string s, .slice a1 nv c1] w fun e w' => e = .returned (.bool true) ∧ Below w.heap.size w w' := by
  by_cases hlen : s.size + nv ≤ 1048576
  rotate_left
  · go_enter Try.func5, Try.ntmps5
    go_wp2_with (go_at_call 15; refine (z15_no _ _ _ _ _ b0 b1 hlen).mono ?_; rintro e w' ⟨rfl, rfl⟩)
    go_ret
    exact ⟨rfl, Below.refl _ _⟩
  clear b0 b1
  have l0 : (s.size : Int) ≤ 1048576 := by omega
  have l1 : (nv : Int) ≤ 1048576 := by omega
  have l2 : (s.size : Int) + (nv : Int) ≤ 1048576 := by omega
  have HD : Hid (Bs w a1 nv ys) := hys
  have HB : Hid (∀ k, 0 ≤ ys.getD k 0 ∧ ys.getD k 0 ≤ 255) := hb
  clear hys hb
  go_enter Try.func5, Try.ntmps5
  go_wp2_with (first | (go_at_call 15; refine (z15_yes _ _ _ _ _ hlen).mono ?_; rintro e w' ⟨rfl, rfl⟩) | fail)
  go_loop [5] (fun i => ∃ k : Nat, k ≤ s.size ∧ i = .int .i64 k ∧ Hid (∀ j, j < k → 0 ≤ tb ((byt s).getD j 0))) (fun i => s.size - (intOf i).toNat)
  case atStart => exact ⟨0, Nat.zero_le _, rfl, fun j hj => by omega⟩
  case round =>
    obtain ⟨k, hk, rfl, HR⟩ := hrel
    by_cases hlt : k < s.size
    · have hkk : (k : Int) < (s.size : Int) := by omega
      have hat := byt_at s k hlt
      obtain ⟨z0, z1⟩ := byt_bd s k
      obtain ⟨z, hz⟩ : ∃ z, z = (byt s).getD k 0 := ⟨_, rfl⟩
      rw [← hz] at hat z0 z1
      have HZ : Hid (z = (byt s).getD k 0) := hz
      clear hz
      by_cases ht : tb z < 0
      · go_wp2_with (go_at_call 13; refine (tb13' _ _ z0 z1).mono ?_; rintro e w' ⟨rfl, rfl⟩)
        go_ret
        exact ⟨rfl, Below.refl _ _⟩
      · go_wp2_with (go_at_call 13; refine (tb13' _ _ z0 z1).mono ?_; rintro e w' ⟨rfl, rfl⟩)
        go_round
        case rel =>
          refine ⟨k + 1, by omega, by go_num, fun j hj => ?_⟩
          by_cases hjk : j < k
          · exact HR.out j hjk
          · obtain rfl : j = k := by omega
            rw [← HZ.out]; omega
        case measure => simp [intOf]; omega
    · have HS : Hid (∀ j, j < s.size → 0 ≤ tb ((byt s).getD j 0)) := fun j hj => HR.out j (by omega)
      clear HR
      go_wp2_with fail
      refine (clone_any _ _ _ ys _ HD.out (by omega)).mono ?_
      rintro e w1 ⟨ao1, cap1, rfl, hown1, hg1⟩
      have HO1 : Hid (_ ∧ _) := ⟨hown1, hg1⟩
      clear hown1 hg1
      obtain ⟨i0, hi, hz0, hz1, hz2⟩ := info_parts Try.info5
      go_wp2_with (at_make; refine wpList_make_own _ rfl _ _ 25 rfl w1.heap.size 5 i0 (.int .u8 0) 1 Try.underlying25 hi hz0 hz1 _ _ _ (s.size / 2 + 1 + nv) rfl rfl (by omega) (by rw [hz2]; omega) (by unfold maxLen; omega) (Nat.le_refl _) ?_; intro w2 hown2 hg2; have HO2 : Hid (w2.ownsRow w1.heap.size 5 1 _ 0 [] ∧ w1.grownBy w2 none) := ⟨hown2, hg2⟩; clear hown2 hg2)
      go_loopw [6, 7, 8, 9] (fun v i _ _ wr => ∃ k : Nat, 2 * k ≤ s.size + 1 ∧ i = .int .i64 (2 * (k : Int)) ∧ Hid (wr.ownsRow w1.heap.size 5 1 v k ((pk ((byt s).take (2 * k))).map (Value.int .u8))) ∧ Hid (App w2 wr (.slice (some ⟨w1.heap.size, 0, none⟩) 0 (s.size / 2 + 1 + nv)) v)) (fun _ i _ _ _ => s.size + 2 - (intOf i).toNat)
      case atStart => exact ⟨0, by omega, rfl, HO2.out.1, App.refl _ _⟩
      case round =>
        obtain ⟨k, hk, rfl, HOr, HAr⟩ := hrel
        have hszr : w2.heap.size ≤ wr.heap.size := HAr.out.1.size
        have hsz2 : w1.heap.size ≤ w2.heap.size := HO2.out.2.size
        by_cases hlt : 2 * k < s.size
        · have hat := byt_at s (2 * k) hlt
          obtain ⟨z0, z1⟩ := byt_bd s (2 * k)
          obtain ⟨z, hz⟩ : ∃ z, z = (byt s).getD (2 * k) 0 := ⟨_, rfl⟩
          rw [← hz] at hat z0 z1
          have t0 : 0 ≤ tb z := by rw [hz]; exact HS.out _ hlt
          have t1 := tb_le z
          have HZ : Hid (z = (byt s).getD (2 * k) 0) := hz
          clear hz
          have hlt1 : 2 * (k : Int) < (s.size : Int) := by omega
          by_cases hlt2 : 2 * k + 1 < s.size
          · have hat2 := byt_at s (2 * k + 1) hlt2
            obtain ⟨y0, y1⟩ := byt_bd s (2 * k + 1)
            obtain ⟨y, hy⟩ : ∃ y, y = (byt s).getD (2 * k + 1) 0 := ⟨_, rfl⟩
            rw [← hy] at hat2 y0 y1
            have r0 : 0 ≤ tb y := by rw [hy]; exact HS.out _ hlt2
            have r1 := tb_le y
            have HY : Hid (y = (byt s).getD (2 * k + 1) 0) := hy
            clear hy
            have hlt3 : 2 * (k : Int) + 1 < (s.size : Int) := by omega
            obtain ⟨oc, hoc, OC⟩ : ∃ oc, bits BinOp.or IntKind.i64 (tb z) (tb y * 16) % 256 = oc ∧ Hid (oc = tb z + 16 * tb y) := ⟨_, rfl, oct_eq t0 t1 r0 (by omega)⟩
            go_wp2_with (first | (go_at_call 13; refine (tb13' _ _ (by omega) (by omega)).mono ?_; rintro e w' ⟨rfl, rfl⟩) | (at_builtin; refine wpList_append_lies _ rfl _ _ _ rfl w1.heap.size 5 i0 (.int .u8 0) 1 1 Try.underlying25 hi hz0 hz1 hz2 rfl (by decide) _ k _ rfl (HOr.out.alloc _) ⟨wr.heap.size, 0, none⟩ 1 1 [.int .u8 oc] rfl rfl (cell_one_new _ _ _) (by simp [Value.oneCell']) (by omega) (by unfold maxLen; omega) (by omega) (by simp; omega) (wr.heap.size + 1) (by simp) ?_; intro g1 cap1 w3 hown3 hgrow3 hat3 hlt3; have HA3 := hidA (App.lies (m := k + 1) (cap := cap1) hgrow3 hat3); have HO3 : Hid (w3.ownsRow w1.heap.size 5 1 _ _ _) := hown3; clear hgrow3 hat3 hlt3 hown3))
            go_roundw
            case rel => exact ⟨k + 1, by omega, by go_num, dec_step hlt (by rw [if_pos hlt2, ← HZ.out, ← HY.out]; exact OC.out) HO3.out, HAr.out.trans HA3.out⟩
            case measure => simp [intOf]; omega
          · have hlt3 : ¬ 2 * (k : Int) + 1 < (s.size : Int) := by omega
            obtain ⟨oc, hoc, OC⟩ : ∃ oc, bits BinOp.or IntKind.i64 (tb z) 240 % 256 = oc ∧ Hid (oc = tb z + 16 * 15) := ⟨_, rfl, oct15 t0 t1⟩
            go_wp2_with (first | (go_at_call 13; refine (tb13' _ _ (by omega) (by omega)).mono ?_; rintro e w' ⟨rfl, rfl⟩) | (at_builtin; refine wpList_append_lies _ rfl _ _ _ rfl w1.heap.size 5 i0 (.int .u8 0) 1 1 Try.underlying25 hi hz0 hz1 hz2 rfl (by decide) _ k _ rfl (HOr.out.alloc _) ⟨wr.heap.size, 0, none⟩ 1 1 [.int .u8 oc] rfl rfl (cell_one_new _ _ _) (by simp [Value.oneCell']) (by omega) (by unfold maxLen; omega) (by omega) (by simp; omega) (wr.heap.size + 1) (by simp) ?_; intro g1 cap1 w3 hown3 hgrow3 hat3 hlt3; have HA3 := hidA (App.lies (m := k + 1) (cap := cap1) hgrow3 hat3); have HO3 : Hid (w3.ownsRow w1.heap.size 5 1 _ _ _) := hown3; clear hgrow3 hat3 hlt3 hown3))
            go_roundw
            case rel => exact ⟨k + 1, by omega, by go_num, dec_step hlt (by rw [if_neg hlt2, ← HZ.out]; exact OC.out) HO3.out, HAr.out.trans HA3.out⟩
            case measure => simp [intOf]; omega
        · have hPl := full_len s
          have HTl : Hid (∀ {wx : World} {vx : Value}, App w2 wx (.slice (some ⟨w1.heap.size, 0, none⟩) 0 (s.size / 2 + 1 + nv)) vx → Bs wx ao1 nv ys) := fun hx => tail_kept HO1.out.1 HO2.out.2 hx
          have HBE := full_bd (T := ys) HS.out HB.out
          have HDG := full_digs (T := ys) HS.out
          have HBW : Hid (Below w.heap.size w w2) := grown_below (grown_trans HO1.out.2 HO2.out.2 (fun _ h => by cases h))
          have hsw : w.heap.size ≤ w1.heap.size := HO1.out.2.size
          clear HO1 HO2 HS HB HD
          by_cases hev : s.size % 2 = 0
          · have HOE := full_even (ys := ys) (by omega) hev HOr.out
            have hev' : (s.size : Int) % 2 = 0 := by omega
            go_wp2_with (at_builtin; refine wpList_append_lies _ rfl _ _ _ rfl w1.heap.size 5 i0 (.int .u8 0) 1 1 Try.underlying25 hi hz0 hz1 hz2 rfl (by decide) _ k _ rfl (HOr.out.alloc _) ⟨wr.heap.size, 0, none⟩ 1 1 [.int .u8 255] rfl rfl (cell_one_new _ _ _) (by simp [Value.oneCell']) (by omega) (by unfold maxLen; omega) (by omega) (by simp; omega) (wr.heap.size + 1) (by simp) ?_; intro g1 cap1 w3 hown3 hgrow3 hat3 hlt3; have HAE := hidA (HAr.out.trans (App.lies (m := k + 1) (cap := cap1) hgrow3 hat3)); have HO3 := HOE.out _ _ hown3; clear hgrow3 hat3 hlt3 hown3)
            clear HOE HOr HAr
            go_loopw [6, 10] (fun v i wr => ∃ j : Nat, j ≤ nv ∧ i = .int .i64 j ∧ Hid (wr.ownsRow w1.heap.size 5 1 v ((full s).length + j) ((full s ++ ys.take j).map (Value.int .u8))) ∧ Hid (App w2 wr (.slice (some ⟨w1.heap.size, 0, none⟩) 0 (s.size / 2 + 1 + nv)) v)) (fun _ i _ => nv - (intOf i).toNat)
            case atStart => exact ⟨0, Nat.zero_le _, rfl, HO3, HAE⟩
            case round =>
              obtain ⟨j, hj, rfl, HOj, HAj⟩ := hrel
              have hszj : w2.heap.size ≤ wr.heap.size := HAj.out.1.size
              by_cases hjn : j < nv
              · have hbs := HTl.out HAj.out
                obtain ⟨b, o, rfl, hcells⟩ := hbs.at (by omega)
                have hcx := hcells j hjn
                have HYL : Hid (ys.length = nv) := hbs.1
                obtain ⟨c, hc⟩ : ∃ c, c = ys.getD j 0 := ⟨_, rfl⟩
                rw [← hc] at hcx
                have HC : Hid (c = ys.getD j 0) := hc
                clear hc hcells hbs
                have hjj : (j : Int) < (nv : Int) := by omega
                go_wp2_with (at_builtin; refine wpList_append_lies _ rfl _ _ _ rfl w1.heap.size 5 i0 (.int .u8 0) 1 1 Try.underlying25 hi hz0 hz1 hz2 rfl (by decide) _ ((full s).length + j) _ rfl (HOj.out.alloc _) ⟨wr.heap.size, 0, none⟩ 1 1 [.int .u8 c] rfl rfl (cell_one_new _ _ _) (by simp [Value.oneCell']) (by omega) (by unfold maxLen; omega) (by omega) (by simp; omega) (wr.heap.size + 1) (by simp) ?_; intro g2 cap2 w4 hown4 hgrow4 hat4 hlt4; have HA4 := hidA (HAj.out.trans (App.lies (m := (full s).length + j + 1) (cap := cap2) hgrow4 hat4)); have HO4 : Hid (w4.ownsRow w1.heap.size 5 1 _ _ _) := hown4; clear hgrow4 hat4 hlt4 hown4)
                go_roundw
                case rel => exact ⟨j + 1, by omega, by go_num, tail_step (by rw [HYL.out]; exact hjn) HC.out HO4.out, HA4⟩
                case measure => simp [intOf]; omega
              · have HOj2 := tail_end (HTl.out HAj.out).1 hjn HOj.out
                have HBJ : Hid (Below w.heap.size w wr) := HBW.out.trans (HAj.out.below _ (by omega) (fun g hg => by have e2 : w1.heap.size = g := (by simpa [Value.ownBlock] using hg); omega))
                obtain ⟨ao2, cap2, rfl, _⟩ := own_form HOj2.out
                clear HOj HAj HTl
                go_wp2_with fail
                refine (dig12 (.slice none 0 0) wr.heap.size 0 [] _ _ _ (full s ++ ys) wr (Nat.le_refl _) (World.ownsRow_nil _ _ _ _) (Bs.of_own HOj2.out) HBE.out (fun x _ e => by cases e) (by omega) (by omega)).mono ?_
                rintro e w5 ⟨v5, rfl, hown5, happ5⟩
                rw [HDG.out] at hown5
                have hl5 : 0 + (byt s).length = s.size := by rw [byt_length, Nat.zero_add]
                rw [hl5] at hown5
                obtain ⟨ao5, cap5, rfl, _⟩ := own_form hown5
                have HR5 : Hid (Bs w5 ao5 s.size (byt s)) := Bs.of_own hown5
                have HB5 : Hid (Below w.heap.size w w5) := HBJ.out.trans ((grown_below happ5.1).mono (by omega))
                clear hown5 happ5 HOj2 HBJ HDG HBE
                go_wp2
                go_loopw [12] (fun i wr => ∃ k : Nat, k ≤ s.size ∧ i = .int .i64 k ∧ Hid (Same w5 wr)) (fun i _ => s.size - (intOf i).toNat)
                case atStart => exact ⟨0, Nat.zero_le _, rfl, Same.refl _⟩
                case round =>
                  obtain ⟨k, hk, rfl, HS⟩ := hrel
                  by_cases hlt : k < s.size
                  · obtain ⟨b, o, rfl, hc⟩ := HR5.out.at (by omega)
                    have d1 := HS.out.cell (hc k hlt)
                    have hat := byt_at s k hlt
                    obtain ⟨z, hz⟩ : ∃ z, z = (byt s).getD k 0 := ⟨_, rfl⟩
                    rw [← hz] at hat d1
                    have hk0 : (0 : Int) ≤ (k : Int) := by omega
                    have hk1 : (k : Int) < (s.size : Int) := by omega
                    clear hc hz
                    go_wp2
                    go_quiet (fail)
                    go_wp2
                    go_roundw
                    case rel => exact ⟨k + 1, by omega, by go_num, HS.out.drewN _⟩
                    case measure => simp [intOf]; omega
                  · go_wp2
                    go_ret
                    exact ⟨rfl, HB5.out.trans (HS.out.below _)⟩
          · have HO3 := full_odd (ys := ys) (by omega) hev HOr.out
            have hev' : ((s.size : Int) % 2 == 0) = false := by
              have h2 : ¬ (s.size : Int) % 2 = 0 := by omega
              simpa using h2
            have HAE := HAr
            clear HOr HAr
            go_wp2
            go_loopw [6, 10] (fun v i wr => ∃ j : Nat, j ≤ nv ∧ i = .int .i64 j ∧ Hid (wr.ownsRow w1.heap.size 5 1 v ((full s).length + j) ((full s ++ ys.take j).map (Value.int .u8))) ∧ Hid (App w2 wr (.slice (some ⟨w1.heap.size, 0, none⟩) 0 (s.size / 2 + 1 + nv)) v)) (fun _ i _ => nv - (intOf i).toNat)
            case atStart => exact ⟨0, Nat.zero_le _, rfl, HO3, HAE⟩
            case round =>
              obtain ⟨j, hj, rfl, HOj, HAj⟩ := hrel
              have hszj : w2.heap.size ≤ wr.heap.size := HAj.out.1.size
              by_cases hjn : j < nv
              · have hbs := HTl.out HAj.out
                obtain ⟨b, o, rfl, hcells⟩ := hbs.at (by omega)
                have hcx := hcells j hjn
                have HYL : Hid (ys.length = nv) := hbs.1
                obtain ⟨c, hc⟩ : ∃ c, c = ys.getD j 0 := ⟨_, rfl⟩
                rw [← hc] at hcx
                have HC : Hid (c = ys.getD j 0) := hc
                clear hc hcells hbs
                have hjj : (j : Int) < (nv : Int) := by omega
                go_wp2_with (at_builtin; refine wpList_append_lies _ rfl _ _ _ rfl w1.heap.size 5 i0 (.int .u8 0) 1 1 Try.underlying25 hi hz0 hz1 hz2 rfl (by decide) _ ((full s).length + j) _ rfl (HOj.out.alloc _) ⟨wr.heap.size, 0, none⟩ 1 1 [.int .u8 c] rfl rfl (cell_one_new _ _ _) (by simp [Value.oneCell']) (by omega) (by unfold maxLen; omega) (by omega) (by simp; omega) (wr.heap.size + 1) (by simp) ?_; intro g2 cap2 w4 hown4 hgrow4 hat4 hlt4; have HA4 := hidA (HAj.out.trans (App.lies (m := (full s).length + j + 1) (cap := cap2) hgrow4 hat4)); have HO4 : Hid (w4.ownsRow w1.heap.size 5 1 _ _ _) := hown4; clear hgrow4 hat4 hlt4 hown4)
                go_roundw
                case rel => exact ⟨j + 1, by omega, by go_num, tail_step (by rw [HYL.out]; exact hjn) HC.out HO4.out, HA4⟩
                case measure => simp [intOf]; omega
              · have HOj2 := tail_end (HTl.out HAj.out).1 hjn HOj.out
                have HBJ : Hid (Below w.heap.size w wr) := HBW.out.trans (HAj.out.below _ (by omega) (fun g hg => by have e2 : w1.heap.size = g := (by simpa [Value.ownBlock] using hg); omega))
                obtain ⟨ao2, cap2, rfl, _⟩ := own_form HOj2.out
                clear HOj HAj HTl
                go_wp2_with fail
                refine (dig12 (.slice none 0 0) wr.heap.size 0 [] _ _ _ (full s ++ ys) wr (Nat.le_refl _) (World.ownsRow_nil _ _ _ _) (Bs.of_own HOj2.out) HBE.out (fun x _ e => by cases e) (by omega) (by omega)).mono ?_
                rintro e w5 ⟨v5, rfl, hown5, happ5⟩
                rw [HDG.out] at hown5
                have hl5 : 0 + (byt s).length = s.size := by rw [byt_length, Nat.zero_add]
                rw [hl5] at hown5
                obtain ⟨ao5, cap5, rfl, _⟩ := own_form hown5
                have HR5 : Hid (Bs w5 ao5 s.size (byt s)) := Bs.of_own hown5
                have HB5 : Hid (Below w.heap.size w w5) := HBJ.out.trans ((grown_below happ5.1).mono (by omega))
                clear hown5 happ5 HOj2 HBJ HDG HBE
                go_wp2
                go_loopw [12] (fun i wr => ∃ k : Nat, k ≤ s.size ∧ i = .int .i64 k ∧ Hid (Same w5 wr)) (fun i _ => s.size - (intOf i).toNat)
                case atStart => exact ⟨0, Nat.zero_le _, rfl, Same.refl _⟩
                case round =>
                  obtain ⟨k, hk, rfl, HS⟩ := hrel
                  by_cases hlt : k < s.size
                  · obtain ⟨b, o, rfl, hc⟩ := HR5.out.at (by omega)
                    have d1 := HS.out.cell (hc k hlt)
                    have hat := byt_at s k hlt
                    obtain ⟨z, hz⟩ : ∃ z, z = (byt s).getD k 0 := ⟨_, rfl⟩
                    rw [← hz] at hat d1
                    have hk0 : (0 : Int) ≤ (k : Int) := by omega
                    have hk1 : (k : Int) < (s.size : Int) := by omega
                    clear hc hz
                    go_wp2
                    go_quiet (fail)
                    go_wp2
                    go_roundw
                    case rel => exact ⟨k + 1, by omega, by go_num, HS.out.drewN _⟩
                    case measure => simp [intOf]; omega
                  · go_wp2
                    go_ret
                    exact ⟨rfl, HB5.out.trans (HS.out.below _)⟩

end Go.Proofs.Qxb6601683a.decodes
