import Derived.Test.Qxb6601683aClone
import Derived.Deep.RegionHeld3
import Derived.Deep.AppendLies
/-! appendRFC3339 (22), ZZAppendRFC3339 (17). -/
namespace Go.Proofs.Qxb6601683a
open Go.RowKit

/-- The separators. -/
def sepf (s : Int) (k : Nat) : Int := [0, 45, 45, 84, 58, 58, s, 58].getD k 0
/-- The text of the first k fields. -/
def txt (ns : Nat → Int) (s : Int) : Nat → List Int
  | 0 => [50, 48]
  | k + 1 => txt ns s k ++ (if k = 0 then [] else [sepf s k]) ++ [48 + ns k / 10, 48 + ns k % 10]
def tl (k : Nat) : Nat := if k = 0 then 2 else 3 * k + 1
theorem txt_length (ns : Nat → Int) (s : Int) (k : Nat) : (txt ns s k).length = tl k := by
  induction k with
  | zero => rfl
  | succ k ih =>
    simp only [txt, List.length_append, ih, tl]
    by_cases h : k = 0 <;> simp [h] <;> omega

theorem ix45 (s : Int) (k : Nat) (hk : k < 8) (w : World) :
    (Instr.index 45 (.agg #[.int .u8 0, .int .u8 45, .int .u8 45, .int .u8 84, .int .u8 58, .int .u8 58, .int .u8 s, .int .u8 58]) (.int .i64 (k : Int))).run Try.prog w = .ok (.int .u8 (sepf s k)) w := by
  have i0 : (Instr.index 45 (.agg #[.int .u8 0, .int .u8 45, .int .u8 45, .int .u8 84, .int .u8 58, .int .u8 58, .int .u8 s, .int .u8 58]) (.int .i64 0)).run Try.prog w = .ok (.int .u8 0) w := by kernel_rfl
  have i1 : (Instr.index 45 (.agg #[.int .u8 0, .int .u8 45, .int .u8 45, .int .u8 84, .int .u8 58, .int .u8 58, .int .u8 s, .int .u8 58]) (.int .i64 1)).run Try.prog w = .ok (.int .u8 45) w := by kernel_rfl
  have i2 : (Instr.index 45 (.agg #[.int .u8 0, .int .u8 45, .int .u8 45, .int .u8 84, .int .u8 58, .int .u8 58, .int .u8 s, .int .u8 58]) (.int .i64 2)).run Try.prog w = .ok (.int .u8 45) w := by kernel_rfl
  have i3 : (Instr.index 45 (.agg #[.int .u8 0, .int .u8 45, .int .u8 45, .int .u8 84, .int .u8 58, .int .u8 58, .int .u8 s, .int .u8 58]) (.int .i64 3)).run Try.prog w = .ok (.int .u8 84) w := by kernel_rfl
  have i4 : (Instr.index 45 (.agg #[.int .u8 0, .int .u8 45, .int .u8 45, .int .u8 84, .int .u8 58, .int .u8 58, .int .u8 s, .int .u8 58]) (.int .i64 4)).run Try.prog w = .ok (.int .u8 58) w := by kernel_rfl
  have i5 : (Instr.index 45 (.agg #[.int .u8 0, .int .u8 45, .int .u8 45, .int .u8 84, .int .u8 58, .int .u8 58, .int .u8 s, .int .u8 58]) (.int .i64 5)).run Try.prog w = .ok (.int .u8 58) w := by kernel_rfl
  have i6 : (Instr.index 45 (.agg #[.int .u8 0, .int .u8 45, .int .u8 45, .int .u8 84, .int .u8 58, .int .u8 58, .int .u8 s, .int .u8 58]) (.int .i64 6)).run Try.prog w = .ok (.int .u8 s) w := by kernel_rfl
  have i7 : (Instr.index 45 (.agg #[.int .u8 0, .int .u8 45, .int .u8 45, .int .u8 84, .int .u8 58, .int .u8 58, .int .u8 s, .int .u8 58]) (.int .i64 7)).run Try.prog w = .ok (.int .u8 58) w := by kernel_rfl
  have h : k = 0 ∨ k = 1 ∨ k = 2 ∨ k = 3 ∨ k = 4 ∨ k = 5 ∨ k = 6 ∨ k = 7 := by omega
  rcases h with rfl | rfl | rfl | rfl | rfl | rfl | rfl | rfl
  · exact i0
  · exact i1
  · exact i2
  · exact i3
  · exact i4
  · exact i5
  · exact i6
  · exact i7

/-- The two digits as the walk spells them inside a region that draws. -/
def dgt (x : Int) : Int := IntKind.u8.wrap (IntKind.i64.wrap (48 + IntKind.i64.wrap (x.tdiv 10)))
def dgu (x : Int) : Int := IntKind.u8.wrap (IntKind.i64.wrap (48 + x.tmod 10))
theorem dgt_eq (x : Int) (h0 : 0 ≤ x) (h1 : x ≤ 99) : dgt x = 48 + x / 10 := by
  unfold dgt
  rw [Int.tdiv_eq_ediv_of_nonneg h0]
  simp only [IntKind.wrap]
  simp [IntKind.bits, IntKind.signed]
  omega
theorem dgu_eq (x : Int) (h0 : 0 ≤ x) (_h1 : x ≤ 99) : dgu x = 48 + x % 10 := by
  unfold dgu
  rw [Int.tmod_eq_emod_of_nonneg h0]
  simp only [IntKind.wrap]
  simp [IntKind.bits, IntKind.signed]
  omega
theorem strCells20 : Lib.strCells { data := #[50, 48] } = [.int .u8 50, .int .u8 48] := by rfl

theorem own20 {w1 : World} {base n : Nat} {v1 : Value} {ds : List Int} {ns : Nat → Int} {s : Int} (h : w1.ownsRow base 5 1 v1 (n + ({ data := #[50, 48] } : ByteArray).size) (ds.map (Value.int .u8) ++ Lib.strCells { data := #[50, 48] })) :
    Hid (w1.ownsRow base 5 1 v1 (n + tl 0) ((ds ++ txt ns s 0).map (Value.int .u8))) := by
  show w1.ownsRow base 5 1 v1 (n + 2) _
  rw [strCells20] at h
  simp only [txt, List.map_append, List.map_cons, List.map_nil]
  exact h

theorem hidApp {w w' : World} {v v' : Value} (h : App w w' v v') : Hid (App w w' v v') := h
theorem cell3 {wr w3 : World} {o : Obj} {row : Option Nat} {b k : Nat} {u : Value} (hg : (wr.alloc o).grownBy w3 row) (hc : wr.cell? ⟨b, k, none⟩ = some u) (hn : row ≠ some b) : w3.cell? ⟨b, k, none⟩ = some u := by
  have hlt := World.block_lt_of_cell? wr _ hc
  refine hg.cell (a := ⟨b, k, none⟩) ?_ (Ne.symm hn)
  rw [World.cell?_alloc_past _ _ _ hlt]
  exact hc
theorem App.unbox {w w' : World} {o : Obj} {v v' : Value} (h : App (w.alloc o) w' v v') : App w w' v v' :=
  (App.refl w v).alloc o |>.trans h
theorem rel0 {w2 : World} {base n k g cap : Nat} {ds : List Int} {ns : Nat → Int} {s : Int} (hk : k = 0) (hl : 0 ≤ ns k) (hh : ns k ≤ 99)
    (h : w2.ownsRow base 5 1 (.slice (some ⟨g, 0, none⟩) (n + tl k + 2) cap) (n + tl k + 2) ((ds ++ txt ns s k).map (Value.int .u8) ++ [.int .u8 (dgt (ns k)), .int .u8 (dgu (ns k))])) :
    Hid (w2.ownsRow base 5 1 (.slice (some ⟨g, 0, none⟩) (n + tl k + 2) cap) (n + tl (k + 1)) ((ds ++ txt ns s (k + 1)).map (Value.int .u8))) := by
  have e1 : n + tl (k + 1) = n + tl k + 2 := by subst hk; rfl
  have e2 : (ds ++ txt ns s (k + 1)).map (Value.int .u8) = (ds ++ txt ns s k).map (Value.int .u8) ++ [.int .u8 (dgt (ns k)), .int .u8 (dgu (ns k))] := by
    rw [dgt_eq _ hl hh, dgu_eq _ hl hh]
    simp [txt, hk]
  show w2.ownsRow _ _ _ _ _ _
  rw [e1, e2]
  exact h
theorem rel1 {w2 : World} {base n k g cap : Nat} {ds : List Int} {ns : Nat → Int} {s : Int} (hk : 0 < k) (hl : 0 ≤ ns k) (hh : ns k ≤ 99)
    (h : w2.ownsRow base 5 1 (.slice (some ⟨g, 0, none⟩) (n + tl k + 1 + 2) cap) (n + tl k + 1 + 2) (((ds ++ txt ns s k).map (Value.int .u8) ++ [.int .u8 (sepf s k)]) ++ [.int .u8 (dgt (ns k)), .int .u8 (dgu (ns k))])) :
    Hid (w2.ownsRow base 5 1 (.slice (some ⟨g, 0, none⟩) (n + tl k + 1 + 2) cap) (n + tl (k + 1)) ((ds ++ txt ns s (k + 1)).map (Value.int .u8))) := by
  have e1 : n + tl (k + 1) = n + tl k + 1 + 2 := by
    have : ¬ k = 0 := by omega
    simp only [tl, this, if_false]
    simp
    omega
  have e2 : (ds ++ txt ns s (k + 1)).map (Value.int .u8) = ((ds ++ txt ns s k).map (Value.int .u8) ++ [.int .u8 (sepf s k)]) ++ [.int .u8 (dgt (ns k)), .int .u8 (dgu (ns k))] := by
    rw [dgt_eq _ hl hh, dgu_eq _ hl hh]
    have : ¬ k = 0 := by omega
    simp [txt, this]
  show w2.ownsRow _ _ _ _ _ _
  rw [e1, e2]
  exact h

set_option maxHeartbeats 1000000 in
theorem rfc22 (n0 n1 n2 n3 n4 n5 n6 n7 s : Int) (ns : Nat → Int) (v : Value) (base n : Nat) (ds : List Int) (w : World)
    (hns : ∀ k, k < 8 → #[Value.int .i64 n0, .int .i64 n1, .int .i64 n2, .int .i64 n3, .int .i64 n4, .int .i64 n5, .int .i64 n6, .int .i64 n7, .int .u8 s][k]? = some (.int .i64 (ns k)))
    (hlo : ∀ k, k < 8 → 0 ≤ ns k) (hhi : ∀ k, k < 8 → ns k ≤ 99)
    (hbase : base ≤ w.heap.size) (hown : w.ownsRow base 5 1 v n (ds.map (Value.int .u8))) (hn : n ≤ 1048576) :
    Calls Try.prog 22 #[.agg #[.int .i64 n0, .int .i64 n1, .int .i64 n2, .int .i64 n3, .int .i64 n4, .int .i64 n5, .int .i64 n6, .int .i64 n7, .int .u8 s], v] w fun e w' =>
      ∃ v', e = .returned v' ∧ w'.ownsRow base 5 1 v' (n + 25) ((ds ++ txt ns s 8).map (Value.int .u8)) ∧ App w w' v v' := by
  obtain ⟨i0, hi, hz0, hz1, hz2⟩ := info_parts Try.info5
  have HN : Hid (∀ k, k < 8 → #[Value.int .i64 n0, .int .i64 n1, .int .i64 n2, .int .i64 n3, .int .i64 n4, .int .i64 n5, .int .i64 n6, .int .i64 n7, .int .u8 s][k]? = some (.int .i64 (ns k))) := hns
  have HO : Hid (w.ownsRow base 5 1 v n (ds.map (Value.int .u8))) := hown
  clear hns hown
  go_enter Try.func22, Try.ntmps22
  go_wp2_with (at_builtin; go_loud (refine wpList_string_at _ rfl (.tmp 7) _ 25 9 rfl base 5 i0 Try.underlying25 Try.underlying9 hi hz0 hz1 hz2 v n _ rfl (HO.out.alloc _) _ rfl (by show n + 2 ≤ maxLen; unfold maxLen; omega) (by show n + 2 ≤ 140737488355328; omega) (by simp; omega) ?_; intro v1 w1 hown1 happ1; have hc8 := box_cell happ1 (own_ne HO.out) 8 (.int .u8 s) rfl; have HO1 := own20 (ns := ns) (s := s) hown1; have HA1 : Hid (App (w.alloc _) w1 v v1) := happ1; clear hown1 happ1))
  go_loopw [1, 12] (fun vr i wr => ∃ k : Nat, k ≤ 8 ∧ i = .int .i64 k ∧ Hid (wr.ownsRow base 5 1 vr (n + tl k) ((ds ++ txt ns s k).map (Value.int .u8))) ∧ Hid (App (w.alloc (.cells #[Value.int .i64 n0, .int .i64 n1, .int .i64 n2, .int .i64 n3, .int .i64 n4, .int .i64 n5, .int .i64 n6, .int .i64 n7, .int .u8 s] 43)) wr v vr))
    (fun _ i _ => 8 - (intOf i).toNat)
  case atStart => exact ⟨0, Nat.zero_le _, rfl, HO1, HA1⟩
  case round =>
    obtain ⟨k, hk, rfl, HOr, HAr⟩ := hrel
    clear HO1 HA1 hc8
    by_cases hlt : k < 8
    · have hcx := box_cell HAr.out (own_ne HO.out) k (.int .i64 (ns k)) (HN.out k hlt)
      have hix := ix45 s k hlt
      have hl := hlo k hlt
      have hh := hhi k hlt
      have htl : tl k ≤ 30 := by unfold tl; split <;> omega
      have hsz : w.heap.size + 1 ≤ wr.heap.size := by have := HAr.out.1.size; simpa using this
      have hneB : u1.ownBlock ≠ some w.heap.size := HAr.out.ne (by simp) (own_ne HO.out)
      by_cases hk0 : 0 < k
      rotate_left
      · go_wp2_with fail
        go_region_held3 (fun w' => w'.cell? ⟨w.heap.size, k, none⟩ = some (.int .i64 (ns k))) (first | go_keep | (rw [hgrow.cell_far _ (by simp; omega) (Ne.symm hneB)]; assumption))
          ((refine step_append_lies _ (by rfl) _ _ _ (by rfl) base 5 i0 (.int .u8 0) 1 1 Try.underlying25 hi hz0 hz1 hz2 rfl (by decide) u1 (n + tl k) ((ds ++ txt ns s k).map (Value.int .u8)) (by rfl) ((HOr.out.alloc _).drew) ⟨wr.heap.size, 0, none⟩ 2 2 [.int .u8 (dgt (ns k)), .int .u8 (dgu (ns k))] (by rfl) (by rfl) (World.news_of_block (cs := #[.int .u8 (dgt (ns k)), .int .u8 (dgu (ns k))]) (t := 5) (fr := (0, 0)) (heap_alloc_new wr _)) (by simp [Value.oneCell']) (by omega) (by unfold maxLen; omega) (by omega) (by simp; omega) (wr.heap.size + 1) (by simp) ?_; intro g cap w2 hown2 hgrow hat hltg))
        have HA2 : Hid (App wr w2 u1 (.slice (some ⟨g, 0, none⟩) (n + tl k + 2) cap)) := App.lies_drew hgrow hat
        have HO2 := rel0 (by omega) hl hh hown2
        clear hgrow hat hltg hown2 hneB hcx hl hh hix
        go_wp2
        go_roundw
        case rel => exact ⟨k + 1, by omega, by go_num, HO2, HAr.out.trans HA2.out⟩
        case measure => simp [intOf]; omega
      · go_wp2_with (at_builtin; refine wpList_append_lies _ rfl _ _ _ rfl base 5 i0 (.int .u8 0) 1 1 Try.underlying25 hi hz0 hz1 hz2 rfl (by decide) u1 (n + tl k) _ rfl (HOr.out.alloc _) ⟨wr.heap.size, 0, none⟩ 1 1 [.int .u8 (sepf s k)] rfl rfl (cell_one_new _ _ _) (by simp [Value.oneCell']) (by omega) (by unfold maxLen; omega) (by omega) (by simp; omega) (wr.heap.size + 1) (by simp) ?_; intro g1 cap1 w3 hown3 hgrow3 hat3 hlt3; have hcx3 := cell3 hgrow3 hcx hneB; have hsz3 := hgrow3.size; have HA3 := hidApp (App.lies (m := n + tl k + 1) (cap := cap1) hgrow3 hat3); have HO3 : Hid (w3.ownsRow base 5 1 _ _ _) := hown3; clear hgrow3 hat3 hlt3 hown3 hcx)
        have hneB3 : (Value.slice (some ⟨g1, 0, none⟩) (n + tl k + 1) cap1).ownBlock ≠ some w.heap.size := HA3.out.ne (by omega) hneB
        simp only [World.size_alloc] at hsz3
        clear hneB
        have hneB := hneB3
        clear hneB3
        go_region_held3 (fun w' => w'.cell? ⟨w.heap.size, k, none⟩ = some (.int .i64 (ns k))) (first | go_keep | (rw [hgrow.cell_far _ (by simp; omega) (Ne.symm hneB)]; assumption))
          ((refine step_append_lies _ (by rfl) _ _ _ (by rfl) base 5 i0 (.int .u8 0) 1 1 Try.underlying25 hi hz0 hz1 hz2 rfl (by decide) (.slice (some ⟨g1, 0, none⟩) (n + tl k + 1) cap1) (n + tl k + 1) ((ds ++ txt ns s k).map (Value.int .u8) ++ [.int .u8 (sepf s k)]) (by rfl) ((HO3.out.alloc _).drew) ⟨w3.heap.size, 0, none⟩ 2 2 [.int .u8 (dgt (ns k)), .int .u8 (dgu (ns k))] (by rfl) (by rfl) (World.news_of_block (cs := #[.int .u8 (dgt (ns k)), .int .u8 (dgu (ns k))]) (t := 5) (fr := (0, 0)) (heap_alloc_new w3 _)) (by simp [Value.oneCell']) (by omega) (by unfold maxLen; omega) (by omega) (by simp; omega) (w3.heap.size + 1) (by simp) ?_; intro g cap w2 hown2 hgrow hat hltg))
        have HA2 : Hid (App w3 w2 _ (.slice (some ⟨g, 0, none⟩) (n + tl k + 1 + 2) cap)) := App.lies_drew hgrow hat
        have HO2 := rel1 hk0 hl hh hown2
        clear hgrow hat hltg hown2 hneB hl hh hix
        go_wp2
        go_roundw
        case rel => exact ⟨k + 1, by omega, by go_num, HO2, (HAr.out.trans HA3.out).trans HA2.out⟩
        case measure => simp [intOf]; omega
    · go_wp2
      go_ret
      have h8 : k = 8 := by omega
      subst h8
      exact ⟨_, rfl, HOr.out, App.unbox HAr.out⟩

set_option maxHeartbeats 400000 in
/-- ZZAppendRFC3339: the bytes of dst, then the 25 bytes of the text. -/
theorem rfc17 (n0 n1 n2 n3 n4 n5 n6 n7 s : Int) (ns : Nat → Int) (v : Value) (base n : Nat) (ds : List Int) (w : World)
    (hns : ∀ k, k < 8 → #[Value.int .i64 n0, .int .i64 n1, .int .i64 n2, .int .i64 n3, .int .i64 n4, .int .i64 n5, .int .i64 n6, .int .i64 n7, .int .u8 s][k]? = some (.int .i64 (ns k)))
    (hlo : ∀ k, k < 8 → 0 ≤ ns k) (hhi : ∀ k, k < 8 → ns k ≤ 99)
    (hbase : base ≤ w.heap.size) (hown : w.ownsRow base 5 1 v n (ds.map (Value.int .u8))) (hn : n ≤ 1048576) :
    Calls Try.prog 17 #[.agg #[.int .i64 n0, .int .i64 n1, .int .i64 n2, .int .i64 n3, .int .i64 n4, .int .i64 n5, .int .i64 n6, .int .i64 n7], .int .u8 s, v] w fun e w' =>
      ∃ v', e = .returned v' ∧ w'.ownsRow base 5 1 v' (n + 25) ((ds ++ txt ns s 8).map (Value.int .u8)) ∧ App w w' v v' := by
  have HC : Hid (∀ o, Calls Try.prog 22 #[.agg #[.int .i64 n0, .int .i64 n1, .int .i64 n2, .int .i64 n3, .int .i64 n4, .int .i64 n5, .int .i64 n6, .int .i64 n7, .int .u8 s], v] (w.alloc o) fun e w' =>
      ∃ v', e = .returned v' ∧ w'.ownsRow base 5 1 v' (n + 25) ((ds ++ txt ns s 8).map (Value.int .u8)) ∧ App (w.alloc o) w' v v') :=
    fun o => rfc22 n0 n1 n2 n3 n4 n5 n6 n7 s ns v base n ds (w.alloc o) hns hlo hhi (by simp; omega) (hown.alloc o) hn
  clear hns hlo hhi hown
  go_enter Try.func17, Try.ntmps17
  go_wp2_with (go_at_call 22; refine (HC.out _).mono ?_; rintro e w' ⟨v', rfl, hown', happ'⟩)
  go_ret
  exact ⟨_, rfl, hown', happ'.unbox⟩

end Go.Proofs.Qxb6601683a
