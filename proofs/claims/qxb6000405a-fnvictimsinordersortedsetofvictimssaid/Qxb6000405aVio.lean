import Derived.Test.Qxb6000405aClone
/-! victimsInOrder (26), ZZVictimsInOrder (22). -/
namespace Go.Proofs.Qxb6000405a
open Go.RowKit

/-- Is x among the n numbers z? -/
def hasB (z : Nat → Int) (n : Nat) (x : Int) : Bool := (List.range n).any (fun i => z i == x)
theorem hasB_iff (z : Nat → Int) (n : Nat) (x : Int) : hasB z n x = true ↔ ∃ i, i < n ∧ z i = x := by
  simp [hasB]
/-- The answer: those of 'dead' that are victims, in the order of 'dead'. -/
def pick (zv : Nat → Int) (nv : Nat) (zd : Nat → Int) (k : Nat) : List Int := (rowv zd k).filter (fun x => hasB zv nv x)
theorem pick_zero (zv : Nat → Int) (nv : Nat) (zd : Nat → Int) : pick zv nv zd 0 = [] := rfl
theorem pick_step (zv : Nat → Int) (nv : Nat) (zd : Nat → Int) (k : Nat) : pick zv nv zd (k + 1) = pick zv nv zd k ++ (if hasB zv nv (zd k) then [zd k] else []) := by
  simp only [pick, rowv, List.range_succ, List.map_append, List.filter_append, List.map_cons, List.map_nil]
  congr 1
  by_cases h : hasB zv nv (zd k) <;> simp [h]
theorem pick_length (zv : Nat → Int) (nv : Nat) (zd : Nat → Int) (k : Nat) : (pick zv nv zd k).length ≤ k := by
  have := List.length_filter_le (fun x => hasB zv nv x) (rowv zd k)
  rw [rowv_length] at this
  exact this

/-- The flags: p of them. -/
def flags (f : Nat → Bool) (p : Nat) : List Value := (List.range p).map (fun j => Value.bool (f j))
theorem flags_get (f : Nat → Bool) (p j : Nat) (h : j < p) : (flags f p)[j]? = some (.bool (f j)) := by simp [flags, h]
theorem flags_set (f : Nat → Bool) (p m : Nat) : (flags f p).set m (.bool true) = flags (fun j => f j || j == m) p := by
  apply List.ext_getElem?
  intro i
  by_cases hi : i < p
  · by_cases him : i = m
    · subst him; rw [List.getElem?_set_self (by simpa [flags] using hi)]; simp [flags, hi]
    · rw [List.getElem?_set_ne (by omega)]; simp [flags, hi, him]
  · rw [List.getElem?_eq_none (by simp [flags]; omega), List.getElem?_eq_none (by simp [flags]; omega)]
theorem flags_zero (p : Nat) : (madeCells (Value.bool false).cells (p * 1)).toList = flags (fun _ => false) p := by
  have : (Value.bool false).cells = #[Value.bool false] := rfl
  rw [this, toList_madeCells_one]
  apply List.ext_getElem?
  intro i
  by_cases hi : i < p
  · simp [flags, hi]
  · rw [List.getElem?_eq_none (by simp; omega), List.getElem?_eq_none (by simp [flags]; omega)]

theorem hidP {p : Prop} (h : p) : Hid p := h
/-- A mark is set. -/
theorem mark_step {w wr : World} {p k m : Nat} {f : Nat → Bool} {zv : Nat → Int} (hm : zv k = (m : Int)) (h : wr.ownsRow w.heap.size 4 1 (.slice (some ⟨w.heap.size, 0, none⟩) p p) p (flags f p) ∧ ∀ j, j < p → (f j = true ↔ ∃ i, i < k ∧ zv i = (j : Int))) (hg : w.grownBy wr none) :
    Hid ((wr.setCell ⟨w.heap.size, m, none⟩ (.bool true)).ownsRow w.heap.size 4 1 (.slice (some ⟨w.heap.size, 0, none⟩) p p) p (flags (fun j => f j || j == m) p) ∧ ∀ j, j < p → ((f j || j == m) = true ↔ ∃ i, i < k + 1 ∧ zv i = (j : Int))) ∧
    Hid (w.grownBy (wr.setCell ⟨w.heap.size, m, none⟩ (.bool true)) none) := by
  obtain ⟨h1, h2⟩ := h.1.stored m (.bool true)
  refine ⟨⟨by rw [← flags_set]; exact h1, fun j hj => ?_⟩, grown_trans hg h2 (fun g e => ?_)⟩
  · rw [Bool.or_eq_true, h.2 j hj]
    constructor
    · rintro (⟨i, hi, e⟩ | e)
      · exact ⟨i, by omega, e⟩
      · have ej : j = m := by simpa using e
        exact ⟨k, by omega, by rw [hm, ej]⟩
    · rintro ⟨i, hi, e⟩
      by_cases hik : i < k
      · exact .inl ⟨i, hik, e⟩
      · obtain rfl : i = k := by omega
        right
        have : (m : Int) = (j : Int) := by rw [← hm, e]
        simp; omega
  · cases e; exact .inr (Nat.le_refl _)

theorem pick_more {w3 : World} {B q m g cap k : Nat} {zv zd : Nat → Int} (hp : pick zv k zd (q + 1) = pick zv k zd q ++ [(m : Int)])
    (h : w3.ownsRow B 21 1 (.slice (some ⟨g, 0, none⟩) ((pick zv k zd q).length + 1) cap) ((pick zv k zd q).length + 1) ((pick zv k zd q).map (Value.int .i32) ++ [.int .i32 (m : Int)])) :
    Hid (w3.ownsRow B 21 1 (.slice (some ⟨g, 0, none⟩) ((pick zv k zd q).length + 1) cap) (pick zv k zd (q + 1)).length ((pick zv k zd (q + 1)).map (Value.int .i32))) := by
  show w3.ownsRow _ _ _ _ _ _
  rw [hp, List.length_append, List.map_append]
  exact h

set_option maxHeartbeats 400000 in
theorem vio_none (av ad : Option Addr) (cv nd cd : Nat) (p : Int) (w : World) :
    Calls Try.prog 26 #[.slice av 0 cv, .slice ad nd cd, .int .i64 p] w fun e w' => e = .returned (.slice none 0 0) ∧ w = w' := by
  go_enter Try.func26, Try.ntmps26
  go_wp2
  go_ret
  exact ⟨rfl, rfl⟩

set_option maxRecDepth 100000 in
set_option maxHeartbeats 1000000 in
theorem vio_some (av ad : Option Addr) (nv cv nd cd p : Nat) (zv zd : Nat → Int) (w : World) (hv : Rd w av nv zv) (hd : Rd w ad nd zd) (h0 : 0 < nv) (hnv : nv ≤ 1048576) (hnd : nd ≤ 1048576) (hp : p ≤ 65536)
    (hzv : ∀ i, i < nv → 0 ≤ zv i ∧ zv i < p) (hzd : ∀ i, i < nd → 0 ≤ zd i ∧ zd i < p) :
    Calls Try.prog 26 #[.slice av nv cv, .slice ad nd cd, .int .i64 (p : Int)] w fun e w' => ∃ v', e = .returned v' ∧ w'.ownsRow w.heap.size 21 1 v' (pick zv nv zd nd).length ((pick zv nv zd nd).map (Value.int .i32)) ∧ w.grownBy w' none := by
  obtain ⟨i0, hi, hz0, hz1, hz2⟩ := info_parts Try.info21
  obtain ⟨j0, hj, hy0, hy1, hy2⟩ := info_parts Try.info4
  have HV : Hid (Rd w av nv zv ∧ ∀ i, i < nv → 0 ≤ zv i ∧ zv i < p) := ⟨hv, hzv⟩
  have HD : Hid (Rd w ad nd zd ∧ ∀ i, i < nd → 0 ≤ zd i ∧ zd i < p) := ⟨hd, hzd⟩
  have hn0 : ((nv : Int) == 0) = false := by
    have : ¬ (nv : Int) = 0 := by omega
    simpa using this
  clear hv hd hzv hzd
  go_enter Try.func26, Try.ntmps26
  go_wp2_with (at_make; refine wpList_make_full _ rfl _ _ 25 rfl w.heap.size 4 j0 (.bool false) 1 Try.underlying25 hj hy0 hy1 _ _ _ _ p rfl rfl rfl rfl (by rw [hy2]; omega) (by unfold maxLen; omega) (Nat.le_refl _) ?_; intro w1 hown1 hgrow1; rw [flags_zero] at hown1; have HO1 : Hid (w1.ownsRow w.heap.size 4 1 _ p _ ∧ w.grownBy w1 none) := ⟨hown1, hgrow1⟩; clear hown1 hgrow1)
  go_loopw [20, 9] (fun i _ wr => ∃ k : Nat, k ≤ nv ∧ i = .int .i64 k ∧ ∃ f : Nat → Bool, Hid (wr.ownsRow w.heap.size 4 1 (.slice (some ⟨w.heap.size, 0, none⟩) p p) p (flags f p) ∧ ∀ j, j < p → (f j = true ↔ ∃ i, i < k ∧ zv i = (j : Int))) ∧ Hid (w.grownBy wr none)) (fun i _ _ => nv - (intOf i).toNat)
  case atStart => exact ⟨0, Nat.zero_le _, rfl, _, ⟨HO1.out.1, fun j hj => by simp⟩, HO1.out.2⟩
  case round =>
    clear HO1
    obtain ⟨k, hk, rfl, f, HX, HG⟩ := hrel
    by_cases hlt : k < nv
    · obtain ⟨b, o, rfl, hc⟩ := HV.out.1.kept HG.out (fun _ _ => by simp) (by omega)
      have d1 := hc k hlt
      obtain ⟨g1, g2⟩ := HV.out.2 k hlt
      obtain ⟨m, hm⟩ : ∃ m : Nat, zv k = (m : Int) := ⟨(zv k).toNat, by omega⟩
      have HS := hidP (mark_step hm HX.out HG.out)
      rw [hm] at d1 g2
      have hmp : m < p := by omega
      have d2 : wr.cell? ⟨w.heap.size, m, none⟩ = some (.bool (f m)) := by
        rw [HX.out.1.cellAt m (by omega)]; exact flags_get f p m hmp
      have d3 := HX.out.1.frozenAt m
      have hkk : (k : Int) < (nv : Int) := by omega
      clear hc g1 hm
      go_wp2
      go_roundw
      case rel => exact ⟨k + 1, by omega, by go_num, _, HS.out.1, HS.out.2⟩
      case measure => simp [intOf]; omega
    · obtain rfl : k = nv := by omega
      obtain ⟨wq, rfl⟩ : ∃ wq, wq = wr := ⟨wr, rfl⟩
      have hszr : w.heap.size ≤ wq.heap.size := HG.out.size
      have hszx : w.heap.size < wq.heap.size := (HX.out.1.lt w.heap.size rfl).2
      go_wp2_with (at_make; refine wpList_make_own _ rfl _ _ 22 rfl wq.heap.size 21 i0 (.int .i32 0) 1 Try.underlying22 hi hz0 hz1 _ _ _ k rfl rfl rfl (by rw [hz2]; omega) (by unfold maxLen; omega) (Nat.le_refl _) ?_; intro w2 hown2 hg2; have HO2 : Hid (w2.ownsRow wq.heap.size 21 1 _ 0 [] ∧ wq.grownBy w2 none) := ⟨hown2, hg2⟩; clear hown2 hg2)
      go_loopw [10, 33, 12] (fun v i _ wx => ∃ q : Nat, q ≤ nd ∧ i = .int .i64 q ∧ Hid (wx.ownsRow wq.heap.size 21 1 v (pick zv k zd q).length ((pick zv k zd q).map (Value.int .i32))) ∧ Hid (App w2 wx (.slice (some ⟨wq.heap.size, 0, none⟩) 0 k) v)) (fun _ i _ _ => nd - (intOf i).toNat)
      case atStart => exact ⟨0, Nat.zero_le _, rfl, HO2.out.1, App.refl _ _⟩
      case round =>
        obtain ⟨q, hq, rfl, HP, HA⟩ := hrel
        have hsz2 : wq.heap.size ≤ w2.heap.size := HO2.out.2.size
        have hszr : w2.heap.size ≤ wr.heap.size := HA.out.1.size
        have HG3 : Hid (w.grownBy wr none) := grown_trans (grown_trans HG.out HO2.out.2 (fun _ h => by cases h)) HA.out.1 (fun g hg => .inr (by have e2 : wq.heap.size = g := (by simpa [Value.ownBlock] using hg); omega))
        by_cases hqn : q < nd
        · obtain ⟨b, o, rfl, hc⟩ := HD.out.1.kept HG3.out (fun _ _ => by simp) (by omega)
          have d1 := hc q hqn
          obtain ⟨g1, g2⟩ := HD.out.2 q hqn
          obtain ⟨m, hm⟩ : ∃ m : Nat, zd q = (m : Int) := ⟨(zd q).toNat, by omega⟩
          have hps := pick_step zv k zd q
          have hfm : f m = hasB zv k (zd q) := by
            rw [Bool.eq_iff_iff, HX.out.2 m (by omega), hasB_iff, hm]
          rw [hm] at d1 g2 hps hfm
          have hmp : m < p := by omega
          have d2 : wr.cell? ⟨w.heap.size, m, none⟩ = some (.bool (f m)) := by
            refine HA.out.1.cell (a := ⟨w.heap.size, m, none⟩) (HO2.out.2.cell (a := ⟨w.heap.size, m, none⟩) (v := .bool (f m)) ?_ (by simp)) ?_
            · rw [HX.out.1.cellAt m (by omega)]; exact flags_get f p m hmp
            · simp [Value.ownBlock]; omega
          have hqq : (q : Int) < (nd : Int) := by omega
          have hlen := pick_length zv k zd q
          have HPS : Hid (pick zv k zd (q + 1) = _) := hps
          have HF : Hid (f m = _) := hfm
          clear hc g1 hm hps hfm
          by_cases hf : f m = true
          · rw [hf] at d2 HF
            rw [← HF.out, if_pos rfl] at HPS
            clear hf
            go_wp2_with (at_builtin; refine wpList_append_lies _ rfl _ _ _ rfl wq.heap.size 21 i0 (.int .i32 0) 1 4 Try.underlying22 hi hz0 hz1 hz2 rfl (by decide) _ (pick zv k zd q).length _ rfl (HP.out.alloc _) ⟨wr.heap.size, 0, none⟩ 1 1 [.int .i32 (m : Int)] rfl rfl (cell_one_new _ _ _) (by simp [Value.oneCell']) (by omega) (by unfold maxLen; omega) (by omega) (by simp; omega) (wr.heap.size + 1) (by simp) ?_; intro g3 cap3 w3 hown3 hgrow3 hat3 hlt3; have HA3 := hidP (HA.out.trans (App.lies (m := (pick zv k zd q).length + 1) (cap := cap3) hgrow3 hat3)); have HO3 : Hid (w3.ownsRow wq.heap.size 21 1 _ _ _) := hown3; clear hgrow3 hat3 hlt3 hown3)
            go_roundw
            case rel => exact ⟨q + 1, by omega, by go_num, pick_more HPS.out HO3.out, HA3⟩
            case measure => simp [intOf]; omega
          · have hf2 : f m = false := by simpa using hf
            rw [hf2] at d2 HF
            rw [← HF.out, if_neg (by simp), List.append_nil] at HPS
            clear hf hf2
            go_wp2
            go_roundw
            case rel => exact ⟨q + 1, by omega, by go_num, (by rw [HPS.out]; exact HP), HA⟩
            case measure => simp [intOf]; omega
        · obtain rfl : q = nd := by omega
          go_wp2
          go_ret
          exact ⟨_, rfl, own_base HP.out (by omega), HG3.out⟩

end Go.Proofs.Qxb6000405a
