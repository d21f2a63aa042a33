import Derived.Test.Qxb6601683aTextLaw
/-! FnAppendRFC3339LaysOutFields (6), zzBytes (16). -/
namespace Go.Proofs.Qxb6601683a.lays
open Go.RowKit

/-- The k-th of a list of fields. -/
def fld (l : List Int) (k : Nat) : Int := l.getD k 0

theorem fld8 (n0 n1 n2 n3 n4 n5 n6 n7 s : Int) (k : Nat) (hk : k < 8) : (#[.int .i64 n0, .int .i64 n1, .int .i64 n2, .int .i64 n3, .int .i64 n4, .int .i64 n5, .int .i64 n6, .int .i64 n7, .int .u8 s] : Array Value)[k]? = some (.int .i64 (fld [n0, n1, n2, n3, n4, n5, n6, n7] k)) := by
  have h : k = 0 ∨ k = 1 ∨ k = 2 ∨ k = 3 ∨ k = 4 ∨ k = 5 ∨ k = 6 ∨ k = 7 := by omega
  rcases h with rfl | rfl | rfl | rfl | rfl | rfl | rfl | rfl <;> rfl

theorem fld88 (n0 n1 n2 n3 n4 n5 n6 n7 : Int) (k : Nat) (hk : k < 8) : (#[.int .i64 n0, .int .i64 n1, .int .i64 n2, .int .i64 n3, .int .i64 n4, .int .i64 n5, .int .i64 n6, .int .i64 n7] : Array Value)[k]? = some (.int .i64 (fld [n0, n1, n2, n3, n4, n5, n6, n7] k)) := by
  have h : k = 0 ∨ k = 1 ∨ k = 2 ∨ k = 3 ∨ k = 4 ∨ k = 5 ∨ k = 6 ∨ k = 7 := by omega
  rcases h with rfl | rfl | rfl | rfl | rfl | rfl | rfl | rfl <;> rfl

set_option maxHeartbeats 400000 in
theorem z16_yes (n0 n1 n2 n3 n4 n5 n6 n7 s : Int) (ao : Option Addr) (len cap : Nat) (w : World) (h : len ≤ 1048576) :
    Calls Try.prog 16 #[.agg #[.int .i64 n0, .int .i64 n1, .int .i64 n2, .int .i64 n3, .int .i64 n4, .int .i64 n5, .int .i64 n6, .int .i64 n7], .int .u8 s, .slice ao len cap] w fun e w' => e = .returned (.bool true) ∧ w' = w.alloc (.cells #[.int .i64 n0, .int .i64 n1, .int .i64 n2, .int .i64 n3, .int .i64 n4, .int .i64 n5, .int .i64 n6, .int .i64 n7] 33) := by
  have h' : (len : Int) ≤ 1048576 := by omega
  go_enter Try.func16, Try.ntmps16
  go_wp2
  go_ret
  exact ⟨rfl, rfl⟩

set_option maxHeartbeats 400000 in
theorem z16_no (n0 n1 n2 n3 n4 n5 n6 n7 s : Int) (ao : Option Addr) (len cap : Nat) (w : World) (h : ¬ len ≤ 1048576) :
    Calls Try.prog 16 #[.agg #[.int .i64 n0, .int .i64 n1, .int .i64 n2, .int .i64 n3, .int .i64 n4, .int .i64 n5, .int .i64 n6, .int .i64 n7], .int .u8 s, .slice ao len cap] w fun e w' => e = .returned (.bool false) ∧ w' = w.alloc (.cells #[.int .i64 n0, .int .i64 n1, .int .i64 n2, .int .i64 n3, .int .i64 n4, .int .i64 n5, .int .i64 n6, .int .i64 n7] 33) := by
  have h' : (1048576 : Int) < (len : Int) := by omega
  go_enter Try.func16, Try.ntmps16
  go_wp2
  go_ret
  exact ⟨rfl, rfl⟩

/-- The box of the fields. -/
def Box (B : Nat) (n0 n1 n2 n3 n4 n5 n6 n7 : Int) (W : World) : Prop :=
  (W.cell? ⟨B, 0, none⟩ = some (.int .i64 n0) ∧ W.cell? ⟨B, 1, none⟩ = some (.int .i64 n1) ∧ W.cell? ⟨B, 2, none⟩ = some (.int .i64 n2) ∧ W.cell? ⟨B, 3, none⟩ = some (.int .i64 n3) ∧
  W.cell? ⟨B, 4, none⟩ = some (.int .i64 n4) ∧ W.cell? ⟨B, 5, none⟩ = some (.int .i64 n5) ∧ W.cell? ⟨B, 6, none⟩ = some (.int .i64 n6) ∧ W.cell? ⟨B, 7, none⟩ = some (.int .i64 n7)) ∧
  ∀ k, k < 8 → W.cell? ⟨B, k, none⟩ = some (.int .i64 (fld [n0, n1, n2, n3, n4, n5, n6, n7] k))

theorem Box.of {B : Nat} {n0 n1 n2 n3 n4 n5 n6 n7 : Int} {W : World} (h : ∀ k u, (#[.int .i64 n0, .int .i64 n1, .int .i64 n2, .int .i64 n3, .int .i64 n4, .int .i64 n5, .int .i64 n6, .int .i64 n7] : Array Value)[k]? = some u → W.cell? ⟨B, k, none⟩ = some u) : Hid (Box B n0 n1 n2 n3 n4 n5 n6 n7 W) :=
  ⟨⟨h 0 _ rfl, h 1 _ rfl, h 2 _ rfl, h 3 _ rfl, h 4 _ rfl, h 5 _ rfl, h 6 _ rfl, h 7 _ rfl⟩, fun k hk => h k _ (fld88 n0 n1 n2 n3 n4 n5 n6 n7 k hk)⟩

theorem Box.kept {B : Nat} {n0 n1 n2 n3 n4 n5 n6 n7 : Int} {W W' : World} {row : Option Nat} (h : Box B n0 n1 n2 n3 n4 n5 n6 n7 W) (hg : W.grownBy W' row) (hr : row ≠ some B) : Hid (Box B n0 n1 n2 n3 n4 n5 n6 n7 W') := by
  have e : ∀ o u, W.cell? ⟨B, o, none⟩ = some u → W'.cell? ⟨B, o, none⟩ = some u := fun o u hu => hg.cell (a := ⟨B, o, none⟩) hu (Ne.symm hr)
  obtain ⟨⟨x0, x1, x2, x3, x4, x5, x6, x7⟩, hx⟩ := h
  exact ⟨⟨e _ _ x0, e _ _ x1, e _ _ x2, e _ _ x3, e _ _ x4, e _ _ x5, e _ _ x6, e _ _ x7⟩, fun k hk => e _ _ (hx k hk)⟩

/-- The same memory (a draw or more may lie between). -/
def Same (w w' : World) : Prop := w'.heap = w.heap ∧ w'.os = w.os ∧ w'.tape = w.tape ∧ w'.output = w.output
theorem Same.refl (w : World) : Same w w := ⟨rfl, rfl, rfl, rfl⟩
theorem Same.cell {w w' : World} (h : Same w w') {a : Addr} {u : Value} (hu : w.cell? a = some u) : w'.cell? a = some u := by
  rw [← hu]; exact World.cell?_of_block (by rw [h.1])
theorem Same.drewN {w w' : World} (h : Same w w') (n : Nat) : Same w (w'.drewN n) := h
theorem Same.below {w w' : World} (h : Same w w') (B : Nat) : Below B w w' := ⟨h.2.1, h.2.2.1, h.2.2.2, by rw [h.1]; exact Nat.le_refl _, fun k _ => by rw [h.1]⟩

/-- What lies in memory behind the call of appendRFC3339. -/
theorem after17 {w W w1 w2 w3 : World} {n0 n1 n2 n3 n4 n5 n6 n7 s : Int} {ao1 ao2 : Option Addr} {len cap1 cap2 : Nat} {ds : List Int} {v3 : Value} (hG : w.grownBy W none) (hs0 : w.heap.size + 2 ≤ W.heap.size)
    (h1 : w1.ownsRow W.heap.size 5 1 (.slice ao1 len cap1) len (ds.map (Value.int .u8)) ∧ W.grownBy w1 none)
    (h2 : w2.ownsRow w1.heap.size 5 1 (.slice ao2 len cap2) len (ds.map (Value.int .u8)) ∧ w1.grownBy w2 none)
    (hX : Box w.heap.size n0 n1 n2 n3 n4 n5 n6 n7 w2)
    (h3 : w3.ownsRow W.heap.size 5 1 v3 (len + 25) ((ds ++ txt (fld [n0, n1, n2, n3, n4, n5, n6, n7]) s 8).map (Value.int .u8))) (ha : App w2 w3 (.slice ao1 len cap1) v3) :
    ∃ g off cap3, v3 = .slice (some ⟨g, off, none⟩) (len + 25) cap3 ∧ len + 25 ≤ cap3 ∧ ∃ zg : Nat → Int,
      Hid (∀ i, i < len + 25 → w3.cell? ⟨g, off + i, none⟩ = some (.int .u8 (zg i))) ∧
      Hid (0 < len → ∃ pb qb, ao2 = some ⟨pb, qb, none⟩ ∧ ∀ i, i < len → w3.cell? ⟨pb, qb + i, none⟩ = some (.int .u8 (zg i))) ∧
      Hid (∀ j, j < 25 → w3.cell? ⟨g, off + len + j, none⟩ = some (.int .u8 ((txt (fld [n0, n1, n2, n3, n4, n5, n6, n7]) s 8).getD j 0))) ∧
      Hid (Box w.heap.size n0 n1 n2 n3 n4 n5 n6 n7 w3) ∧ Hid (Below w.heap.size w w3 ∧ w.heap.size + 2 ≤ w3.heap.size) := by
  have s1 := h1.2.size
  have s2 := h2.2.size
  have s3 := ha.1.size
  obtain ⟨ao3, cap3, rfl, hc3⟩ := own_form h3
  have hlds : ds.length = len := by simpa using h1.1.1
  obtain ⟨g, off, rfl, hcell⟩ := (Bs.of_own h3).at (by omega)
  have hrow : ∀ k, (Value.slice ao1 len cap1).ownBlock = some k → W.heap.size ≤ k ∧ k < w1.heap.size := h1.1.lt
  refine ⟨g, off, cap3, rfl, hc3, fun i => (ds ++ txt (fld [n0, n1, n2, n3, n4, n5, n6, n7]) s 8).getD i 0, hcell, fun hpos => ?_, fun j hj => ?_, hX.kept ha.1 (fun e => ?_), ?_, ?_⟩
  · have hb := (Bs.of_own h2.1).kept ha.1 (fun x hx e => by
      subst hx
      have e1 := hrow _ e.symm
      have e2 := (h2.1.lt x.block rfl).1
      omega)
    obtain ⟨pb, qb, rfl, hc⟩ := hb.at hpos
    refine ⟨pb, qb, rfl, fun i hi => ?_⟩
    rw [hc i hi]
    simp [List.getD, List.getElem?_append_left (show i < ds.length by omega)]
  · have := hcell (len + j) (by omega)
    rw [← Nat.add_assoc] at this
    rw [this]
    simp [List.getD, List.getElem?_append_right (show ds.length ≤ len + j by omega), hlds]
  · have := hrow _ e
    omega
  · have hg : w.grownBy w3 none := grown_trans (grown_trans (grown_trans hG h1.2 (fun _ h => by cases h)) h2.2 (fun _ h => by cases h)) ha.1 (fun k hk => .inr (by have := hrow k hk; omega))
    exact grown_below hg
  · omega

theorem sp7 (k : Nat) (hk : k < 7) : (#[.int .i64 4, .int .i64 7, .int .i64 10, .int .i64 13, .int .i64 16, .int .i64 19, .int .i64 22] : Array Value)[k]? = some (.int .i64 (3 * (k : Int) + 4)) := by
  have h : k = 0 ∨ k = 1 ∨ k = 2 ∨ k = 3 ∨ k = 4 ∨ k = 5 ∨ k = 6 := by omega
  rcases h with rfl | rfl | rfl | rfl | rfl | rfl | rfl <;> rfl

theorem fp8 (k : Nat) (hk : k < 8) : (#[.int .i64 2, .int .i64 5, .int .i64 8, .int .i64 11, .int .i64 14, .int .i64 17, .int .i64 20, .int .i64 23] : Array Value)[k]? = some (.int .i64 (3 * (k : Int) + 2)) := by
  have h : k = 0 ∨ k = 1 ∨ k = 2 ∨ k = 3 ∨ k = 4 ∨ k = 5 ∨ k = 6 ∨ k = 7 := by omega
  rcases h with rfl | rfl | rfl | rfl | rfl | rfl | rfl | rfl <;> rfl

theorem sv7 (ns : Nat → Int) (s : Int) (k : Nat) (hk : k < 7) : (#[.int .u8 45, .int .u8 45, .int .u8 84, .int .u8 58, .int .u8 58, .int .u8 s, .int .u8 58] : Array Value)[k]? = some (.int .u8 ((txt ns s 8).getD (3 * k + 4) 0)) := by
  rw [txt8]
  have h : k = 0 ∨ k = 1 ∨ k = 2 ∨ k = 3 ∨ k = 4 ∨ k = 5 ∨ k = 6 := by omega
  rcases h with rfl | rfl | rfl | rfl | rfl | rfl | rfl <;> rfl

theorem tf (ns : Nat → Int) (s : Int) (k : Nat) (hk : k < 8) : (txt ns s 8).getD (3 * k + 2) 0 = 48 + ns k / 10 ∧ (txt ns s 8).getD (3 * k + 3) 0 = 48 + ns k % 10 := by
  rw [txt8]
  have h : k = 0 ∨ k = 1 ∨ k = 2 ∨ k = 3 ∨ k = 4 ∨ k = 5 ∨ k = 6 ∨ k = 7 := by omega
  rcases h with rfl | rfl | rfl | rfl | rfl | rfl | rfl | rfl <;> exact ⟨rfl, rfl⟩

theorem Box.same {B : Nat} {n0 n1 n2 n3 n4 n5 n6 n7 : Int} {W W' : World} (h : Box B n0 n1 n2 n3 n4 n5 n6 n7 W) (hs : Same W W') : Box B n0 n1 n2 n3 n4 n5 n6 n7 W' :=
  (h.kept (row := none) (below_grown (hs.below _)) (by simp)).out

theorem afterSep {w w3 wr : World} {n0 n1 n2 n3 n4 n5 n6 n7 s : Int} {g o : Nat} (hS : Same w3 wr)
    (hT : ∀ j, j < 25 → w3.cell? ⟨g, o + j, none⟩ = some (.int .u8 ((txt (fld [n0, n1, n2, n3, n4, n5, n6, n7]) s 8).getD j 0)))
    (hX : Box w.heap.size n0 n1 n2 n3 n4 n5 n6 n7 w3) (hG : Below w.heap.size w w3 ∧ w.heap.size + 2 ≤ w3.heap.size) :
    ∃ w4, w4 = (wr.alloc (.cells #[.int .i64 4, .int .i64 7, .int .i64 10, .int .i64 13, .int .i64 16, .int .i64 19, .int .i64 22] 36)).alloc (.cells #[.int .u8 45, .int .u8 45, .int .u8 84, .int .u8 58, .int .u8 58, .int .u8 s, .int .u8 58] 37) ∧
      Hid (∀ k, k < 7 → w4.cell? ⟨wr.heap.size, k, none⟩ = some (.int .i64 (3 * (k : Int) + 4))) ∧
      Hid (∀ k, k < 7 → w4.cell? ⟨wr.heap.size + 1, k, none⟩ = some (.int .u8 ((txt (fld [n0, n1, n2, n3, n4, n5, n6, n7]) s 8).getD (3 * k + 4) 0))) ∧
      Hid (∀ j, j < 25 → w4.cell? ⟨g, o + j, none⟩ = some (.int .u8 ((txt (fld [n0, n1, n2, n3, n4, n5, n6, n7]) s 8).getD j 0))) ∧
      Hid (Box w.heap.size n0 n1 n2 n3 n4 n5 n6 n7 w4) ∧ Hid (Below w.heap.size w w4 ∧ w.heap.size + 2 ≤ w4.heap.size) := by
  have hg : wr.grownBy ((wr.alloc (.cells #[.int .i64 4, .int .i64 7, .int .i64 10, .int .i64 13, .int .i64 16, .int .i64 19, .int .i64 22] 36)).alloc (.cells #[.int .u8 45, .int .u8 45, .int .u8 84, .int .u8 58, .int .u8 58, .int .u8 s, .int .u8 58] 37)) none := grown_alloc (World.grownBy_alloc _ _ _) _
  have hsz : wr.heap.size = w3.heap.size := by rw [hS.1]
  refine ⟨_, rfl, fun k hk => ?_, fun k hk => ?_, fun j hj => hg.cell (hS.cell (hT j hj)) (by simp), (hX.same hS).kept hg (by simp), ?_, ?_⟩
  · rw [World.cell?_alloc_past _ _ _ (by simp), World.cell?_alloc_at _ _ _ _ rfl]; exact sp7 k hk
  · rw [World.cell?_alloc_at _ _ _ _ (by simp)]; exact sv7 _ s k hk
  · exact (hG.1.trans (hS.below _)).trans ((grown_below hg).mono (by omega))
  · have := hG.2
    simp
    omega

theorem afterFld {w w3 wr : World} {n0 n1 n2 n3 n4 n5 n6 n7 s : Int} {g o : Nat} (hS : Same w3 wr)
    (hT : ∀ j, j < 25 → w3.cell? ⟨g, o + j, none⟩ = some (.int .u8 ((txt (fld [n0, n1, n2, n3, n4, n5, n6, n7]) s 8).getD j 0)))
    (hX : Box w.heap.size n0 n1 n2 n3 n4 n5 n6 n7 w3) (hG : Below w.heap.size w w3 ∧ w.heap.size + 2 ≤ w3.heap.size) :
    ∃ w4, w4 = wr.alloc (.cells #[.int .i64 2, .int .i64 5, .int .i64 8, .int .i64 11, .int .i64 14, .int .i64 17, .int .i64 20, .int .i64 23] 33) ∧
      Hid (∀ k, k < 8 → w4.cell? ⟨wr.heap.size, k, none⟩ = some (.int .i64 (3 * (k : Int) + 2))) ∧
      Hid (∀ k, k < 8 → w4.cell? ⟨g, o + (3 * k + 2), none⟩ = some (.int .u8 (48 + fld [n0, n1, n2, n3, n4, n5, n6, n7] k / 10)) ∧ w4.cell? ⟨g, o + (3 * k + 2 + 1), none⟩ = some (.int .u8 (48 + fld [n0, n1, n2, n3, n4, n5, n6, n7] k % 10))) ∧
      Hid (Box w.heap.size n0 n1 n2 n3 n4 n5 n6 n7 w4) ∧ Hid (Below w.heap.size w w4 ∧ w.heap.size + 2 ≤ w4.heap.size) := by
  have hg : wr.grownBy (wr.alloc (.cells #[.int .i64 2, .int .i64 5, .int .i64 8, .int .i64 11, .int .i64 14, .int .i64 17, .int .i64 20, .int .i64 23] 33)) none := World.grownBy_alloc _ _ _
  have hsz : wr.heap.size = w3.heap.size := by rw [hS.1]
  refine ⟨_, rfl, fun k hk => ?_, fun k hk => ⟨?_, ?_⟩, (hX.same hS).kept hg (by simp), ?_, ?_⟩
  · rw [World.cell?_alloc_at _ _ _ _ rfl]; exact fp8 k hk
  · rw [← (tf (fld [n0, n1, n2, n3, n4, n5, n6, n7]) s k hk).1]; exact hg.cell (hS.cell (hT (3 * k + 2) (by omega))) (by simp)
  · rw [← (tf (fld [n0, n1, n2, n3, n4, n5, n6, n7]) s k hk).2]; exact hg.cell (hS.cell (hT (3 * k + 3) (by omega))) (by simp)
  · exact (hG.1.trans (hS.below _)).trans ((grown_below hg).mono (by omega))
  · have := hG.2
    simp
    omega

set_option maxRecDepth 100000 in
set_option maxHeartbeats 4000000 in
theorem walk (n0 n1 n2 n3 n4 n5 n6 n7 s : Int) (ao : Option Addr) (len cap : Nat) (ds : List Int) (w : World) (hds : Bs w ao len ds) :
    Calls Try.prog 6 #[.agg #[.int .i64 n0, .int .i64 n1, .int .i64 n2, .int .i64 n3, .int .i64 n4, .int .i64 n5, .int .i64 n6, .int .i64 n7], .int .u8 s, .slice ao len cap] w fun e w' => e = .returned (.bool true) ∧ Below w.heap.size w w' := by
  by_cases hlen : len ≤ 1048576
  rotate_left
  · have h' : (1048576 : Int) < (len : Int) := by omega
    go_enter Try.func6, Try.ntmps6
    go_wp2_with (go_at_call 16; refine (z16_no _ _ _ _ _ _ _ _ _ _ _ _ _ hlen).mono ?_; rintro e w' ⟨rfl, rfl⟩)
    go_ret
    exact ⟨rfl, ((Below.refl _ _).alloc (Nat.le_refl _) _).alloc (by simp) _⟩
  have hlen' : (len : Int) ≤ 1048576 := by omega
  obtain ⟨W, hW⟩ : ∃ W, W = (w.alloc (.cells #[.int .i64 n0, .int .i64 n1, .int .i64 n2, .int .i64 n3, .int .i64 n4, .int .i64 n5, .int .i64 n6, .int .i64 n7] 33)).alloc (.cells #[.int .i64 n0, .int .i64 n1, .int .i64 n2, .int .i64 n3, .int .i64 n4, .int .i64 n5, .int .i64 n6, .int .i64 n7] 33) := ⟨_, rfl⟩
  have HG : Hid (w.grownBy W none) := by rw [hW]; exact grown_alloc (World.grownBy_alloc _ _ _) _
  have HX : Hid (Box w.heap.size n0 n1 n2 n3 n4 n5 n6 n7 W) := Box.of fun k u hu => by
    rw [hW, World.cell?_alloc_past _ _ _ (by simp), World.cell?_alloc_at _ _ _ _ rfl]; exact hu
  have hs0 : w.heap.size + 2 ≤ W.heap.size := by rw [hW]; simp
  have HW : Hid (W = _) := hW
  have HD : Hid (Bs w ao len ds) := hds
  clear hW hds
  go_enter Try.func6, Try.ntmps6
  go_wp2_with (go_at_call 16; refine (z16_yes _ _ _ _ _ _ _ _ _ _ _ _ _ hlen).mono ?_; rintro e w' ⟨rfl, rfl⟩)
  rw [← HW.out]
  clear HW
  go_loop [7] (fun i => ∃ k : Nat, k ≤ 8 ∧ i = .int .i64 k ∧ Hid (∀ j, j < k → 0 ≤ fld [n0, n1, n2, n3, n4, n5, n6, n7] j ∧ fld [n0, n1, n2, n3, n4, n5, n6, n7] j ≤ 99)) (fun i => 8 - (intOf i).toNat)
  case atStart => exact ⟨0, Nat.zero_le _, rfl, fun j hj => by omega⟩
  case round =>
    obtain ⟨k, hk, rfl, HR⟩ := hrel
    by_cases hlt : k < 8
    · have c1 := HX.out.2 k hlt
      by_cases g1 : fld [n0, n1, n2, n3, n4, n5, n6, n7] k < 0
      · go_wp2
        go_ret
        exact ⟨rfl, grown_below HG.out⟩
      by_cases g2 : 99 < fld [n0, n1, n2, n3, n4, n5, n6, n7] k
      · go_wp2
        go_ret
        exact ⟨rfl, grown_below HG.out⟩
      go_wp2
      go_round
      case rel =>
        refine ⟨k + 1, by omega, by go_num, fun j hj => ?_⟩
        by_cases hjk : j < k
        · exact HR.out j hjk
        · obtain rfl : j = k := by omega
          exact ⟨by omega, by omega⟩
      case measure => simp [intOf]; omega
    have hk8 : k = 8 := by omega
    have HF : Hid (∀ j, j < 8 → 0 ≤ fld [n0, n1, n2, n3, n4, n5, n6, n7] j ∧ fld [n0, n1, n2, n3, n4, n5, n6, n7] j ≤ 99) := by subst hk8; exact HR.out
    clear hk8
    go_wp2_with fail
    refine (clone_any _ _ _ ds _ (HD.out.below HG.out) hlen).mono ?_
    rintro e w1 ⟨ao1, cap1, rfl, hown1, hg1⟩
    have HO1 : Hid (_ ∧ _) := ⟨hown1, hg1⟩
    clear hown1 hg1
    go_wp2_with fail
    refine (clone_any _ _ _ ds _ (Bs.of_own HO1.out.1) hlen).mono ?_
    rintro e w2 ⟨ao2, cap2, rfl, hown2, hg2⟩
    have HO2 : Hid (_ ∧ _) := ⟨hown2, hg2⟩
    have HX2 := HX.out.kept (grown_trans HO1.out.2 hg2 (fun _ h => by cases h)) (by simp)
    obtain ⟨x0, x1, x2, x3, x4, x5, x6, x7⟩ := HX2.out.1
    clear hown2 hg2
    go_wp2_with fail
    refine (rfc17 n0 n1 n2 n3 n4 n5 n6 n7 s (fld [n0, n1, n2, n3, n4, n5, n6, n7]) (.slice ao1 len cap1) W.heap.size len ds w2 (fld8 n0 n1 n2 n3 n4 n5 n6 n7 s) (fun k hk => (HF.out k hk).1) (fun k hk => (HF.out k hk).2) (by have h1 := HO1.out.2.size; have h2 := HO2.out.2.size; omega) (own_below HO1.out.1 HO2.out.2) hlen).mono ?_
    rintro e w3 ⟨v3, rfl, hown3, happ3⟩
    obtain ⟨g, off, cap3, rfl, hcap3, zg, HC, HBf, HT, HX3, HG3⟩ := after17 HG.out hs0 HO1.out HO2.out HX2.out hown3 happ3
    clear HO1 HO2 HX2 x0 x1 x2 x3 x4 x5 x6 x7 hown3 happ3 HD HX HR
    have hs3 : w.heap.size + 2 ≤ w3.heap.size := HG3.out.2
    go_wp2
    go_loopw [10] (fun i wr => ∃ k : Nat, k ≤ len ∧ i = .int .i64 k ∧ Hid (Same w3 wr)) (fun i _ => len - (intOf i).toNat)
    case atStart => exact ⟨0, Nat.zero_le _, rfl, Same.refl _⟩
    case round =>
      obtain ⟨k, hk, rfl, HS⟩ := hrel
      by_cases hlt : k < len
      · obtain ⟨pb, qb, rfl, hb⟩ := HBf.out (by omega)
        have c1 := HS.out.cell (HC.out k (by omega))
        have c2 := HS.out.cell (hb k hlt)
        have hk0 : (0 : Int) ≤ (k : Int) := by omega
        have hk1 : (k : Int) < (len : Int) := by omega
        have hk2 : (k : Int) < ((len + 25 : Nat) : Int) := by omega
        clear hb
        go_wp2
        go_quiet (fail)
        go_wp2
        go_roundw
        case rel => exact ⟨k + 1, by omega, by go_num, HS.out.drewN _⟩
        case measure => simp [intOf]; omega
      · have t0 := HS.out.cell (HT.out 0 (by omega))
        have t1 := HS.out.cell (HT.out 1 (by omega))
        rw [txt8] at t0 t1
        simp only [Nat.add_zero, List.getD_cons_zero, List.getD_cons_succ] at t0 t1
        obtain ⟨w4, hw4, P4, V4, T4, HX4, HG4⟩ := afterSep (wr := wr) HS.out HT.out HX3.out HG3.out
        have hs4 : w.heap.size + 2 ≤ w4.heap.size := HG4.out.2
        have HW4 : Hid (w4 = _) := hw4
        clear hw4 HX3 HG3 HT HC HBf
        go_wp2
        rw [← HW4.out]
        clear HW4 t0 t1
        go_loopw [14] (fun i wr => ∃ k : Nat, k ≤ 7 ∧ i = .int .i64 k ∧ Hid (Same w4 wr)) (fun i _ => 7 - (intOf i).toNat)
        case atStart => exact ⟨0, Nat.zero_le _, rfl, Same.refl _⟩
        case round =>
          obtain ⟨k, hk, rfl, HS4⟩ := hrel
          by_cases hlt : k < 7
          · have c1 := HS4.out.cell (P4.out k hlt)
            have c2 := HS4.out.cell (V4.out k hlt)
            have c3 := HS4.out.cell (T4.out (3 * k + 4) (by omega))
            have hk0 : (0 : Int) ≤ (k : Int) := by omega
            have hk1 : (k : Int) < 7 := by omega
            have hk2 : (0 : Int) ≤ 3 * (k : Int) + 4 := by omega
            have hk3 : 3 * (k : Int) + 4 < 25 := by omega
            go_wp2
            go_quiet (fail)
            go_wp2
            go_roundw
            case rel => exact ⟨k + 1, by omega, by go_num, HS4.out.drewN _⟩
            case measure => simp [intOf]; omega
          · obtain ⟨w5, hw5, P5, T5, HX5, HG5⟩ := afterFld (wr := wr) HS4.out T4.out HX4.out HG4.out
            have HW5 : Hid (w5 = _) := hw5
            clear hw5 HX4 HG4 T4 P4 V4
            go_wp2
            rw [← HW5.out]
            clear HW5
            go_loop [16, 17, 18] (fun i _ _ => ∃ k : Nat, k ≤ 8 ∧ i = .int .i64 k) (fun i _ _ => 8 - (intOf i).toNat)
            case atStart => exact ⟨0, Nat.zero_le _, rfl⟩
            case round =>
              obtain ⟨k, hk, rfl⟩ := hrel
              by_cases hlt : k < 8
              · have c1 := P5.out k hlt
                have c2 := (T5.out k hlt).1
                have c3 := (T5.out k hlt).2
                have c4 := HX5.out.2 k hlt
                have g1 := (HF.out k hlt).1
                have g2 := (HF.out k hlt).2
                go_wp2
                go_round
                case rel => exact ⟨k + 1, by omega, by go_num⟩
                case measure => simp [intOf]; omega
              · go_wp2
                go_ret
                exact ⟨rfl, HG5.out.1⟩

end Go.Proofs.Qxb6601683a.lays
