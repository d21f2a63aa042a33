import Derived.Test.Qxb6001408aRule
import Derived.Deep.RegionHeld3
import Derived.Deep.RegionLaw
import Derived.Deep.AppendLies
/-! ZZAppendRule (37), zzAdd (22). -/
namespace Go.Proofs.Qxb6001408a
open Go.RowKit

/-- A rule as it lies in memory. -/
structure Rl where
  who : ByteArray
  aa : Option Addr
  na : Nat
  ca : Nat
  za : Nat → ByteArray
  pat : ByteArray
def Rl.cells (r : Rl) : List Value := [.string r.who, .slice r.aa r.na r.ca, .string r.pat]
def flat (L : List Rl) : List Value := L.flatMap Rl.cells

/-- A rule's actions lie apart from the rules' own row. -/
def ROk (w : World) (Br : Nat) (v : Value) (r : Rl) : Prop :=
  RdS w r.aa r.na r.za ∧ r.na ≤ 1048576 ∧ r.pat.size ≤ 1048576 ∧ ∀ x, r.aa = some x → x.block < w.heap.size ∧ x.block ≠ Br ∧ some x.block ≠ v.ownBlock

/-- The rules L lie behind the pointer to block Br. -/
def Inv (w : World) (Br base : Nat) (v : Value) (L : List Rl) : Prop :=
  w.cell? ⟨Br, 0, none⟩ = some v ∧ w.frozen? ⟨Br, 0, none⟩ = false ∧ w.ownsRow base 57 3 v L.length (flat L) ∧ v.ownBlock ≠ some Br ∧ ∀ r ∈ L, ROk w Br v r

theorem Try.info57 : (Try.prog.info? 57).map (fun i => (i.zero, i.size, i.bytes)) = some (some (.agg #[.string ⟨#[]⟩, .slice none 0 0, .string ⟨#[]⟩]), 3, 56) := by kernel_rfl

theorem heap_new2 (w : World) (o1 o2 : Obj) : ((w.alloc o1).alloc o2).heap[w.heap.size + 1]? = some o2 := by
  have h := heap_alloc_new (w.alloc o1) o2
  rw [show (w.alloc o1).heap.size = w.heap.size + 1 by simp] at h
  exact h

theorem grown_set (w : World) (b o : Nat) (u : Value) : w.grownBy (w.setCell ⟨b, o, none⟩ u) (some b) :=
  ⟨rfl, rfl, rfl, by simp, fun k _ hk => heap_setCell_other w ⟨b, o, none⟩ k u (fun e => hk (by simp [e]))⟩

theorem inv_step {w w2 : World} {Br base g cap : Nat} {v : Value} {L : List Rl} {r : Rl} {o1 o2 : Obj} (hI : Inv w Br base v L) (hr : ROk w Br v r) (hbase : base ≤ w.heap.size)
    (hown2 : w2.ownsRow base 57 3 (.slice (some ⟨g, 0, none⟩) (L.length + 1) cap) (L.length + 1) (flat L ++ [.string r.who, .slice r.aa r.na r.ca, .string r.pat]))
    (hgrow : ((w.alloc o1).alloc o2).drew.grownBy w2 v.ownBlock) (hat : v.ownBlock = some g ∨ g = w.heap.size + 2) :
    Inv (w2.setCell ⟨Br, 0, none⟩ (.slice (some ⟨g, 0, none⟩) (L.length + 1) cap)) Br base (.slice (some ⟨g, 0, none⟩) (L.length + 1) cap) (L ++ [r]) ∧
      w.heap.size ≤ (w2.setCell ⟨Br, 0, none⟩ (.slice (some ⟨g, 0, none⟩) (L.length + 1) cap)).heap.size ∧
      ∀ B, B ≤ Br → B ≤ base → Below B w (w2.setCell ⟨Br, 0, none⟩ (.slice (some ⟨g, 0, none⟩) (L.length + 1) cap)) := by
  obtain ⟨hc, hf, hown, hne, hR⟩ := hI
  have hBr := World.block_lt_of_cell? w _ hc
  have hBr' : Br < w.heap.size := hBr
  have gA : w.grownBy w2 v.ownBlock := grown_trans (grown_drew (grown_alloc (World.grownBy_alloc w o1 v.ownBlock) o2)) hgrow (fun _ h => .inl h)
  have hs := gA.size
  have gB := grown_set w2 Br 0 (.slice (some ⟨g, 0, none⟩) (L.length + 1) cap)
  have hgBr : g ≠ Br := by
    rcases hat with h | h
    · intro e; subst e; exact hne h
    · omega
  have hsz : (w2.setCell ⟨Br, 0, none⟩ (.slice (some ⟨g, 0, none⟩) (L.length + 1) cap)).heap.size = w2.heap.size := by simp
  have keep : ∀ r' : Rl, ROk w Br v r' → ROk (w2.setCell ⟨Br, 0, none⟩ (.slice (some ⟨g, 0, none⟩) (L.length + 1) cap)) Br (.slice (some ⟨g, 0, none⟩) (L.length + 1) cap) r' := by
    rintro r' ⟨k1, k2, k3, k4⟩
    refine ⟨(k1.kept gA (fun x hx => (k4 x hx).2.2)).kept gB (fun x hx e => (k4 x hx).2.1 (by simpa using e)), k2, k3, fun x hx => ⟨by have := (k4 x hx).1; omega, (k4 x hx).2.1, fun e => ?_⟩⟩
    have e' : x.block = g := by simpa [Value.ownBlock] using e
    rcases hat with h | h
    · exact (k4 x hx).2.2 (by rw [h, e'])
    · have := (k4 x hx).1; omega
  have hc2 : w2.cell? ⟨Br, 0, none⟩ = some v := gA.cell (a := ⟨Br, 0, none⟩) hc (Ne.symm hne)
  have hf2 : w2.frozen? ⟨Br, 0, none⟩ = false := by rw [World.frozen?_of_block (w := w) (a := ⟨Br, 0, none⟩) (gA.block Br hBr' (Ne.symm hne))]; exact hf
  refine ⟨⟨?_, ?_, ?_, ?_, ?_⟩, by omega, fun B h1 h2 => ?_⟩
  · exact World.cell?_setCell_same _ _ _ hc2
  · simpa using hf2
  · have e1 : (L ++ [r]).length = L.length + 1 := by simp
    have e2 : flat (L ++ [r]) = flat L ++ [.string r.who, .slice r.aa r.na r.ca, .string r.pat] := by simp [flat, Rl.cells]
    rw [e1, e2]
    exact hown2.kept gB (.inr (by simp [Value.ownBlock, hgBr]))
  · simp [Value.ownBlock, hgBr]
  · intro r' hr'
    rcases List.mem_append.1 hr' with h | h
    · exact keep r' (hR r' h)
    · simp at h; subst h; exact keep r' hr
  · have b1 : Below B w w2 := (Below.refl B w).grown gA (by omega) (fun k hk => Nat.le_trans h2 (hown.lt k hk).1)
    exact b1.setCell (p := ⟨Br, 0, none⟩) h1 _

set_option maxRecDepth 100000 in
set_option maxHeartbeats 2000000 in
theorem app37 (Br base : Nat) (v : Value) (L : List Rl) (r : Rl) (w : World) (hI : Inv w Br base v L) (hr : ROk w Br v r) (hbase : base ≤ w.heap.size) (hL : L.length ≤ 1048576) :
    Calls Try.prog 37 #[.pointer (some ⟨Br, 0, none⟩), .string r.who, .slice r.aa r.na r.ca, .agg #[.string r.pat]] w fun e w' => e = .returned (.tuple #[]) ∧ ∃ v', Inv w' Br base v' (L ++ [r]) ∧ w.heap.size ≤ w'.heap.size ∧ ∀ B, B ≤ Br → B ≤ base → Below B w w' := by
  obtain ⟨i0, hi, hz0, hz1, hz2⟩ := info_parts Try.info57
  have HI := hidP hI
  have HR := hidP hr
  obtain ⟨hc, hf, hown, hne, hR⟩ := hI
  have HO := hidP hown
  have hlt := World.block_lt_of_cell? w _ hc
  clear hR hown hr
  go_enter Try.func37, Try.ntmps37
  go_wp2_with fail
  go_region_law (refine step_append_lies _ (by rfl) _ _ _ (by rfl) base 57 i0 _ 3 56 Try.underlying39 hi hz0 hz1 hz2 rfl (by decide) v L.length (flat L) (by rfl) (((HO.out.alloc _).alloc _).drew) ⟨w.heap.size + 1, 0, none⟩ 1 1 [.string r.who, .slice r.aa r.na r.ca, .string r.pat] (by rfl) (by rfl) (World.news_of_block (cs := #[.string r.who, .slice r.aa r.na r.ca, .string r.pat]) (t := 57) (fr := (0, 0)) (by exact heap_new2 _ _ _)) (by simp [Value.oneCell']) (by omega) (by unfold maxLen; omega) (by omega) (by simp; omega) (w.heap.size + 2) (by simp) ?_; intro g cap w2 hown2 hgrow hat hltg; have hc2 := (hgrow.cell_far ⟨Br, 0, none⟩ (by simp; omega) (Ne.symm hne)); have hf2 := (hgrow.frozen_far ⟨Br, 0, none⟩ (by simp; omega) (Ne.symm hne)))
  all_goals
    go_end0
    exact ⟨rfl, _, inv_step HI.out HR.out hbase hown2 hgrow hat⟩

theorem RdS.of_below {w w' : World} {ao : Option Addr} {n B : Nat} {z : Nat → ByteArray} (h : RdS w ao n z) (hb : Below B w w') (hk : 0 < n → ∀ x, ao = some x → x.block < B) : RdS w' ao n z := fun hn => by
  obtain ⟨b, o, e, hc⟩ := h hn
  exact ⟨b, o, e, fun i hi => by rw [hb.cell (p := ⟨b, o + i, none⟩) (hk hn ⟨b, o, none⟩ e)]; exact hc i hi⟩
theorem cellN {w w' : World} {b : Nat} (hg : w.grownBy w' none) (hb : b < w.heap.size) : ∀ o, w'.cell? ⟨b, o, none⟩ = w.cell? ⟨b, o, none⟩ :=
  fun o => World.cell?_of_block (a := ⟨b, o, none⟩) (hg.block b hb (by simp))
theorem Inv.below {w w' : World} {Br base : Nat} {v : Value} {L : List Rl} (h : Inv w Br base v L) (hg : w.grownBy w' none) : Inv w' Br base v L := by
  obtain ⟨hc, hf, hown, hne, hR⟩ := h
  have hBr := World.block_lt_of_cell? w _ hc
  have hs := hg.size
  refine ⟨hg.cell hc (by simp), ?_, own_below hown hg, hne, fun r hr => ?_⟩
  · rw [World.frozen?_of_block (w := w) (a := ⟨Br, 0, none⟩) (hg.block Br hBr (by simp))]; exact hf
  · obtain ⟨k1, k2, k3, k4⟩ := hR r hr
    exact ⟨k1.below hg, k2, k3, fun x hx => ⟨by have := (k4 x hx).1; omega, (k4 x hx).2⟩⟩

theorem Inv.drew {w : World} {Br base : Nat} {v : Value} {L : List Rl} (h : Inv w Br base v L) : Inv w.drew Br base v L := h.below (grown_drew (World.grownBy.refl _ _))
theorem add_inv {w w1 w2 : World} {Br base : Nat} {v : Value} {L : List Rl} (h : Inv w Br base v L) (h1 : w.drew.grownBy w1 none) (h2 : w1.grownBy w2 none) : Inv w2 Br base v L := (h.drew.below h1).below h2
theorem add_ok {w w1 w2 : World} {Br base fn : Nat} {v : Value} {L : List Rl} {who pat : ByteArray} {za : Nat → ByteArray} (h : Inv w Br base v L) (h1 : RdS w1 (some ⟨w.heap.size, 0, none⟩) fn za ∧ w.drew.grownBy w1 none ∧ w.heap.size < w1.heap.size) (h2 : w1.grownBy w2 none)
    (hp : pat.size ≤ 1048576) (hn : fn ≤ 1048576) : ROk w2 Br v ⟨who, some ⟨w.heap.size, 0, none⟩, fn, fn, za, pat⟩ := by
  have hBr : Br < w.heap.size := World.block_lt_of_cell? w _ h.1
  have hs := h2.size
  refine ⟨h1.1.below h2, hn, hp, fun x hx => ?_⟩
  obtain rfl := Option.some.inj hx
  refine ⟨by have := h1.2.2; show w.heap.size < _; omega, by show w.heap.size ≠ Br; omega, fun e => ?_⟩
  have := (h.2.2.1.lt w.heap.size e.symm).2
  omega
theorem add_bel {w wr w1 w2 w3 : World} {B : Nat} (hb : Below B w wr) (hB : B ≤ w.heap.size) (hs : w.heap.size ≤ wr.heap.size) (h1 : wr.drew.grownBy w1 none) (h2 : w1.grownBy w2 none) (h3 : Below B w2 w3) (hs3 : w2.heap.size ≤ w3.heap.size) : Hid (Below B w w3) ∧ w.heap.size ≤ w3.heap.size := by
  have e1 : wr.heap.size ≤ w1.heap.size := h1.size
  have e2 := h2.size
  have b1 : Below B wr w1 := (Below.refl B wr).drew.trans ((grown_below h1).mono (show B ≤ wr.heap.size by omega))
  exact ⟨((hb.trans b1).trans ((grown_below h2).mono (by omega))).trans h3, by omega⟩

/-- zzAdd's round leaves the arguments' cells alone. -/
theorem cellB {w w' : World} {B b : Nat} (h : Below B w w') (hb : b < B) (o : Nat) : w'.cell? ⟨b, o, none⟩ = w.cell? ⟨b, o, none⟩ := h.cell (p := ⟨b, o, none⟩) hb

set_option maxRecDepth 100000 in
set_option maxHeartbeats 2000000 in
theorem add22 (Br B : Nat) (a0 a1 a2 : Option Addr) (n0 c0 n1 c1 n2 c2 : Nat) (z0 z2 : Nat → ByteArray) (f : Nat → Option Addr × Nat × Nat) (z1 : Nat → Nat → ByteArray) (w : World)
    (h0 : RdS w a0 n0 z0) (h1 : RdSS w a1 n1 f z1) (h2 : RdS w a2 n2 z2) (hB : B ≤ Br) (hBw : B ≤ w.heap.size)
    (k0 : 0 < n0 → ∀ x, a0 = some x → x.block < B) (k1 : 0 < n1 → ∀ x, a1 = some x → x.block < B) (k2 : 0 < n2 → ∀ x, a2 = some x → x.block < B) (k3 : ∀ i, i < n1 → 0 < (f i).2.1 → ∀ x, (f i).1 = some x → x.block < B)
    (b0 : n0 ≤ 1048576) (b1 : ∀ i, i < n1 → (f i).2.1 ≤ 1048576) (b2 : ∀ i, i < n2 → (z2 i).size ≤ 1048576) (hI : Inv w Br B (.slice none 0 0) []) :
    Calls Try.prog 22 #[.pointer (some ⟨Br, 0, none⟩), .slice a0 n0 c0, .slice a1 n1 c1, .slice a2 n2 c2, .bool false] w fun e w' => e = .returned (.tuple #[]) ∧ ∃ v L, Inv w' Br B v L ∧ L.length ≤ 1048576 ∧ w.heap.size ≤ w'.heap.size ∧ Below B w w' := by
  have HA := hidP (And.intro h0 (And.intro h1 h2))
  have HK := hidP (And.intro k0 (And.intro k1 (And.intro k2 k3)))
  have HB := hidP (And.intro b1 b2)
  have HI := hidP hI
  clear h0 h1 h2 k0 k1 k2 k3 b1 b2 hI
  go_enter Try.func22, Try.ntmps22
  go_wp2_with (go_at_call 24; refine (cnt24 _ _ _ _ _ _ _ _ _ _).mono ?_; rintro e w' ⟨⟨n, rfl, m0, m1, m2⟩, rfl⟩)
  go_loopw [11, 12] (fun i _ wr => ∃ k : Nat, k ≤ n ∧ i = .int .i64 k ∧ ∃ v L, Hid (Inv wr Br B v L) ∧ L.length = k ∧ Hid (Below B w wr) ∧ w.heap.size ≤ wr.heap.size) (fun i _ _ => n - (intOf i).toNat)
  case atStart => exact ⟨0, Nat.zero_le _, rfl, _, [], HI, rfl, Below.refl _ _, Nat.le_refl _⟩
  case round =>
    obtain ⟨k, hk, rfl, v, L, HV, hLk, HBl, hsz⟩ := hrel
    have HLk := hidP hLk
    clear hLk
    by_cases hlt : k < n
    · obtain ⟨p0, q0, rfl, x0⟩ := HA.out.1 (by omega)
      obtain ⟨p1, q1, rfl, x1⟩ := HA.out.2.1 (by omega)
      obtain ⟨p2, q2, rfl, x2⟩ := HA.out.2.2 (by omega)
      have l0 : p0 < B := HK.out.1 (by omega) _ rfl
      have l1 : p1 < B := HK.out.2.1 (by omega) _ rfl
      have l2 : p2 < B := HK.out.2.2.1 (by omega) _ rfl
      obtain ⟨fa, fn, fc, hf⟩ : ∃ fa fn fc, f k = (fa, fn, fc) := ⟨_, _, _, rfl⟩
      obtain ⟨x1a, x1b⟩ := x1 k (by omega)
      have x1c := HK.out.2.2.2 k (by omega)
      have x1d := HB.out.1 k (by omega)
      rw [hf] at x1a x1b x1c x1d
      have HX1 := hidP (And.intro x1b (And.intro x1c x1d))
      have hd2 := HB.out.2 k (by omega)
      have e0 : wr.cell? ⟨p0, q0 + k, none⟩ = some (.string (z0 k)) := by rw [cellB HBl.out l0]; exact x0 k (by omega)
      have e1 : wr.cell? ⟨p1, q1 + k, none⟩ = some (.slice fa fn fc) := by rw [cellB HBl.out l1]; exact x1a
      have e2 : wr.cell? ⟨p2, q2 + k, none⟩ = some (.string (z2 k)) := by rw [cellB HBl.out l2]; exact x2 k (by omega)
      have s0 : (0 : Int) ≤ (k : Int) := by omega
      have s1 : (k : Int) < (n0 : Int) := by omega
      have s2 : (k : Int) < (n1 : Int) := by omega
      have s3 : (k : Int) < (n2 : Int) := by omega
      clear x0 x1 x2 x1a x1b x1c x1d hf
      have r0 : p0 < wr.heap.size := by omega
      have r1 : p1 < wr.heap.size := by omega
      have r2 : p2 < wr.heap.size := by omega
      go_wp2_with fail
      go_region_held3 (fun w' => w'.cell? ⟨p0, q0 + k, none⟩ = some (.string (z0 k)) ∧ w'.cell? ⟨p1, q1 + k, none⟩ = some (.slice fa fn fc) ∧ w'.cell? ⟨p2, q2 + k, none⟩ = some (.string (z2 k))) (go_keep)
        (first
          | (go_at_call 16; refine (act16 fa fn fc (z1 k) _ (by exact HX1.out.1.of_below HBl.out.drew HX1.out.2.1) HX1.out.2.2).mono ?_; rintro e w1 ⟨rfl, hA1, hA2, hA3⟩; have HA1 := hidP (And.intro hA1 (And.intro hA2 hA3)); have y0 := cellN (b := p0) hA2 r0; have y1 := cellN (b := p1) hA2 r1; have y2 := cellN (b := p2) hA2 r2; clear hA1 hA2 hA3)
          | (go_at_call 15; refine (pat15 _ _).mono ?_; rintro e w2 ⟨rfl, hP⟩; have HP := hidP hP; have y3 := cellN (b := p0) hP (by have h1 := HA1.out.2.2; simp at h1; omega); have y4 := cellN (b := p1) hP (by have h1 := HA1.out.2.2; simp at h1; omega); have y5 := cellN (b := p2) hP (by have h1 := HA1.out.2.2; simp at h1; omega); clear hP)
          | (go_at_call 37; refine (app37 Br B v L ⟨z0 k, some ⟨wr.heap.size, 0, none⟩, fn, fn, z1 k, z2 k⟩ _ (add_inv HV.out HA1.out.2.1 HP.out) (add_ok HV.out HA1.out HP.out hd2 HX1.out.2.2) (by have h1 := HA1.out.2.1.size; have h2 := HP.out.size; simp at h1; omega) (by rw [HLk.out]; omega)).mono ?_; rintro e w3 ⟨rfl, v', hV', hs', hB'⟩; have y6 := cellB (b := p0) (hB' B hB (Nat.le_refl _)) l0; have y7 := cellB (b := p1) (hB' B hB (Nat.le_refl _)) l1; have y8 := cellB (b := p2) (hB' B hB (Nat.le_refl _)) l2))
      have HN := hidP (And.intro hV' (add_bel HBl.out hBw hsz HA1.out.2.1 HP.out (hB' B hB (Nat.le_refl _)) hs'))
      clear y0 y1 y2 y3 y4 y5 y6 y7 y8 e0 e1 e2 hV' hs' hB'
      go_wp2
      go_roundw
      case rel => exact ⟨k + 1, by omega, by go_num, v', _, HN.out.1, by rw [List.length_append, HLk.out]; rfl, HN.out.2.1, HN.out.2.2⟩
      case measure => simp [intOf]; omega
    · go_wp2
      go_end0
      exact ⟨rfl, v, L, HV.out, by rw [HLk.out]; omega, hsz, HBl.out⟩

end Go.Proofs.Qxb6001408a
