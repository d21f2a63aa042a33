import Derived.Test.Qxb6001605aProg
import Derived.WalkKit
import Derived.Below
import Derived.OwnWalk
import Derived.WalkSpells
import Derived.WalkLawsBesides
import Derived.Laws.IdiomStrings
/-! zzBytes (6), hasASCIIUpper (8), folded (12), ZZFolded (7). -/
namespace Go.Proofs.Qxb6001605a
open Go.RowKit

theorem hidP {p : Prop} (h : p) : Hid p := h

/-- An upper-case letter lies in it. -/
def hasU (s : ByteArray) : Prop := ∃ i, ∃ h : i < s.size, 65 ≤ s[i].toNat ∧ s[i].toNat ≤ 90

set_option maxHeartbeats 400000 in
theorem up8_yes (s : ByteArray) (w : World) (hs : s.size ≤ 1048576) (hu : hasU s) :
    Calls Try.prog 8 #[.string s] w fun e w' => e = .returned (.bool true) ∧ w = w' := by
  have HU := hidP hu
  clear hu
  go_enter Try.func8, Try.ntmps8
  go_wp2
  go_loop [3, 2] (fun i r => ∃ k : Nat, k ≤ s.size ∧ i = .int .i64 k ∧ r = .bool false ∧ Hid (∀ i, ∀ h : i < s.size, i < k → ¬ (65 ≤ s[i].toNat ∧ s[i].toNat ≤ 90))) (fun i _ => s.size - (intOf i).toNat)
  case atStart => exact ⟨0, Nat.zero_le _, rfl, rfl, fun i _ hi => by omega⟩
  case round =>
    obtain ⟨k, hk, rfl, rfl, HK⟩ := hrel
    by_cases hlt : k < s.size
    · have hkk : (k : Int) < (s.size : Int) := by omega
      by_cases h1 : (65 : Int) ≤ (s[k].toNat : Int)
      · by_cases h2 : (s[k].toNat : Int) ≤ 90
        · go_wp2
          go_ret
          exact ⟨rfl, rfl⟩
        · go_wp2
          go_round
          case rel =>
            refine ⟨k + 1, by omega, by go_num, rfl, fun i hi hik => ?_⟩
            by_cases hi2 : i < k
            · exact HK.out i hi hi2
            · obtain rfl : i = k := by omega
              omega
          case measure => simp [intOf]; omega
      · go_wp2
        go_round
        case rel =>
          refine ⟨k + 1, by omega, by go_num, rfl, fun i hi hik => ?_⟩
          by_cases hi2 : i < k
          · exact HK.out i hi hi2
          · obtain rfl : i = k := by omega
            omega
        case measure => simp [intOf]; omega
    · obtain ⟨i, hi, hx⟩ := HU.out
      exact absurd hx (HK.out i hi (by omega))

set_option maxHeartbeats 400000 in
theorem up8_no (s : ByteArray) (w : World) (hs : s.size ≤ 1048576) (hu : ¬ hasU s) :
    Calls Try.prog 8 #[.string s] w fun e w' => e = .returned (.bool false) ∧ w = w' := by
  have HU : Hid (∀ i, ∀ h : i < s.size, ¬ (65 ≤ s[i].toNat ∧ s[i].toNat ≤ 90)) := fun i hi hx => hu ⟨i, hi, hx⟩
  clear hu
  go_enter Try.func8, Try.ntmps8
  go_wp2
  go_loop [3, 2] (fun i r => ∃ k : Nat, k ≤ s.size ∧ i = .int .i64 k ∧ r = .bool false) (fun i _ => s.size - (intOf i).toNat)
  case atStart => exact ⟨0, Nat.zero_le _, rfl, rfl⟩
  case round =>
    obtain ⟨k, hk, rfl, rfl⟩ := hrel
    by_cases hlt : k < s.size
    · have hkk : (k : Int) < (s.size : Int) := by omega
      have hx := HU.out k hlt
      by_cases h1 : (65 : Int) ≤ (s[k].toNat : Int)
      · have h2 : ¬ (s[k].toNat : Int) ≤ 90 := by omega
        clear hx
        go_wp2
        go_round
        case rel => exact ⟨k + 1, by omega, by go_num, rfl⟩
        case measure => simp [intOf]; omega
      · clear hx
        go_wp2
        go_round
        case rel => exact ⟨k + 1, by omega, by go_num, rfl⟩
        case measure => simp [intOf]; omega
    · go_wp2
      go_ret
      exact ⟨rfl, rfl⟩

set_option maxHeartbeats 400000 in
theorem bytes6 (s : ByteArray) (w : World) :
    Calls Try.prog 6 #[.string s] w fun e w' => e = .returned (.bool (decide (s.size ≤ 1048576))) ∧ w = w' := by
  by_cases h : (1048576 : Int) < (s.size : Int)
  · have e : decide (s.size ≤ 1048576) = false := by simp; omega
    rw [e]
    clear e
    go_enter Try.func6, Try.ntmps6
    go_wp2
    go_ret
    exact ⟨rfl, rfl⟩
  · have e : decide (s.size ≤ 1048576) = true := by simp; omega
    rw [e]
    clear e
    go_enter Try.func6, Try.ntmps6
    go_wp2
    go_ret
    exact ⟨rfl, rfl⟩

/-- A byte in lower case. -/
def lo (b : UInt8) : UInt8 := if 65 ≤ b.toNat ∧ b.toNat ≤ 90 then b + 32 else b
theorem lo_up {b : UInt8} (h : 65 ≤ b.toNat ∧ b.toNat ≤ 90) : (lo b).toNat = b.toNat + 32 := by
  unfold lo
  rw [if_pos h, UInt8.toNat_add]
  have e : (32 : UInt8).toNat = 32 := rfl
  rw [e]
  omega
theorem lo_no {b : UInt8} (h : ¬ (65 ≤ b.toNat ∧ b.toNat ≤ 90)) : lo b = b := by unfold lo; rw [if_neg h]
def foldB (s : ByteArray) : ByteArray := ⟨s.data.map lo⟩

def bt (s : ByteArray) (j : Nat) : UInt8 := s.data.getD j 0
theorem bt_eq {s : ByteArray} {j : Nat} (h : j < s.data.size) : s.data[j] = bt s j := by
  unfold bt Array.getD
  rw [dif_pos h]
  rfl
/-- The bytes of the text, the first k of them folded. -/
def at_ (s : ByteArray) (k j : Nat) : Nat := if j < k then (lo (bt s j)).toNat else (bt s j).toNat
theorem at_self (s : ByteArray) (k : Nat) : at_ s k k = (bt s k).toNat := by simp [at_]

/-- The row while it is folded. -/
def Fo (w wr : World) (s : ByteArray) (k : Nat) : Prop :=
  (∀ j, j < s.size → wr.cell? ⟨w.heap.size, j, none⟩ = some (.int .u8 (at_ s k j : Int)) ∧ wr.frozen? ⟨w.heap.size, j, none⟩ = false) ∧ w.grownBy wr none

theorem fo_start (w : World) (s : ByteArray) (cap : Nat) : Fo w (w.alloc (.cells (bytesRow s cap) 5 ((bytesRow s cap).size, (bytesRow s cap).size + 1))).drew s 0 := by
  have g := World.grownBy_alloc w (.cells (bytesRow s cap) 5 ((bytesRow s cap).size, (bytesRow s cap).size + 1)) none
  refine ⟨fun j hj => ⟨?_, ?_⟩, ⟨g.os, g.tape, g.output, g.size, g.block⟩⟩
  · have hj' : j < s.data.size := hj
    have e : at_ s 0 j = s.data[j].toNat := by rw [bt_eq hj']; simp [at_]
    rw [e, ← bytesRow_at s cap j hj', ← World.cell?_alloc_mark w (bytesRow s cap) 5 ((bytesRow s cap).size, (bytesRow s cap).size + 1) j]
    exact World.cell?_of_block rfl
  · have : s.size ≤ (bytesRow s cap).size := by
      unfold bytesRow
      have : s.size = s.data.size := rfl
      simp
    have h : ¬ (bytesRow s cap).size ≤ j := by omega
    have e := World.frozen?_alloc_mark w (bytesRow s cap) 5 (bytesRow s cap).size ((bytesRow s cap).size + 1) j
    rw [show (w.alloc (.cells (bytesRow s cap) 5 ((bytesRow s cap).size, (bytesRow s cap).size + 1))).drew.frozen? ⟨w.heap.size, j, none⟩ = (w.alloc (.cells (bytesRow s cap) 5 ((bytesRow s cap).size, (bytesRow s cap).size + 1))).frozen? ⟨w.heap.size, j, none⟩ from World.frozen?_of_block rfl, e]
    simp [h]

theorem fo_keep {w wr : World} {s : ByteArray} {k : Nat} (h : Fo w wr s k) (hz : ¬ (65 ≤ at_ s k k ∧ at_ s k k ≤ 90)) : Fo w wr s (k + 1) := by
  refine ⟨fun j hj => ⟨?_, (h.1 j hj).2⟩, h.2⟩
  rw [(h.1 j hj).1]
  by_cases hjk : j = k
  · subst hjk
    rw [at_self] at hz
    simp [at_, lo_no hz]
  · have : j < k ↔ j < k + 1 := by omega
    simp [at_, this]

theorem fo_set {w wr : World} {s : ByteArray} {k : Nat} (h : Fo w wr s k) (hz : 65 ≤ at_ s k k ∧ at_ s k k ≤ 90) (u : Int) (hu : u = (at_ s k k : Int) + 32) :
    Fo w (wr.setCell ⟨w.heap.size, k, none⟩ (.int .u8 u)) s (k + 1) := by
  subst hu
  rw [at_self] at hz ⊢
  refine ⟨fun j hj => ⟨?_, ?_⟩, ?_⟩
  · by_cases hjk : j = k
    · subst hjk
      rw [World.cell?_setCell_same _ _ _ (h.1 j hj).1]
      simp [at_, lo_up hz]
    · have hne : (⟨w.heap.size, j, none⟩ : Addr) ≠ ⟨w.heap.size, k, none⟩ := fun e => hjk (Addr.mk.inj e).2.1
      have : j < k ↔ j < k + 1 := by omega
      rw [World.cell?_setCell_other _ _ _ _ (Ne.symm hne), (h.1 j hj).1]
      simp [at_, this]
  · simpa using (h.1 j hj).2
  · refine ⟨h.2.os, h.2.tape, h.2.output, by simpa using h.2.size, fun i hi hne => ?_⟩
    rw [heap_setCell_other wr ⟨w.heap.size, k, none⟩ i _ (by show i ≠ w.heap.size; omega)]
    exact h.2.block i hi hne

theorem fo_back {w wr : World} {s : ByteArray} {cap : Nat} (h : Fo w wr s s.size) : (convert 25 9 (.slice (some ⟨w.heap.size, 0, none⟩) s.size cap)).run Try.prog wr = .ok (.string (foldB s)) wr := by
  have hl : (s.data.toList.map lo).length = s.size := by simp
  have := run_convert_bytes_back (P := Try.prog) wr 25 9 5 ⟨w.heap.size, 0, none⟩ cap (s.data.toList.map lo) Try.underlying25 Try.underlying5 Try.underlying9 (fun j hj => by
    have hj' : j < s.size := by omega
    have hj2 : j < s.data.size := hj'
    have e : (⟨w.heap.size, 0, none⟩ : Addr).add j = ⟨w.heap.size, j, none⟩ := by by_cases h0 : j = 0 <;> simp [Addr.add, h0]
    rw [e, (h.1 j hj').1]
    have e2 : (s.data.toList.map lo)[j] = lo (bt s j) := by rw [List.getElem_map, Array.getElem_toList, bt_eq hj2]
    rw [e2]
    simp [at_, hj'])
  rw [hl] at this
  rw [this]
  have e3 : (⟨(s.data.toList.map lo).toArray⟩ : ByteArray) = foldB s := by
    unfold foldB
    rw [← List.map_toArray]
  rw [e3]

set_option maxHeartbeats 1000000 in
theorem fold12 (s : ByteArray) (w : World) (hs : s.size ≤ 1048576) :
    Calls Try.prog 12 #[.string s] w fun e w' => e = .returned (.string (foldB s)) ∧ w.grownBy w' none := by
  have hconv := run_bytes_of_string (P := Try.prog) w 9 25 5 s Try.underlying9 Try.underlying25 Try.underlying5
  obtain ⟨cap, hcap⟩ : ∃ cap, cap = grownCap w s.size 0 5 := ⟨_, rfl⟩
  rw [← hcap] at hconv
  have HF := hidP (fo_start w s cap)
  obtain ⟨C, hC⟩ : ∃ C, C = bytesRow s cap := ⟨_, rfl⟩
  rw [← hC] at hconv HF
  clear hC hcap
  go_enter Try.func12, Try.ntmps12
  go_wp2
  clear hconv
  go_loopw [10, 4, 5] (fun i _ _ wr => ∃ k : Nat, k ≤ s.size ∧ i = .int .i64 k ∧ Hid (Fo w wr s k)) (fun i _ _ _ => s.size - (intOf i).toNat)
  case atStart => exact ⟨0, Nat.zero_le _, rfl, HF⟩
  case round =>
    clear HF
    obtain ⟨k, hk, rfl, HF⟩ := hrel
    by_cases hlt : k < s.size
    · obtain ⟨d1, d2⟩ := HF.out.1 k hlt
      have hkk : (k : Int) < (s.size : Int) := by omega
      obtain ⟨z, hz⟩ : ∃ z, z = at_ s k k := ⟨_, rfl⟩
      rw [← hz] at d1
      have HZ := hidP hz
      clear hz
      by_cases h1 : (65 : Int) ≤ (z : Int)
      · by_cases h2 : (z : Int) ≤ 90
        · go_wp2
          go_roundw
          case rel => exact ⟨k + 1, by omega, by go_num, fo_set HF.out (by rw [← HZ.out]; omega) _ (by rw [← HZ.out]; omega)⟩
          case measure => simp [intOf]; omega
        · go_wp2
          go_roundw
          case rel => exact ⟨k + 1, by omega, by go_num, fo_keep HF.out (by rw [← HZ.out]; omega)⟩
          case measure => simp [intOf]; omega
      · go_wp2
        go_roundw
        case rel => exact ⟨k + 1, by omega, by go_num, fo_keep HF.out (by rw [← HZ.out]; omega)⟩
        case measure => simp [intOf]; omega
    · obtain rfl : k = s.size := by omega
      have hback := fo_back (cap := cap) HF.out
      go_wp2
      go_ret
      exact ⟨rfl, HF.out.2⟩

set_option maxHeartbeats 400000 in
theorem fold7 (s : ByteArray) (w : World) (hs : s.size ≤ 1048576) :
    Calls Try.prog 7 #[.string s] w fun e w' => e = .returned (.string (foldB s)) ∧ w.grownBy w' none := by
  go_enter Try.func7, Try.ntmps7
  go_wp2_with fail
  refine (fold12 s _ hs).mono ?_
  rintro e w1 ⟨rfl, hg⟩
  have HG := hidP hg
  clear hg
  go_wp2
  go_ret
  exact ⟨rfl, HG.out⟩

end Go.Proofs.Qxb6001605a
