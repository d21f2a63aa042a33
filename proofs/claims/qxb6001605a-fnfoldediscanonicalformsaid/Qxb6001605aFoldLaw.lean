import Derived.Test.Qxb6001605aFold
/-! The law (3): the plain laws of folding, and the walk. -/
namespace Go.Proofs.Qxb6001605a
open Go.RowKit

theorem fold_size (s : ByteArray) : (foldB s).size = s.size := by
  show (s.data.map lo).size = s.data.size
  simp
theorem fold_at (s : ByteArray) (i : Nat) (h : i < (foldB s).size) (h' : i < s.size) : (foldB s)[i] = lo s[i] := by
  have e : (s.data.map lo)[i]'(by rw [Array.size_map]; exact h') = lo (s.data[i]'h') := Array.getElem_map ..
  exact e
theorem lo_low (b : UInt8) : ¬ (65 ≤ (lo b).toNat ∧ (lo b).toNat ≤ 90) := by
  by_cases h : 65 ≤ b.toNat ∧ b.toNat ≤ 90
  · rw [lo_up h]; omega
  · rw [lo_no h]; exact h
theorem fold_low (s : ByteArray) : ¬ hasU (foldB s) := by
  rintro ⟨i, hi, h⟩
  rw [fold_at s i hi (by rw [← fold_size s]; exact hi)] at h
  exact lo_low _ h
theorem bytes_ext {a b : ByteArray} (hs : a.size = b.size) (h : ∀ i, ∀ h1 : i < a.size, ∀ h2 : i < b.size, a[i] = b[i]) : a = b := by
  obtain ⟨a⟩ := a
  obtain ⟨b⟩ := b
  congr 1
  exact Array.ext hs (fun i h1 h2 => h i h1 h2)
theorem fold_same {s : ByteArray} (h : ¬ hasU s) : foldB s = s := by
  refine bytes_ext (fold_size s) (fun i h1 h2 => ?_)
  rw [fold_at s i h1 h2]
  exact lo_no (fun hx => h ⟨i, h2, hx⟩)
theorem fold_ne {s : ByteArray} (h : hasU s) : ((foldB s).toList == s.toList) = false := by
  rw [Bool.eq_false_iff]
  intro e
  have e' : (foldB s).toList = s.toList := by simpa using e
  have e2 : foldB s = s := by
    rw [ByteArray.toList_eq, ByteArray.toList_eq] at e'
    exact ByteArray.ext (Array.toList_inj.1 e')
  have hl := fold_low s
  rw [e2] at hl
  exact hl h

set_option maxHeartbeats 1000000 in
theorem law3 (s : ByteArray) (w : World) :
    Calls Try.prog 3 #[.string s] w fun e w' => e = .returned (.bool true) ∧ w.grownBy w' none := by
  by_cases hs : s.size ≤ 1048576
  · have hb : decide (s.size ≤ 1048576) = true := by simpa using hs
    have HB := hidP (bytes6 s w)
    rw [hb] at HB
    have hsi : ¬ (1048576 : Int) < (s.size : Int) := by omega
    obtain ⟨f, hf⟩ : ∃ f, f = foldB s := ⟨_, rfl⟩
    have HF1 : Hid (∀ w, _) := hidP (fun w => fold7 s w hs)
    have hfs : f.size = s.size := by rw [hf, fold_size]
    have hfi : (f.size : Int) = (s.size : Int) := by omega
    have HF2 : Hid (∀ w, _) := hidP (fun w => fold7 f w (by omega))
    have HU : Hid (∀ w, _) := hidP (fun w => up8_no f w (by omega) (by rw [hf]; exact fold_low s))
    have hff : foldB f = f := fold_same (by rw [hf]; exact fold_low s)
    rw [← hf] at HF1
    rw [hff] at HF2
    clear hff hb
    by_cases hu : hasU s
    · have hne : (f.toList == s.toList) = false := by rw [hf]; exact fold_ne hu
      have HS : Hid (∀ w, _) := hidP (fun w => up8_yes s w hs hu)
      clear hu hf hfs
      go_enter Try.func3, Try.ntmps3
      go_wp2_with fail
      refine HB.out.mono ?_
      rintro e w' ⟨rfl, rfl⟩
      go_wp2_with fail
      refine (HF1.out _).mono ?_
      rintro e w1 ⟨rfl, hg1⟩
      have HG1 := hidP hg1
      clear hg1
      go_wp2_with fail
      refine (HU.out _).mono ?_
      rintro e w' ⟨rfl, rfl⟩
      go_wp2_with fail
      refine (HF2.out _).mono ?_
      rintro e w2 ⟨rfl, hg2⟩
      have HG2 := hidP hg2
      clear hg2
      go_wp2_with fail
      refine (HS.out _).mono ?_
      rintro e w' ⟨rfl, rfl⟩
      go_wp2
      go_ret
      refine ⟨?_, ⟨HG2.out.os.trans HG1.out.os, HG2.out.tape.trans HG1.out.tape, HG2.out.output.trans HG1.out.output, Nat.le_trans HG1.out.size HG2.out.size, fun i hi hne => ?_⟩⟩
      · simp
      · have := HG1.out.size
        rw [HG2.out.block i (by omega) hne, HG1.out.block i hi hne]
    · have hfe : f = s := by rw [hf]; exact fold_same hu
      have HS : Hid (∀ w, _) := hidP (fun w => up8_no s w hs hu)
      subst hfe
      clear hu hf hfs hfi
      go_enter Try.func3, Try.ntmps3
      go_wp2_with fail
      refine HB.out.mono ?_
      rintro e w' ⟨rfl, rfl⟩
      go_wp2_with fail
      refine (HF1.out _).mono ?_
      rintro e w1 ⟨rfl, hg1⟩
      have HG1 := hidP hg1
      clear hg1
      go_wp2_with fail
      refine (HU.out _).mono ?_
      rintro e w' ⟨rfl, rfl⟩
      go_wp2_with fail
      refine (HF2.out _).mono ?_
      rintro e w2 ⟨rfl, hg2⟩
      have HG2 := hidP hg2
      clear hg2
      go_wp2_with fail
      refine (HS.out _).mono ?_
      rintro e w' ⟨rfl, rfl⟩
      go_wp2
      go_ret
      refine ⟨?_, ⟨HG2.out.os.trans HG1.out.os, HG2.out.tape.trans HG1.out.tape, HG2.out.output.trans HG1.out.output, Nat.le_trans HG1.out.size HG2.out.size, fun i hi hne => ?_⟩⟩
      · simp
      · have := HG1.out.size
        rw [HG2.out.block i (by omega) hne, HG1.out.block i hi hne]
  · have hb : decide (s.size ≤ 1048576) = false := by simpa using hs
    have HB := hidP (bytes6 s w)
    rw [hb] at HB
    clear hb hs
    go_enter Try.func3, Try.ntmps3
    go_wp2_with fail
    refine HB.out.mono ?_
    rintro e w' ⟨rfl, rfl⟩
    go_wp2
    go_ret
    exact ⟨rfl, World.grownBy.refl _ _⟩

end Go.Proofs.Qxb6001605a
