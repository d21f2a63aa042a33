import Derived.Test.Qxb6001408aRows
import Derived.WalkKit
import Derived.ProofKit
/-! The program's own word of how it was cut, read cheaply: 'mayEnter', 'liftsFinal', 'make' by its first three words (the kernel's own run over the whole word, 816 signs, outgrows the lid). -/
namespace Go.Proofs.Qxb6001408a
open Go.ChangeShapes Go.WideShapes Go.ChangeAt Go.RowKit

theorem words_word (r : List Char) : ∀ w : List Char, (∀ c ∈ w, c ≠ ' ') → wordsSigns (w ++ ' ' :: r) = w :: wordsSigns r
  | [], _ => by simp [wordsSigns]
  | c :: w, h => by
    have hc : c ≠ ' ' := h c (by simp)
    have ih := words_word r w (fun x hx => h x (by simp [hx]))
    rw [List.cons_append, wordsSigns]
    · rw [ih]
    · exact hc

set_option maxRecDepth 100000 in
theorem word_is : String.ofList ("harness".toList ++ ' ' :: ("a67302f0c6858654649972a73ca76b63030ed8b5fa81721f813846cee6b8c5a1".toList ++ ' ' :: ("cut".toList ++ ' ' :: ['a', 't', ' ', 'e', 'x', 'a', 'm', 'p', 'l', 'e', '.', 'c', 'o', 'm', '/', 'i', 'm', 'a', 'g', 'e', '-', 'd', 'e', 'p', 'o', 't', '/', 'i', 'm', 'a', 'g', 'e', '-', 'd', 'e', 'p', 'o', 't', '/', 'z', 'z', 'l', 'a', 'w', 's', '_', 'p', 'k', 'g', '_', 'a', 'c', 'c', 'e', 's', 's', '_', 'b', '1', '.', 'F', 'n', 'G', 'r', 'a', 'n', 't', 's', 'A', 'n', 'o', 'n', 'y', 'm', 'o', 'u', 's', 'I', 'm', 'p', 'l', 'i', 'e', 's', 'E', 'v', 'e', 'r', 'y', 'U', 's', 'e', 'r', ' ', 'e', 'x', 'a', 'm', 'p', 'l', 'e', '.', 'c', 'o', 'm', '/', 'i', 'm', 'a', 'g', 'e', '-', 'd', 'e', 'p', 'o', 't', '/', 'i', 'm', 'a', 'g', 'e', '-', 'd', 'e', 'p', 'o', 't', '/', 'z', 'z', 'l', 'a', 'w', 's', '_', 'p', 'k', 'g', '_', 'a', 'c', 'c', 'e', 's', 's', '_', 'b', '1', '.', 'F', 'n', 'G', 'r', 'a', 'n', 't', 's', 'D', 'i', 's', 't', 'r', 'i', 'b', 'u', 't', 'e', 's', 'O', 'v', 'e', 'r', 'A', 'c', 't', 'i', 'o', 'n', 'L', 'i', 's', 't', 's', ' ', 'e', 'x', 'a', 'm', 'p', 'l', 'e', '.', 'c', 'o', 'm', '/', 'i', 'm', 'a', 'g', 'e', '-', 'd', 'e', 'p', 'o', 't', '/', 'i', 'm', 'a', 'g', 'e', '-', 'd', 'e', 'p', 'o', 't', '/', 'z', 'z', 'l', 'a', 'w', 's', '_', 'p', 'k', 'g', '_', 'a', 'c', 'c', 'e', 's', 's', '_', 'b', '1', '.', 'F', 'n', 'G', 'r', 'a', 'n', 't', 's', 'N', 'a', 'm', 'e', 'd', 'R', 'u', 'l', 'e', 'G', 'r', 'a', 'n', 't', 's', 'O', 'n', 'e', 'U', 's', 'e', 'r', 'A', 't', 'M', 'o', 's', 't', ' ', 'e', 'x', 'a', 'm', 'p', 'l', 'e', '.', 'c', 'o', 'm', '/', 'i', 'm', 'a', 'g', 'e', '-', 'd', 'e', 'p', 'o', 't', '/', 'i', 'm', 'a', 'g', 'e', '-', 'd', 'e', 'p', 'o', 't', '/', 'z', 'z', 'l', 'a', 'w', 's', '_', 'p', 'k', 'g', '_', 'a', 'c', 'c', 'e', 's', 's', '_', 'b', '1', '.', 'F', 'n', 'G', 'r', 'a', 'n', 't', 'e', 'd', 'S', 'p', 'l', 'i', 't', 's', 'O', 'v', 'e', 'r', 'C', 'o', 'n', 'c', 'a', 't', 'e', 'n', 'a', 't', 'e', 'd', 'R', 'u', 'l', 'e', 's', ' ', 'e', 'x', 'a', 'm', 'p', 'l', 'e', '.', 'c', 'o', 'm', '/', 'i', 'm', 'a', 'g', 'e', '-', 'd', 'e', 'p', 'o', 't', '/', 'i', 'm', 'a', 'g', 'e', '-', 'd', 'e', 'p', 'o', 't', '/', 'z', 'z', 'l', 'a', 'w', 's', '_', 'p', 'k', 'g', '_', 'a', 'c', 'c', 'e', 's', 's', '_', 'b', '1', '.', 'F', 'n', 'G', 'r', 'a', 'n', 't', 'e', 'd', 'A', 'n', 'o', 'n', 'y', 'm', 'o', 'u', 's', 'I', 's', 'S', 'u', 'b', 's', 'e', 'q', 'u', 'e', 'n', 'c', 'e', 'O', 'f', 'S', 'i', 'g', 'n', 'e', 'd', 'I', 'n', ' ', 'e', 'x', 'a', 'm', 'p', 'l', 'e', '.', 'c', 'o', 'm', '/', 'i', 'm', 'a', 'g', 'e', '-', 'd', 'e', 'p', 'o', 't', '/', 'i', 'm', 'a', 'g', 'e', '-', 'd', 'e', 'p', 'o', 't', '/', 'z', 'z', 'l', 'a', 'w', 's', '_', 'p', 'k', 'g', '_', 'a', 'c', 'c', 'e', 's', 's', '_', 'b', '1', '.', 'F', 'n', 'A', 'l', 'l', 'o', 'w', 's', 'A', 'g', 'r', 'e', 'e', 's', 'W', 'i', 't', 'h', 'G', 'r', 'a', 'n', 't', 'e', 'd', ' ', 'e', 'x', 'a', 'm', 'p', 'l', 'e', '.', 'c', 'o', 'm', '/', 'i', 'm', 'a', 'g', 'e', '-', 'd', 'e', 'p', 'o', 't', '/', 'i', 'm', 'a', 'g', 'e', '-', 'd', 'e', 'p', 'o', 't', '/', 'z', 'z', 'l', 'a', 'w', 's', '_', 'p', 'k', 'g', '_', 'a', 'c', 'c', 'e', 's', 's', '_', 'b', '1', '.', 'F', 'n', 'A', 'l', 'l', 'o', 'w', 's', 'I', 's', 'U', 'n', 'i', 'o', 'n', 'O', 'v', 'e', 'r', 'R', 'u', 'l', 'e', 's', 'A', 'n', 'd', 'O', 'r', 'd', 'e', 'r', 'F', 'r', 'e', 'e', ' ', 'e', 'x', 'a', 'm', 'p', 'l', 'e', '.', 'c', 'o', 'm', '/', 'i', 'm', 'a', 'g', 'e', '-', 'd', 'e', 'p', 'o', 't', '/', 'i', 'm', 'a', 'g', 'e', '-', 'd', 'e', 'p', 'o', 't', '/', 'z', 'z', 'l', 'a', 'w', 's', '_', 'p', 'k', 'g', '_', 'a', 'c', 'c', 'e', 's', 's', '_', 'b', '1', '.', 'F', 'n', 'A', 'l', 'l', 'o', 'w', 's', 'A', 'n', 'o', 'n', 'y', 'm', 'o', 'u', 's', 'I', 'm', 'p', 'l', 'i', 'e', 's', 'S', 'i', 'g', 'n', 'e', 'd', 'I', 'n']))) = Try.prog.initOrder := by kernel_rfl

set_option maxRecDepth 100000 in
theorem words_are : ∃ r, wordsSigns Try.prog.initOrder.toList = "harness".toList :: "a67302f0c6858654649972a73ca76b63030ed8b5fa81721f813846cee6b8c5a1".toList :: "cut".toList :: r := by
  rw [← word_is, String.toList_ofList, words_word _ _ (by decide), words_word _ _ (by decide), words_word _ _ (by decide)]
  exact ⟨_, rfl⟩

theorem behind : ∃ r, behindMainWord (wordsSigns Try.prog.initOrder.toList) = "cut".toList :: r := by
  obtain ⟨r, h⟩ := words_are
  have hs : isSumSigns "a67302f0c6858654649972a73ca76b63030ed8b5fa81721f813846cee6b8c5a1".toList = true := by kernel_rfl
  refine ⟨r, ?_⟩
  rw [h]
  simp only [behindMainWord, hs, Bool.and_true]
  rfl

theorem strip_cut (r : List (List Char)) : ∀ os : List String, (∀ o ∈ os, ("cut".toList == o.toList) = false) → stripLifts os ("cut".toList :: r) = ([], "cut".toList :: r)
  | [], _ => rfl
  | o :: os, h => by
    rw [stripLifts, h o (by simp)]
    exact strip_cut r os (fun x hx => h x (by simp [hx]))
theorem lift_words : ∀ o ∈ liftWords, ("cut".toList == o.toList) = false := by decide

theorem lifts_of {P : Program} {r : List (List Char)} (h : behindMainWord (wordsSigns P.initOrder.toList) = "cut".toList :: r) : P.liftsFinal = false := by
  unfold Program.liftsFinal Program.headLifts
  simp only [h, strip_cut r liftWords lift_words]
  simp
theorem make_of {P : Program} {r : List (List Char)} (h : behindMainWord (wordsSigns P.initOrder.toList) = "cut".toList :: r) : P.make = some .cut := by
  unfold Program.make
  simp only [h]
  simp
theorem enter_of {P : Program} {r : List (List Char)} (h : behindMainWord (wordsSigns P.initOrder.toList) = "cut".toList :: r) (h1 : P.laysLater = false) (h2 : P.bearsReflect = false) (h3 : P.doorFits [] = true) : P.mayEnter = true := by
  unfold Program.mayEnter
  simp only [h, strip_cut r liftWords lift_words, h1, h2, h3]
  simp

theorem init_later : Try.prog.laysLater = false := by kernel_rfl
theorem init_reflect : Try.prog.bearsReflect = false := by kernel_rfl
theorem init_door : Try.prog.doorFits [] = true := by kernel_rfl
theorem init_lifts : Try.prog.liftsFinal = false := by
  obtain ⟨r, h⟩ := behind
  exact lifts_of h
theorem init_make : Try.prog.make = some .cut := by
  obtain ⟨r, h⟩ := behind
  exact make_of h
theorem init_enter : Try.prog.mayEnter = true := by
  obtain ⟨r, h⟩ := behind
  exact enter_of h init_later init_reflect init_door

end Go.Proofs.Qxb6001408a
