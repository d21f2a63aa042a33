import Derived.Test.Qxb6601683aCmp
/-! The plain law: texts compare as their fields do. -/
namespace Go.Proofs.Qxb6601683a

theorem txt8 (a : Nat → Int) (s : Int) : txt a s 8 = [50, 48, 48 + a 0 / 10, 48 + a 0 % 10, 45, 48 + a 1 / 10, 48 + a 1 % 10, 45, 48 + a 2 / 10, 48 + a 2 % 10, 84, 48 + a 3 / 10, 48 + a 3 % 10, 58, 48 + a 4 / 10, 48 + a 4 % 10, 58,
    48 + a 5 / 10, 48 + a 5 % 10, s, 48 + a 6 / 10, 48 + a 6 % 10, 58, 48 + a 7 / 10, 48 + a 7 % 10] := by
  simp [txt, sepf]

theorem cmp_two (x y R : Int) :
    (if 48 + x / 10 < 48 + y / 10 then (-1 : Int) else if 48 + y / 10 < 48 + x / 10 then 1 else if 48 + x % 10 < 48 + y % 10 then -1 else if 48 + y % 10 < 48 + x % 10 then 1 else R) =
      if x < y then -1 else if y < x then 1 else R := by
  repeat' split
  all_goals omega

theorem cmp_same (c R : Int) : (if c < c then (-1 : Int) else if c < c then 1 else R) = R := by simp

theorem text_law (a b : Nat → Int) (s : Int) (h6 : a 6 = b 6) (h7 : a 7 = b 7) :
    cmpN (fun i => (txt a s 8).getD i 0) (fun i => (txt b s 8).getD i 0) 0 25 = cmpN a b 0 6 := by
  rw [txt8, txt8, ← h6, ← h7]
  simp only [cmpN, List.getD_cons_zero, List.getD_cons_succ, Nat.zero_add, Nat.reduceAdd]
  simp only [cmp_same, cmp_two]

end Go.Proofs.Qxb6601683a
