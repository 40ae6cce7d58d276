/-
  THE BITS of what atDistance answers: plain numbers. Own text.
-/
import Derived.Laws.BitsAllLaws
import Derived.RowKit
namespace Go.Proofs.Qxb6602311aMods
open Go.RowKit

/-- Bit t of the number that keeps x above place s, turns x over at s and takes y under it. -/
theorem nbits (s t x y : Nat) (hs : s < 8) (ht : t < 8) :
    (2 ^ s * (2 * (x / 2 ^ (s + 1)) + (1 - x / 2 ^ s % 2)) + y % 2 ^ s) / 2 ^ t % 2 = if s < t then x / 2 ^ t % 2 else if t = s then 1 - x / 2 ^ s % 2 else y / 2 ^ t % 2 := by
  have h1 : s = 0 ∨ s = 1 ∨ s = 2 ∨ s = 3 ∨ s = 4 ∨ s = 5 ∨ s = 6 ∨ s = 7 := by omega
  have h2 : t = 0 ∨ t = 1 ∨ t = 2 ∨ t = 3 ∨ t = 4 ∨ t = 5 ∨ t = 6 ∨ t = 7 := by omega
  rcases h1 with h | h | h | h | h | h | h | h <;> subst h <;> rcases h2 with h | h | h | h | h | h | h | h <;> subst h <;> simp only [Nat.reducePow, Nat.reduceAdd, Nat.reduceLT, Nat.reduceEqDiff, if_true, if_false] <;> omega

end Go.Proofs.Qxb6602311aMods
