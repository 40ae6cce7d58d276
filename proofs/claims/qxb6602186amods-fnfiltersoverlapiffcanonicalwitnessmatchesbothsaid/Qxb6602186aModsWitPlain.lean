/-
  THE PLAIN MATHEMATICS of the canonical witness: lists alone. Own text.
-/
import Derived.Test.Qxb6602186aModsOv
import Derived.Test.Qxb6602186aModsSm
namespace Go.Proofs.Qxb6602186aMods
open Go.RowKit

/-- What appendTail appends for the tokens that are left. -/
def tailOf : List (List UInt8) → List (List UInt8)
  | [] => []
  | s :: ss => if s = [62] then [[120]] else (if s = [42] then [120] else s) :: tailOf ss

/-- What overlapWitness builds. -/
def witOf : List (List UInt8) → List (List UInt8) → List (List UInt8)
  | [], _ => []
  | _ :: _, [] => []
  | s :: ss, t :: ts => if s = [62] then tailOf (t :: ts) else if t = [62] then tailOf (s :: ss) else (if s ≠ [42] then s else if t ≠ [42] then t else [120]) :: witOf ss ts

theorem smatch_tail : ∀ f : List (List UInt8), smatch f (tailOf f) = true
  | [] => rfl
  | s :: ss => by
    rw [tailOf]
    by_cases g : s = [62]
    · rw [if_pos g, smatch, if_pos g]
    · rw [if_neg g, smatch, if_neg g]
      by_cases st : s = [42]
      · rw [if_pos (Or.inl st)]
        exact smatch_tail ss
      · rw [if_neg st, if_pos (Or.inr rfl)]
        exact smatch_tail ss

theorem smatch_gt {s : List UInt8} {ss : List (List UInt8)} {x : List UInt8} {xs : List (List UInt8)} (g : s = [62]) : smatch (s :: ss) (x :: xs) = true := by
  rw [smatch, if_pos g]

theorem tail_cons (t : List UInt8) (ts : List (List UInt8)) : ∃ x xs, tailOf (t :: ts) = x :: xs := by
  rw [tailOf]
  split
  · exact ⟨_, _, rfl⟩
  · exact ⟨_, _, rfl⟩

theorem smatch_short : ∀ (t : List UInt8) (ts : List (List UInt8)), smatch (t :: ts) [] = false := fun _ _ => rfl

/-- The filters overlap just if the witness matches both. -/
theorem overlap_wit : ∀ a b : List (List UInt8), overlap a b = (smatch a (witOf a b) && smatch b (witOf a b))
  | [], [] => rfl
  | [], _ :: _ => rfl
  | _ :: _, [] => rfl
  | s :: ss, t :: ts => by
    rw [overlap, witOf]
    by_cases gs : s = [62]
    · rw [if_pos gs, step_gt0 gs, smatch_tail (t :: ts)]
      obtain ⟨x, xs, e⟩ := tail_cons t ts
      rw [e, smatch_gt gs]
      rfl
    · rw [if_neg gs]
      by_cases gt : t = [62]
      · rw [if_pos gt, step_gt1 gt, smatch_tail (s :: ss)]
        obtain ⟨x, xs, e⟩ := tail_cons s ss
        rw [e, smatch_gt gt]
        rfl
      · rw [if_neg gt, smatch, smatch, if_neg gs, if_neg gt]
        by_cases ss0 : s = [42]
        · rw [step_go gs gt (.inl ss0), if_pos (Or.inl ss0)]
          have ht : t = [42] ∨ t = (if s ≠ [42] then s else if t ≠ [42] then t else [120]) := by
            by_cases ts0 : t = [42]
            · exact .inl ts0
            · right
              rw [if_neg (by intro h; exact h ss0), if_pos ts0]
          rw [if_pos ht]
          exact overlap_wit ss ts
        · have hs : s = [42] ∨ s = (if s ≠ [42] then s else if t ≠ [42] then t else [120]) := .inr (by rw [if_pos ss0])
          rw [if_pos hs, if_pos ss0]
          by_cases c : t = [42] ∨ t = s
          · rw [if_pos c, step_go gs gt (by rcases c with h | h; exact .inr (.inl h); exact .inr (.inr h.symm))]
            exact overlap_wit ss ts
          · rw [if_neg c, step_no gs gt ss0 (fun h => c (.inl h)) (fun h => c (.inr h.symm))]
            simp

end Go.Proofs.Qxb6602186aMods
