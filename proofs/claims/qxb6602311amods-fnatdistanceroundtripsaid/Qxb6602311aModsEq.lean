/-
  Two [32]byte that are one and the same: '==' says so. Own text.
-/
import Derived.Test.Qxb6602311aModsBase
import Derived.ChangeKeysEq
namespace Go.Proofs.Qxb6602311aMods
open Go.RowKit

theorem cells5 : Trym.prog.cellsOf 5 = 1 := by kernel_rfl
theorem info5 : ∃ i, Trym.prog.info? 5 = some i := by
  have h : (Trym.prog.info? 5).isSome = true := by kernel_rfl
  exact Option.isSome_iff_exists.1 h

theorem run_part5 (cs : Array Value) (X : Nat → Nat) (h : IsArr cs X) (j : Nat) (hj : j < 32) (w : World) : (part 5 cs (j * 1)).run Trym.prog w = .ok (.int .u8 (X j)) w := by
  have h1 := (h.2 j hj).1
  simp [part, h1]

theorem run_items (cs : Array Value) (X : Nat → Nat) (h : IsArr cs X) (d : Nat) (w : World) : ∀ is : List Nat, (∀ i ∈ is, i < 32) → (Op.eqItems (d + 1) 5 1 cs cs is).run Trym.prog w = .ok true w
  | [], _ => by simp [Op.eqItems]
  | i :: is, hi => by
    have h1 := run_part5 cs X h i (hi i (by simp)) w
    have h2 := run_items cs X h d w is (fun j hj => hi j (by simp [hj]))
    simp only [Op.eqItems, Sem.run_bind, h1, Result.andThen_ok, run_equalIn_int w d 5 .u8 .u8 _ _ Trym.underlying5]
    simpa using h2

theorem run_eq22 (cs : Array Value) (X : Nat → Nat) (h : IsArr cs X) (w : World) : (Op.equalIn 10000 22 (.agg cs) (.agg cs)).run Trym.prog w = .ok true w := by
  obtain ⟨i, hi⟩ := info5
  rw [run_equalIn_array w 9999 cs cs Trym.underlying22 hi, cells5]
  exact run_items cs X h 9998 w _ (by simp)
end Go.Proofs.Qxb6602311aMods
