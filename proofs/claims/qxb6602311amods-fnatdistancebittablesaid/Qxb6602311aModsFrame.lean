/-
  THE FRAME: a [32]byte among the arguments, opened for a walk. Own text.
-/
import Derived.Test.Qxb6602311aModsBase
import Derived.ProofKit
import Derived.OpenShut
namespace Go.Proofs.Qxb6602311aMods
open Go.ChangeShapes Go.WideShapes Go.ChangeAt Go.RowKit

theorem Trym.own : ownKnob Trym.prog.godebug = none := by kernel_rfl
theorem Trym.laidOut : laidOutB Trym.prog = true := by kernel_rfl
theorem Trym.cells22 : Trym.prog.cellsOf 22 = 32 := by kernel_rfl
theorem Trym.cells5 : Trym.prog.cellsOf 5 = 1 := by kernel_rfl

/-- A [32]byte that is read among the arguments. -/
theorem open_arr {H : Type} {enc : TypeId × Value → H} {W : World} {base0 base : Nat} {r : Reach} {v : Value} {d : DataW H} {p : List MemPlace}
    (hv : Value.okWide Trym.prog W r base0 22 v) (h : DataW.Trod enc Trym.prog W base (fun _ => true) true 22 v d p) : ∃ cs X, v = .agg cs ∧ IsArr cs X := by
  simp only [Value.okWide, Trym.underlying22] at hv
  obtain ⟨cs, rfl, hsz, _⟩ := hv
  rw [Trym.cells22] at hsz
  obtain ⟨fuel, hf⟩ := h
  obtain ⟨xs, m, _, _, _, hl, hx⟩ := DataW.trod_array Trym.underlying22 hf
  have each : ∀ j, j < 32 → ∃ n : Nat, cs[j]? = some (.int .u8 (n : Int)) ∧ n ≤ 255 := by
    intro j hj
    have h1 := hx j hj
    have hj2 : j < xs.length := by omega
    rw [Trym.cells5, Nat.mul_one, List.getElem?_eq_getElem hj2] at h1
    obtain ⟨n, hn, _, hw⟩ := DataW.trod_int Trym.underlying5 h1
    have hb := bounds_u8 hw
    have hc : cs[j]? = some (.int .u8 n) := by
      have h2 := congrArg (fun l => l[0]?) hn
      simpa [Value.cells, List.getElem?_take, List.getElem?_drop] using h2
    refine ⟨n.toNat, ?_, by omega⟩
    rw [hc, Int.toNat_of_nonneg hb.1]
  refine ⟨cs, fun j => if h : j < 32 then (each j h).choose else 0, rfl, hsz, fun j hj => ?_⟩
  simp only [hj, dite_true]
  exact (each j hj).choose_spec

end Go.Proofs.Qxb6602311aMods
