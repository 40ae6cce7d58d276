/-
  THE FRAME: a []string among the arguments, opened for a walk. Own text, after the shell that the kit's tool writes for slices of integers.
-/
import Derived.Test.Qxb6602186aModsBase
import Derived.ProofKit
import Derived.Below
import Derived.SliceStrings
namespace Go.Proofs.Qxb6602186aMods
open Go.ChangeShapes Go.WideShapes Go.ChangeAt Go.RowKit

theorem Trym.own : ownKnob Trym.prog.godebug = none := by kernel_rfl
theorem Trym.laidOut : laidOutB Trym.prog = true := by kernel_rfl
theorem Trym.cells9 : Trym.prog.cellsOf 9 = 1 := by kernel_rfl

theorem isStrs_of_cells {W : World} {a : Addr} {len cap : Nat} {ss : List ByteArray} (hl : len ≤ cap) (hm : cap ≤ maxLen) (hz : ss.length = cap)
    (hcell : ∀ i, i < ss.length → W.cell? (a.add i) = some (.string (ss.getD i ByteArray.empty))) (hws : ∀ s ∈ ss, s.size ≤ maxLen) : IsStrs W (some a) len cap (ss.take len) := by
  refine ⟨by rw [List.length_take]; omega, hl, hm, fun s hs => hws s (List.mem_of_mem_take hs), fun hp => ?_⟩
  obtain ⟨b, off, spot⟩ := a
  have hspot : spot = none := by simpa [Addr.add] using World.cell?_spot (hcell 0 (by omega))
  subst hspot
  refine ⟨b, off, rfl, fun i hi => ?_⟩
  have h1 := hcell i (by omega)
  rw [Go.WideShapes.add_plain] at h1
  rw [h1]
  simp [List.getD, hi]

/-- A []string that is read among the arguments. -/
theorem open_isStrs {H : Type} {enc : TypeId × Value → H} {W : World} {base : Nat} {a : Option Addr} {len cap : Nat} {d : DataW H} {p : List MemPlace}
    (h : DataW.Trod enc Trym.prog W base (fun _ => true) true 22 (.slice a len cap) d p) : ∃ xs, IsStrs W a len cap xs := by
  obtain ⟨fuel, hf⟩ := h
  rcases open_strings Trym.underlying22 Trym.underlying9 Trym.cells9 hf with ⟨hcs, _⟩ | ⟨x, l, c, ss, hcs, _, hl, hm, hz, _, hcell, hws⟩
  · simp [Value.cells] at hcs
    obtain ⟨rfl, rfl, rfl⟩ := hcs
    exact ⟨[], IsStrs.nil _⟩
  · simp [Value.cells] at hcs
    obtain ⟨rfl, rfl, rfl⟩ := hcs
    exact ⟨_, isStrs_of_cells hl hm (by simpa using hz) hcell hws⟩

end Go.Proofs.Qxb6602186aMods
