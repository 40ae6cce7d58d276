/-
  THE BASE: what a walk is told of a []string; small laws on it. Own text.
-/
import Derived.Test.Qxb6602186aModsRows
import Derived.WalkKit
import Derived.WalkSpells
import Derived.WalkLawsBesides
import Derived.Deep.QuietTactic
import Derived.BigQuiet
import Derived.WalkSmall
namespace Go.Proofs.Qxb6602186aMods
open Go.RowKit

/-- A slice of strings: its elements are 'xs'; where there is one, it lies in plain cells. -/
def IsStrs (w : World) (a : Option Addr) (len cap : Nat) (xs : List ByteArray) : Prop :=
  xs.length = len ∧ len ≤ cap ∧ cap ≤ maxLen ∧ (∀ s ∈ xs, s.size ≤ maxLen) ∧
  (0 < len → ∃ b off, a = some ⟨b, off, none⟩ ∧ ∀ i, i < len → w.cell? ⟨b, off + i, none⟩ = some (.string (xs.getD i ByteArray.empty)))

theorem IsStrs.row {w : World} {a : Option Addr} {len cap : Nat} {xs : List ByteArray} (h : IsStrs w a len cap xs) (hl : 0 < len) :
    ∃ b off, a = some ⟨b, off, none⟩ ∧ ∀ i, i < len → w.cell? ⟨b, off + i, none⟩ = some (.string (xs.getD i ByteArray.empty)) := h.2.2.2.2 hl

theorem IsStrs.bound {w : World} {a : Option Addr} {len cap : Nat} {xs : List ByteArray} (h : IsStrs w a len cap xs) : len ≤ 9223372036854775807 := by
  have h1 := h.2.1
  have h2 := h.2.2.1
  unfold maxLen at h2
  omega

theorem IsStrs.nil (w : World) : IsStrs w none 0 0 [] := ⟨rfl, Nat.le_refl _, Nat.zero_le _, by simp, fun h => by omega⟩

theorem block_lt_of_cell {w : World} {p : Addr} {v : Value} (h : w.cell? p = some v) : p.block < w.heap.size := by
  unfold World.cell? at h
  by_cases hb : p.block < w.heap.size
  · exact hb
  · rw [Array.getElem?_eq_none (by omega)] at h
    simp at h

theorem IsStrs.below {w w' : World} {a : Option Addr} {len cap : Nat} {xs : List ByteArray} (h : IsStrs w a len cap xs) (hb : Below w.heap.size w w') : IsStrs w' a len cap xs := by
  refine ⟨h.1, h.2.1, h.2.2.1, h.2.2.2.1, fun hl => ?_⟩
  obtain ⟨b, off, ha, hc⟩ := h.row hl
  refine ⟨b, off, ha, fun i hi => ?_⟩
  have h1 := hc i hi
  have h2 : b < w.heap.size := block_lt_of_cell h1
  rw [hb.cell (p := ⟨b, off + i, none⟩) h2]
  exact h1

theorem IsStrs.drewN {w : World} {a : Option Addr} {len cap : Nat} {xs : List ByteArray} (h : IsStrs w a len cap xs) (n : Nat) : IsStrs (w.drewN n) a len cap xs :=
  h.below (below_drewN (Below.refl _ _) n)

/-- The strings as lists of bytes. -/
def bs (xs : List ByteArray) : List (List UInt8) := xs.map (·.toList)

theorem bs_length (xs : List ByteArray) : (bs xs).length = xs.length := by simp [bs]

theorem bs_take_succ (xs : List ByteArray) (k : Nat) (h : k < xs.length) : (bs xs).take (k + 1) = (bs xs).take k ++ [(xs.getD k ByteArray.empty).toList] := by
  rw [List.take_add_one]
  simp [bs, List.getD, List.getElem?_eq_getElem h]

theorem IsStrs.size_at {w : World} {a : Option Addr} {len cap : Nat} {xs : List ByteArray} (h : IsStrs w a len cap xs) {k : Nat} (hk : k < len) : (xs.getD k ByteArray.empty).size ≤ maxLen := by
  have hx : k < xs.length := by rw [h.1]; exact hk
  rw [List.getD, List.getElem?_eq_getElem hx]
  exact h.2.2.2.1 _ (List.getElem_mem hx)

def SomeBool (e : Ending) : Prop := ∃ r : Bool, e = .returned (.bool r)

theorem ret_bool {a b : Bool} (h : a = b) : Ending.returned (.bool a) = .returned (.bool b) := by rw [h]

end Go.Proofs.Qxb6602186aMods
