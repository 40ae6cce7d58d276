/-
  tokBytes and cloneToks: their walks. Own text.
-/
import Derived.Test.Qxb6602186aModsBase
namespace Go.Proofs.Qxb6602186aMods
open Go.RowKit

set_option maxHeartbeats 400000 in
theorem tok_any (a : Option Addr) (len cap : Nat) (xs : List ByteArray) (w : World) (h : IsStrs w a len cap xs) :
    Calls Trym.prog 11 #[.slice a len cap] w fun e w' => ∃ n : Int, 0 ≤ n ∧ n ≤ 3000000 ∧ e = .returned (.int .i64 n) ∧ w = w' := by
  have hbd := h.bound
  go_enter Trym.func11, Trym.ntmps11
  go_wp2
  go_loop [3, 4] (fun n i => ∃ (k : Nat) (m : Int), k ≤ len ∧ i = .int .i64 k ∧ n = .int .i64 m ∧ 0 ≤ m ∧ m ≤ 1048576) (fun _ i => len - (intOf i).toNat)
  case atStart => exact ⟨0, 0, Nat.zero_le _, rfl, rfl, by omega, by omega⟩
  case round =>
    obtain ⟨k, m, hk, rfl, rfl, hm0, hm1⟩ := hrel
    by_cases hlt : k < len
    · obtain ⟨b, off, rfl, hc⟩ := h.row (by omega)
      obtain ⟨s, hs⟩ : ∃ s, s = xs.getD k ByteArray.empty := ⟨_, rfl⟩
      have hck := hc k hlt
      rw [← hs] at hck
      clear hc hs
      go_wp2
      · go_ret
        exact ⟨_, by omega, by omega, rfl, rfl⟩
      · go_ret
        exact ⟨_, by omega, by omega, rfl, rfl⟩
      · go_round
        case rel => exact ⟨k + 1, _, by omega, by go_num, rfl, by omega, by omega⟩
        case measure => simp [intOf]; omega
    · go_wp2
      go_ret
      exact ⟨m, hm0, by omega, rfl, rfl⟩

theorem Trym.info9 : (Trym.prog.info? 9).map (fun i => (i.zero, i.size, i.bytes)) = some (some (.string ByteArray.empty), 1, 16) := by kernel_rfl

/-- In the middle of the copying: of the row that was made the first 'k' cells hold the first 'k' strings. -/
def Copied (B : Nat) (w wr : World) (len k : Nat) (xs : List ByteArray) : Prop :=
  ∃ cs : List Value, wr.ownsRow B 9 1 (.slice (some ⟨B, 0, none⟩) len len) len cs ∧ (∀ j, j < k → cs[j]? = some (.string (xs.getD j ByteArray.empty))) ∧ Below B w wr

theorem copied_start {B : Nat} {w wr : World} {len : Nat} {xs : List ByteArray} {cs : List Value} (h : wr.ownsRow B 9 1 (.slice (some ⟨B, 0, none⟩) len len) len cs) (hb : Below B w wr) : Copied B w wr len 0 xs :=
  ⟨cs, h, fun j hj => by omega, hb⟩

theorem copied_cell {B : Nat} {w wr : World} {len k : Nat} {xs : List ByteArray} (h : Copied B w wr len k xs) (j : Nat) (hj : j < len) : ∃ v, wr.cell? ⟨B, j, none⟩ = some v := by
  obtain ⟨cs, ho, _, _⟩ := h
  have hl : cs.length = len * 1 := ho.1
  rw [ho.cellAt j (by omega), List.getElem?_eq_getElem (by omega)]
  exact ⟨_, rfl⟩

theorem copied_free {B : Nat} {w wr : World} {len k : Nat} {xs : List ByteArray} (h : Copied B w wr len k xs) (j : Nat) : wr.frozen? ⟨B, j, none⟩ = false := by
  obtain ⟨cs, ho, _, _⟩ := h
  exact ho.frozenAt j

theorem copied_step {B : Nat} {w wr : World} {len k : Nat} {xs : List ByteArray} (h : Copied B w wr len k xs) (hk : k < len) : Copied B w (wr.setCell ⟨B, k, none⟩ (.string (xs.getD k ByteArray.empty))) len (k + 1) xs := by
  obtain ⟨cs, ho, hc, hb⟩ := h
  have hl : cs.length = len * 1 := ho.1
  refine ⟨_, (ho.stored k _).1, fun j hj => ?_, hb.setCell (Nat.le_refl _) _⟩
  rw [List.getElem?_set]
  by_cases e : k = j
  · subst e
    simp; omega
  · rw [if_neg e]
    exact hc j (by omega)

theorem copied_end {B : Nat} {w wr : World} {len : Nat} {xs : List ByteArray} (h : Copied B w wr len len xs) (hx : xs.length = len) (hm : len ≤ maxLen) (hs : ∀ s ∈ xs, s.size ≤ maxLen) : IsStrs wr (some ⟨B, 0, none⟩) len len xs := by
  obtain ⟨cs, ho, hc, hb⟩ := h
  refine ⟨hx, Nat.le_refl _, hm, hs, fun _ => ⟨B, 0, rfl, fun i hi => ?_⟩⟩
  rw [Nat.zero_add, ho.cellAt i (by omega)]
  exact hc i hi

set_option maxHeartbeats 400000 in
theorem clone_any (a : Option Addr) (len cap : Nat) (xs : List ByteArray) (w : World) (h : IsStrs w a len cap xs) (hl : len ≤ 65536) :
    Calls Trym.prog 12 #[.slice a len cap] w fun e w' => ∃ a' cap', e = .returned (.slice a' len cap') ∧ IsStrs w' a' len cap' xs ∧ Below w.heap.size w w' := by
  have hbd := h.bound
  obtain ⟨i0, hi, hz0, hz1, hz2⟩ := info_parts Trym.info9
  have heq := fun wx => Lib.run_eql_slice_nil (P := Trym.prog) wx 22 9 a len cap 0 0 Trym.underlying22
  cases a with
  | none =>
    have hl0 : len = 0 := by
      apply Classical.byContradiction
      intro hne
      obtain ⟨b, off, hn, _⟩ := h.row (by omega)
      cases hn
    subst hl0
    have hx : xs = [] := List.length_eq_zero_iff.mp h.1
    subst hx
    go_enter Trym.func12, Trym.ntmps12
    go_wp2
    go_ret
    exact ⟨_, _, rfl, IsStrs.nil _, Below.refl _ _⟩
  | some x =>
    go_enter Trym.func12, Trym.ntmps12
    go_wp2_with (first
      | (at_make; refine wpList_make_full _ rfl _ _ 22 rfl w.heap.size 9 i0 (.string ByteArray.empty) 1 Trym.underlying22 hi hz0 hz1 _ _ _ _ len rfl rfl (by omega) (by omega) (by rw [hz2]; omega) (by unfold maxLen; omega) (Nat.le_refl _) ?_; intro w1 hown hgrow)
      | go_in)
    have hst := copied_start (xs := xs) hown ((Below.refl w.heap.size w).grown hgrow (Nat.le_refl _) (by intro k hk; cases hk))
    clear hown hgrow heq hi hz0 hz1 hz2
    go_loopw [4] (fun i wr => ∃ k : Nat, k ≤ len ∧ i = .int .i64 k ∧ Copied w.heap.size w wr len k xs) (fun i _ => len - (intOf i).toNat)
    case atStart => exact ⟨0, Nat.zero_le _, rfl, hst⟩
    case round =>
      obtain ⟨k, hk, rfl, hcop⟩ := hrel
      by_cases hlt : k < len
      · obtain ⟨b, off, hx, hc⟩ := h.row (by omega)
        cases hx
        have hck := hc k hlt
        have hcw : wr.cell? ⟨b, off + k, none⟩ = w.cell? ⟨b, off + k, none⟩ := hcop.choose_spec.2.2.cell (block_lt_of_cell hck)
        rw [hck] at hcw
        obtain ⟨v0, hv0⟩ := copied_cell hcop k hlt
        have hf0 := copied_free hcop k
        have hstep := copied_step hcop hlt
        clear hc hck hcop
        generalize xs.getD k ByteArray.empty = s at *
        go_wp2
        go_roundw
        case rel => exact ⟨k + 1, by omega, by go_num, hstep⟩
        case measure => simp [intOf]; omega
      · have he : k = len := by omega
        subst he
        have hend := copied_end hcop h.1 (by unfold maxLen; omega) h.2.2.2.1
        have hbel : Below w.heap.size w wr := hcop.choose_spec.2.2
        go_wp2
        go_ret
        exact ⟨_, _, rfl, hend, hbel⟩

end Go.Proofs.Qxb6602186aMods
