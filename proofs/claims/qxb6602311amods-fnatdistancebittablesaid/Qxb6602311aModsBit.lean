/-
  bitOf: its walk; the bit table as plain numbers. Own text.
-/
import Derived.Test.Qxb6602311aModsAt
import Derived.Test.Qxb6602311aModsBitPlain
namespace Go.Proofs.Qxb6602311aMods
open Go.RowKit

/-- Bit p of the number that the 32 bytes X write out, the highest byte first. -/
def bit8 (X : Nat → Nat) (p : Nat) : Nat := X (31 - p / 8) / 2 ^ (p % 8) % 2

theorem bit8_lt (X : Nat → Nat) (p : Nat) : bit8 X p ≤ 1 := by
  unfold bit8
  omega

/-- The bit table. -/
theorem bit_atD (I L : Nat → Nat) (P p : Nat) (hP : P < 256) (hp : p < 256) : bit8 (atD I L P) p = if P < p then bit8 I p else if p = P then 1 - bit8 I p else bit8 L p := by
  unfold bit8 atD
  by_cases h1 : 31 - p / 8 < 31 - P / 8
  · simp only [h1, if_true]
    rw [if_pos (by omega)]
  · by_cases h2 : 31 - p / 8 = 31 - P / 8
    · have h3 : p / 8 = P / 8 := by omega
      simp only [h2, Nat.lt_irrefl, if_false, if_true]
      unfold nb8
      rw [nbits (P % 8) (p % 8) _ _ (Nat.mod_lt _ (by omega)) (Nat.mod_lt _ (by omega))]
      by_cases a : P < p
      · rw [if_pos a, if_pos (by omega)]
      · rw [if_neg a, if_neg (by omega)]
        by_cases b : p = P
        · subst b
          rw [if_pos rfl, if_pos rfl]
        · rw [if_neg b, if_neg (by omega)]
    · simp only [h1, h2, if_false]
      rw [if_neg (by omega), if_neg (by omega)]

theorem bitGo (x k : Nat) (hx : x ≤ 255) : bits BinOp.and IntKind.u8 ((x : Int) / 2 ^ k) 1 = ((x / 2 ^ k % 2 : Nat) : Int) := by
  have h1 : ((x : Int) / 2 ^ k) = ((x / 2 ^ k : Nat) : Int) := by norm_cast
  have h2 : x / 2 ^ k ≤ x := Nat.div_le_self _ _
  rw [h1]
  have h3 := u8_and_nat (x / 2 ^ k) 1 (by omega) (by omega)
  rw [Nat.and_one_is_mod] at h3
  exact h3

theorem ret_u8 {a b : Int} (h : a = b) : Ending.returned (.int .u8 a) = .returned (.int .u8 b) := by rw [h]

set_option maxHeartbeats 400000 in
theorem bit_any (cs : Array Value) (X : Nat → Nat) (p : Nat) (w : World) (ha : IsArr cs X) (hp : p < 256) :
    Calls Trym.prog 12 #[.agg cs, .int .i64 p] w fun e w' => e = .returned (.int .u8 (bit8 X p : Nat)) ∧ Below w.heap.size w w' := by
  have hck := (ha.2 (31 - p / 8) (by omega)).1
  have hle := (ha.2 (31 - p / 8) (by omega)).2
  have hs := ha.1
  have HB : Hid (bits BinOp.and IntKind.u8 ((X (31 - p / 8) : Int) / 2 ^ (p % 8)) 1 = ((bit8 X p : Nat) : Int)) := bitGo _ _ hle
  generalize X (31 - p / 8) = x at *
  go_enter Trym.func12, Trym.ntmps12
  go_wp2
  go_ret
  exact ⟨ret_u8 HB.out, (Below.refl _ _).alloc (Nat.le_refl _) _⟩

end Go.Proofs.Qxb6602311aMods
