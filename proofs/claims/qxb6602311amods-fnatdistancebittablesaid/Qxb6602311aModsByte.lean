/-
  ONE BYTE of atDistance: the high bits of x, its bit s turned over, the low bits of y: as Go reckons it and as a plain number. Own text.
-/
import Derived.Laws.BitsAllLaws
import Derived.RowKit
namespace Go.Proofs.Qxb6602311aMods
open Go.RowKit

/-- As the walk writes what Go reckons: x &^ (bit<<1 - 1) | ^x & bit | y & (bit-1). -/
def nbGo (x y bt : Nat) : Int :=
  bits BinOp.or IntKind.u8
    (bits BinOp.or IntKind.u8 (bits BinOp.andNot IntKind.u8 (x : Int) (((bt : Int) * 2 - 1) % 256))
      (bits BinOp.and IntKind.u8 (bits BinOp.xor IntKind.u8 (if IntKind.u8.signed = true then -1 else IntKind.u8.max) (x : Int)) (bt : Int)))
    (bits BinOp.and IntKind.u8 (y : Int) (((bt : Int) - 1) % 256))

/-- The same as a number. -/
def nb8 (s x y : Nat) : Nat := 2 ^ s * (2 * (x / 2 ^ (s + 1)) + (1 - x / 2 ^ s % 2)) + y % 2 ^ s

theorem high8 : ∀ s : Fin 8, ∀ x : Fin 256, ((x.val &&& (255 - (2 ^ s.val * 2 + 255) % 256)) ||| ((255 ^^^ x.val) &&& 2 ^ s.val)) = 2 ^ s.val * (2 * (x.val / 2 ^ (s.val + 1)) + (1 - x.val / 2 ^ s.val % 2)) := by decide +kernel

theorem low8 (s y : Nat) : y &&& (2 ^ s - 1) = y % 2 ^ s := Nat.and_two_pow_sub_one_eq_mod y s

theorem pow_le (s : Nat) (hs : s < 8) : 1 ≤ 2 ^ s ∧ 2 ^ s ≤ 128 := by
  have : s = 0 ∨ s = 1 ∨ s = 2 ∨ s = 3 ∨ s = 4 ∨ s = 5 ∨ s = 6 ∨ s = 7 := by omega
  rcases this with h | h | h | h | h | h | h | h <;> subst h <;> decide

theorem nb8_le : ∀ s : Fin 8, ∀ x : Fin 256, 2 ^ s.val * (2 * (x.val / 2 ^ (s.val + 1)) + (1 - x.val / 2 ^ s.val % 2)) + 2 ^ s.val ≤ 256 := by decide +kernel

theorem nb8_lt (s x y : Nat) (hs : s < 8) (hx : x ≤ 255) : nb8 s x y ≤ 255 := by
  have h1 := nb8_le ⟨s, hs⟩ ⟨x, by omega⟩
  have h2 : y % 2 ^ s < 2 ^ s := Nat.mod_lt _ (Nat.two_pow_pos s)
  unfold nb8
  simp only at h1
  omega

theorem nb_eq (s x y : Nat) (hs : s < 8) (hx : x ≤ 255) (hy : y ≤ 255) : nbGo x y (2 ^ s) = ((nb8 s x y : Nat) : Int) := by
  have hp := pow_le s hs
  have e1 : (((2 ^ s : Nat) : Int) * 2 - 1) % 256 = (((2 ^ s * 2 + 255) % 256 : Nat) : Int) := by omega
  have e2 : (((2 ^ s : Nat) : Int) - 1) % 256 = ((2 ^ s - 1 : Nat) : Int) := by omega
  have e3 : (if IntKind.u8.signed = true then (-1 : Int) else IntKind.u8.max) = ((255 : Nat) : Int) := by decide
  unfold nbGo
  rw [e1, e2, e3]
  rw [u8_andNot_nat x _ (by omega) (by omega), u8_xor_nat 255 x (by omega) (by omega)]
  have hx1 : 255 ^^^ x < 256 := Nat.xor_lt_two_pow (n := 8) (by omega) (by omega)
  rw [u8_and_nat _ _ hx1 (by omega), u8_and_nat y _ (by omega) (by omega)]
  have ha : x &&& (255 - (2 ^ s * 2 + 255) % 256) < 256 := Nat.and_lt_two_pow (n := 8) x (by omega)
  have hb : (255 ^^^ x) &&& 2 ^ s < 256 := Nat.and_lt_two_pow (n := 8) (255 ^^^ x) (by omega)
  rw [u8_or_nat _ _ ha hb]
  have hh := high8 ⟨s, hs⟩ ⟨x, by omega⟩
  have hle := nb8_le ⟨s, hs⟩ ⟨x, by omega⟩
  simp only at hh hle
  rw [hh, low8]
  have hm : y % 2 ^ s < 2 ^ s := Nat.mod_lt _ (Nat.two_pow_pos s)
  rw [u8_or_nat _ _ (by omega) (by omega)]
  rw [← Nat.two_pow_add_eq_or_of_lt hm]
  rfl

end Go.Proofs.Qxb6602311aMods
