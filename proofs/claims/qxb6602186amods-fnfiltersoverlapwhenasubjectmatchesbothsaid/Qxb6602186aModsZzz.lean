/-
  The zzBytes_ function of three slices: it answers some bool and writes nothing. Own text.
-/
import Derived.Test.Qxb6602186aModsBase
namespace Go.Proofs.Qxb6602186aMods
open Go.RowKit

set_option maxHeartbeats 400000 in
theorem zz26_any (a0 a1 a2 : Option Addr) (l0 c0 l1 c1 l2 c2 : Nat) (xs ys zs : List ByteArray) (w : World) (h0 : IsStrs w a0 l0 c0 xs) (h1 : IsStrs w a1 l1 c1 ys) (h2 : IsStrs w a2 l2 c2 zs) :
    Calls Trym.prog 26 #[.slice a0 l0 c0, .slice a1 l1 c1, .slice a2 l2 c2] w fun e w' => SomeBool e ∧ w = w' := by
  have hbd0 := h0.bound
  have hbd1 := h1.bound
  have hbd2 := h2.bound
  go_enter Trym.func26, Trym.ntmps26
  by_cases hl0 : l0 ≤ 1048576
  · go_wp2
    go_loop [7, 8] (fun n i => ∃ (k : Nat) (m : Int), k ≤ l0 ∧ i = .int .i64 k ∧ n = .int .i64 m ∧ 0 ≤ m ∧ m ≤ 1048576) (fun _ i => l0 - (intOf i).toNat)
    case atStart => exact ⟨0, _, Nat.zero_le _, rfl, rfl, by omega, by omega⟩
    case round =>
      obtain ⟨k, m, hk, rfl, rfl, hm0, hm1⟩ := hrel
      by_cases hlt : k < l0
      · obtain ⟨b, off, rfl, hc⟩ := h0.row (by omega)
        have hck := hc k hlt
        clear hc
        generalize xs.getD k ByteArray.empty = s at *
        go_wp2
        · go_ret
          exact ⟨⟨_, rfl⟩, rfl⟩
        · go_ret
          exact ⟨⟨_, rfl⟩, rfl⟩
        · go_round
          case rel => exact ⟨k + 1, _, by omega, by go_num, rfl, by omega, by omega⟩
          case measure => simp [intOf]; omega
      · by_cases hl1 : l1 ≤ 1048576
        · by_cases hs : m + (l1 : Int) ≤ 1048576
          · go_wp2
            go_loop [7, 9] (fun n i => ∃ (k : Nat) (m : Int), k ≤ l1 ∧ i = .int .i64 k ∧ n = .int .i64 m ∧ 0 ≤ m ∧ m ≤ 1048576) (fun _ i => l1 - (intOf i).toNat)
            case atStart => exact ⟨0, _, Nat.zero_le _, rfl, rfl, by omega, by omega⟩
            case round =>
              clear hm0 hm1 hs hk hlt
              obtain ⟨k, m, hk, rfl, rfl, hm0, hm1⟩ := hrel
              by_cases hlt : k < l1
              · obtain ⟨b, off, rfl, hc⟩ := h1.row (by omega)
                have hck := hc k hlt
                clear hc
                generalize ys.getD k ByteArray.empty = s at *
                go_wp2
                · go_ret
                  exact ⟨⟨_, rfl⟩, rfl⟩
                · go_ret
                  exact ⟨⟨_, rfl⟩, rfl⟩
                · go_round
                  case rel => exact ⟨k + 1, _, by omega, by go_num, rfl, by omega, by omega⟩
                  case measure => simp [intOf]; omega
              · by_cases hl2 : l2 ≤ 1048576
                · by_cases hs : m + (l2 : Int) ≤ 1048576
                  · go_wp2
                    go_loop [7, 10] (fun n i => ∃ (k : Nat) (m : Int), k ≤ l2 ∧ i = .int .i64 k ∧ n = .int .i64 m ∧ 0 ≤ m ∧ m ≤ 1048576) (fun _ i => l2 - (intOf i).toNat)
                    case atStart => exact ⟨0, _, Nat.zero_le _, rfl, rfl, by omega, by omega⟩
                    case round =>
                      clear hm0 hm1 hs hk hlt
                      obtain ⟨k, m, hk, rfl, rfl, hm0, hm1⟩ := hrel
                      by_cases hlt : k < l2
                      · obtain ⟨b, off, rfl, hc⟩ := h2.row (by omega)
                        have hck := hc k hlt
                        clear hc
                        generalize zs.getD k ByteArray.empty = s at *
                        go_wp2
                        · go_ret
                          exact ⟨⟨_, rfl⟩, rfl⟩
                        · go_ret
                          exact ⟨⟨_, rfl⟩, rfl⟩
                        · go_round
                          case rel => exact ⟨k + 1, _, by omega, by go_num, rfl, by omega, by omega⟩
                          case measure => simp [intOf]; omega
                      · go_wp2
                        go_ret
                        exact ⟨⟨_, rfl⟩, rfl⟩
                  · go_wp2
                    go_ret
                    exact ⟨⟨_, rfl⟩, rfl⟩
                · go_wp2
                  go_ret
                  exact ⟨⟨_, rfl⟩, rfl⟩
          · go_wp2
            go_ret
            exact ⟨⟨_, rfl⟩, rfl⟩
        · go_wp2
          go_ret
          exact ⟨⟨_, rfl⟩, rfl⟩
  · go_wp2
    go_ret
    exact ⟨⟨_, rfl⟩, rfl⟩

end Go.Proofs.Qxb6602186aMods
