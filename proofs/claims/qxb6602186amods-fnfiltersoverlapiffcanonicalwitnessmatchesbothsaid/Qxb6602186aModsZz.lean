/-
  The zzBytes_ functions of two slices: each answers some bool and writes nothing. Own text.
-/
import Derived.Test.Qxb6602186aModsBase
namespace Go.Proofs.Qxb6602186aMods
open Go.RowKit

set_option maxHeartbeats 400000 in
theorem zz10_any (a0 a1 : Option Addr) (l0 c0 l1 c1 : Nat) (xs ys : List ByteArray) (w : World) (h0 : IsStrs w a0 l0 c0 xs) (h1 : IsStrs w a1 l1 c1 ys) :
    Calls Trym.prog 10 #[.slice a0 l0 c0, .slice a1 l1 c1] w fun e w' => SomeBool e ∧ w = w' := by
  have hbd0 := h0.bound
  have hbd1 := h1.bound
  go_enter Trym.func10, Trym.ntmps10
  by_cases hl0 : l0 ≤ 1048576
  · go_wp2
    go_loop [5, 6] (fun n i => ∃ (k : Nat) (m : Int), k ≤ l0 ∧ i = .int .i64 k ∧ n = .int .i64 m ∧ 0 ≤ m ∧ m ≤ 1048576) (fun _ i => l0 - (intOf i).toNat)
    case atStart => exact ⟨0, l0, Nat.zero_le _, rfl, rfl, by omega, by omega⟩
    case round =>
      obtain ⟨k, m, hk, rfl, rfl, hm0, hm1⟩ := hrel
      by_cases hlt : k < l0
      · obtain ⟨b, off, rfl, hc⟩ := h0.row (by omega)
        have hck := hc k hlt
        clear hc
        generalize xs.getD k ByteArray.empty = s at *
        go_wp2
        · go_ret
          exact ⟨⟨_, rfl⟩, rfl⟩
        · go_ret
          exact ⟨⟨_, rfl⟩, rfl⟩
        · go_round
          case rel => exact ⟨k + 1, _, by omega, by go_num, rfl, by omega, by omega⟩
          case measure => simp [intOf]; omega
      · by_cases hl1 : l1 ≤ 1048576
        · by_cases hs : m + (l1 : Int) ≤ 1048576
          · go_wp2
            go_loop [5, 7] (fun n i => ∃ (k : Nat) (m : Int), k ≤ l1 ∧ i = .int .i64 k ∧ n = .int .i64 m ∧ 0 ≤ m ∧ m ≤ 1048576) (fun _ i => l1 - (intOf i).toNat)
            case atStart => exact ⟨0, _, Nat.zero_le _, rfl, rfl, by omega, by omega⟩
            case round =>
              clear hm0 hm1 hs hk hlt
              obtain ⟨k, m, hk, rfl, rfl, hm0, hm1⟩ := hrel
              by_cases hlt : k < l1
              · obtain ⟨b, off, rfl, hc⟩ := h1.row (by omega)
                have hck := hc k hlt
                clear hc
                generalize ys.getD k ByteArray.empty = s at *
                go_wp2
                · go_ret
                  exact ⟨⟨_, rfl⟩, rfl⟩
                · go_ret
                  exact ⟨⟨_, rfl⟩, rfl⟩
                · go_round
                  case rel => exact ⟨k + 1, _, by omega, by go_num, rfl, by omega, by omega⟩
                  case measure => simp [intOf]; omega
              · go_wp2
                go_ret
                exact ⟨⟨_, rfl⟩, rfl⟩
          · go_wp2
            go_ret
            exact ⟨⟨_, rfl⟩, rfl⟩
        · go_wp2
          go_ret
          exact ⟨⟨_, rfl⟩, rfl⟩
  · go_wp2
    go_ret
    exact ⟨⟨_, rfl⟩, rfl⟩
set_option maxHeartbeats 400000 in
theorem zz18_any (a0 a1 : Option Addr) (l0 c0 l1 c1 : Nat) (xs ys : List ByteArray) (w : World) (h0 : IsStrs w a0 l0 c0 xs) (h1 : IsStrs w a1 l1 c1 ys) :
    Calls Trym.prog 18 #[.slice a0 l0 c0, .slice a1 l1 c1] w fun e w' => SomeBool e ∧ w = w' := by
  have hbd0 := h0.bound
  have hbd1 := h1.bound
  go_enter Trym.func18, Trym.ntmps18
  by_cases hl0 : l0 ≤ 1048576
  · go_wp2
    go_loop [5, 6] (fun n i => ∃ (k : Nat) (m : Int), k ≤ l0 ∧ i = .int .i64 k ∧ n = .int .i64 m ∧ 0 ≤ m ∧ m ≤ 1048576) (fun _ i => l0 - (intOf i).toNat)
    case atStart => exact ⟨0, l0, Nat.zero_le _, rfl, rfl, by omega, by omega⟩
    case round =>
      obtain ⟨k, m, hk, rfl, rfl, hm0, hm1⟩ := hrel
      by_cases hlt : k < l0
      · obtain ⟨b, off, rfl, hc⟩ := h0.row (by omega)
        have hck := hc k hlt
        clear hc
        generalize xs.getD k ByteArray.empty = s at *
        go_wp2
        · go_ret
          exact ⟨⟨_, rfl⟩, rfl⟩
        · go_ret
          exact ⟨⟨_, rfl⟩, rfl⟩
        · go_round
          case rel => exact ⟨k + 1, _, by omega, by go_num, rfl, by omega, by omega⟩
          case measure => simp [intOf]; omega
      · by_cases hl1 : l1 ≤ 1048576
        · by_cases hs : m + (l1 : Int) ≤ 1048576
          · go_wp2
            go_loop [5, 7] (fun n i => ∃ (k : Nat) (m : Int), k ≤ l1 ∧ i = .int .i64 k ∧ n = .int .i64 m ∧ 0 ≤ m ∧ m ≤ 1048576) (fun _ i => l1 - (intOf i).toNat)
            case atStart => exact ⟨0, _, Nat.zero_le _, rfl, rfl, by omega, by omega⟩
            case round =>
              clear hm0 hm1 hs hk hlt
              obtain ⟨k, m, hk, rfl, rfl, hm0, hm1⟩ := hrel
              by_cases hlt : k < l1
              · obtain ⟨b, off, rfl, hc⟩ := h1.row (by omega)
                have hck := hc k hlt
                clear hc
                generalize ys.getD k ByteArray.empty = s at *
                go_wp2
                · go_ret
                  exact ⟨⟨_, rfl⟩, rfl⟩
                · go_ret
                  exact ⟨⟨_, rfl⟩, rfl⟩
                · go_round
                  case rel => exact ⟨k + 1, _, by omega, by go_num, rfl, by omega, by omega⟩
                  case measure => simp [intOf]; omega
              · go_wp2
                go_ret
                exact ⟨⟨_, rfl⟩, rfl⟩
          · go_wp2
            go_ret
            exact ⟨⟨_, rfl⟩, rfl⟩
        · go_wp2
          go_ret
          exact ⟨⟨_, rfl⟩, rfl⟩
  · go_wp2
    go_ret
    exact ⟨⟨_, rfl⟩, rfl⟩
set_option maxHeartbeats 400000 in
theorem zz19_any (a0 a1 : Option Addr) (l0 c0 l1 c1 : Nat) (xs ys : List ByteArray) (w : World) (h0 : IsStrs w a0 l0 c0 xs) (h1 : IsStrs w a1 l1 c1 ys) :
    Calls Trym.prog 19 #[.slice a0 l0 c0, .slice a1 l1 c1] w fun e w' => SomeBool e ∧ w = w' := by
  have hbd0 := h0.bound
  have hbd1 := h1.bound
  go_enter Trym.func19, Trym.ntmps19
  by_cases hl0 : l0 ≤ 1048576
  · go_wp2
    go_loop [5, 6] (fun n i => ∃ (k : Nat) (m : Int), k ≤ l0 ∧ i = .int .i64 k ∧ n = .int .i64 m ∧ 0 ≤ m ∧ m ≤ 1048576) (fun _ i => l0 - (intOf i).toNat)
    case atStart => exact ⟨0, l0, Nat.zero_le _, rfl, rfl, by omega, by omega⟩
    case round =>
      obtain ⟨k, m, hk, rfl, rfl, hm0, hm1⟩ := hrel
      by_cases hlt : k < l0
      · obtain ⟨b, off, rfl, hc⟩ := h0.row (by omega)
        have hck := hc k hlt
        clear hc
        generalize xs.getD k ByteArray.empty = s at *
        go_wp2
        · go_ret
          exact ⟨⟨_, rfl⟩, rfl⟩
        · go_ret
          exact ⟨⟨_, rfl⟩, rfl⟩
        · go_round
          case rel => exact ⟨k + 1, _, by omega, by go_num, rfl, by omega, by omega⟩
          case measure => simp [intOf]; omega
      · by_cases hl1 : l1 ≤ 1048576
        · by_cases hs : m + (l1 : Int) ≤ 1048576
          · go_wp2
            go_loop [5, 7] (fun n i => ∃ (k : Nat) (m : Int), k ≤ l1 ∧ i = .int .i64 k ∧ n = .int .i64 m ∧ 0 ≤ m ∧ m ≤ 1048576) (fun _ i => l1 - (intOf i).toNat)
            case atStart => exact ⟨0, _, Nat.zero_le _, rfl, rfl, by omega, by omega⟩
            case round =>
              clear hm0 hm1 hs hk hlt
              obtain ⟨k, m, hk, rfl, rfl, hm0, hm1⟩ := hrel
              by_cases hlt : k < l1
              · obtain ⟨b, off, rfl, hc⟩ := h1.row (by omega)
                have hck := hc k hlt
                clear hc
                generalize ys.getD k ByteArray.empty = s at *
                go_wp2
                · go_ret
                  exact ⟨⟨_, rfl⟩, rfl⟩
                · go_ret
                  exact ⟨⟨_, rfl⟩, rfl⟩
                · go_round
                  case rel => exact ⟨k + 1, _, by omega, by go_num, rfl, by omega, by omega⟩
                  case measure => simp [intOf]; omega
              · go_wp2
                go_ret
                exact ⟨⟨_, rfl⟩, rfl⟩
          · go_wp2
            go_ret
            exact ⟨⟨_, rfl⟩, rfl⟩
        · go_wp2
          go_ret
          exact ⟨⟨_, rfl⟩, rfl⟩
  · go_wp2
    go_ret
    exact ⟨⟨_, rfl⟩, rfl⟩
set_option maxHeartbeats 400000 in
theorem zz23_any (a0 a1 : Option Addr) (l0 c0 l1 c1 : Nat) (xs ys : List ByteArray) (w : World) (h0 : IsStrs w a0 l0 c0 xs) (h1 : IsStrs w a1 l1 c1 ys) :
    Calls Trym.prog 23 #[.slice a0 l0 c0, .slice a1 l1 c1] w fun e w' => SomeBool e ∧ w = w' := by
  have hbd0 := h0.bound
  have hbd1 := h1.bound
  go_enter Trym.func23, Trym.ntmps23
  by_cases hl0 : l0 ≤ 1048576
  · go_wp2
    go_loop [5, 6] (fun n i => ∃ (k : Nat) (m : Int), k ≤ l0 ∧ i = .int .i64 k ∧ n = .int .i64 m ∧ 0 ≤ m ∧ m ≤ 1048576) (fun _ i => l0 - (intOf i).toNat)
    case atStart => exact ⟨0, l0, Nat.zero_le _, rfl, rfl, by omega, by omega⟩
    case round =>
      obtain ⟨k, m, hk, rfl, rfl, hm0, hm1⟩ := hrel
      by_cases hlt : k < l0
      · obtain ⟨b, off, rfl, hc⟩ := h0.row (by omega)
        have hck := hc k hlt
        clear hc
        generalize xs.getD k ByteArray.empty = s at *
        go_wp2
        · go_ret
          exact ⟨⟨_, rfl⟩, rfl⟩
        · go_ret
          exact ⟨⟨_, rfl⟩, rfl⟩
        · go_round
          case rel => exact ⟨k + 1, _, by omega, by go_num, rfl, by omega, by omega⟩
          case measure => simp [intOf]; omega
      · by_cases hl1 : l1 ≤ 1048576
        · by_cases hs : m + (l1 : Int) ≤ 1048576
          · go_wp2
            go_loop [5, 7] (fun n i => ∃ (k : Nat) (m : Int), k ≤ l1 ∧ i = .int .i64 k ∧ n = .int .i64 m ∧ 0 ≤ m ∧ m ≤ 1048576) (fun _ i => l1 - (intOf i).toNat)
            case atStart => exact ⟨0, _, Nat.zero_le _, rfl, rfl, by omega, by omega⟩
            case round =>
              clear hm0 hm1 hs hk hlt
              obtain ⟨k, m, hk, rfl, rfl, hm0, hm1⟩ := hrel
              by_cases hlt : k < l1
              · obtain ⟨b, off, rfl, hc⟩ := h1.row (by omega)
                have hck := hc k hlt
                clear hc
                generalize ys.getD k ByteArray.empty = s at *
                go_wp2
                · go_ret
                  exact ⟨⟨_, rfl⟩, rfl⟩
                · go_ret
                  exact ⟨⟨_, rfl⟩, rfl⟩
                · go_round
                  case rel => exact ⟨k + 1, _, by omega, by go_num, rfl, by omega, by omega⟩
                  case measure => simp [intOf]; omega
              · go_wp2
                go_ret
                exact ⟨⟨_, rfl⟩, rfl⟩
          · go_wp2
            go_ret
            exact ⟨⟨_, rfl⟩, rfl⟩
        · go_wp2
          go_ret
          exact ⟨⟨_, rfl⟩, rfl⟩
  · go_wp2
    go_ret
    exact ⟨⟨_, rfl⟩, rfl⟩
set_option maxHeartbeats 400000 in
theorem zz25_any (a0 a1 : Option Addr) (l0 c0 l1 c1 : Nat) (xs ys : List ByteArray) (w : World) (h0 : IsStrs w a0 l0 c0 xs) (h1 : IsStrs w a1 l1 c1 ys) :
    Calls Trym.prog 25 #[.slice a0 l0 c0, .slice a1 l1 c1] w fun e w' => SomeBool e ∧ w = w' := by
  have hbd0 := h0.bound
  have hbd1 := h1.bound
  go_enter Trym.func25, Trym.ntmps25
  by_cases hl0 : l0 ≤ 1048576
  · go_wp2
    go_loop [5, 6] (fun n i => ∃ (k : Nat) (m : Int), k ≤ l0 ∧ i = .int .i64 k ∧ n = .int .i64 m ∧ 0 ≤ m ∧ m ≤ 1048576) (fun _ i => l0 - (intOf i).toNat)
    case atStart => exact ⟨0, l0, Nat.zero_le _, rfl, rfl, by omega, by omega⟩
    case round =>
      obtain ⟨k, m, hk, rfl, rfl, hm0, hm1⟩ := hrel
      by_cases hlt : k < l0
      · obtain ⟨b, off, rfl, hc⟩ := h0.row (by omega)
        have hck := hc k hlt
        clear hc
        generalize xs.getD k ByteArray.empty = s at *
        go_wp2
        · go_ret
          exact ⟨⟨_, rfl⟩, rfl⟩
        · go_ret
          exact ⟨⟨_, rfl⟩, rfl⟩
        · go_round
          case rel => exact ⟨k + 1, _, by omega, by go_num, rfl, by omega, by omega⟩
          case measure => simp [intOf]; omega
      · by_cases hl1 : l1 ≤ 1048576
        · by_cases hs : m + (l1 : Int) ≤ 1048576
          · go_wp2
            go_loop [5, 7] (fun n i => ∃ (k : Nat) (m : Int), k ≤ l1 ∧ i = .int .i64 k ∧ n = .int .i64 m ∧ 0 ≤ m ∧ m ≤ 1048576) (fun _ i => l1 - (intOf i).toNat)
            case atStart => exact ⟨0, _, Nat.zero_le _, rfl, rfl, by omega, by omega⟩
            case round =>
              clear hm0 hm1 hs hk hlt
              obtain ⟨k, m, hk, rfl, rfl, hm0, hm1⟩ := hrel
              by_cases hlt : k < l1
              · obtain ⟨b, off, rfl, hc⟩ := h1.row (by omega)
                have hck := hc k hlt
                clear hc
                generalize ys.getD k ByteArray.empty = s at *
                go_wp2
                · go_ret
                  exact ⟨⟨_, rfl⟩, rfl⟩
                · go_ret
                  exact ⟨⟨_, rfl⟩, rfl⟩
                · go_round
                  case rel => exact ⟨k + 1, _, by omega, by go_num, rfl, by omega, by omega⟩
                  case measure => simp [intOf]; omega
              · go_wp2
                go_ret
                exact ⟨⟨_, rfl⟩, rfl⟩
          · go_wp2
            go_ret
            exact ⟨⟨_, rfl⟩, rfl⟩
        · go_wp2
          go_ret
          exact ⟨⟨_, rfl⟩, rfl⟩
  · go_wp2
    go_ret
    exact ⟨⟨_, rfl⟩, rfl⟩

end Go.Proofs.Qxb6602186aMods
