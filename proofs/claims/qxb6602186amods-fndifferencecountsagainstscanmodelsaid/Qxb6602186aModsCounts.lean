/-
  THE LAW FnDifferenceCountsAgainstScanModel: her walk out of the contracts, and the row. Own text; the row's step after the shell that the kit's tool writes.
-/
import Derived.Test.Qxb6602186aModsDif
import Derived.Test.Qxb6602186aModsScan
import Derived.Test.Qxb6602186aModsTok
import Derived.Test.Qxb6602186aModsZz
import Derived.Test.Qxb6602186aModsFrame
namespace Go.Proofs.Qxb6602186aMods
open Go.ChangeShapes Go.WideShapes Go.ChangeAt Go.RowKit

set_option maxHeartbeats 1000000 in
theorem walk3 (a0 a1 : Option Addr) (l0 c0 l1 c1 : Nat) (xs ys : List ByteArray) (w : World) (h0 : IsStrs w a0 l0 c0 xs) (h1 : IsStrs w a1 l1 c1 ys) :
    Calls Trym.prog 3 #[.slice a0 l0 c0, .slice a1 l1 c1] w fun e w' => e = .returned (.bool true) ∧ Below w.heap.size w w' := by
  have hbd0 := h0.bound
  have hbd1 := h1.bound
  go_enter Trym.func3, Trym.ntmps3
  go_wp2_with fail
  refine (zz10_any _ _ _ _ _ _ _ _ _ h0 h1).mono ?_
  rintro e w' ⟨⟨r, rfl⟩, rfl⟩
  cases r with
  | false =>
    go_wp2
    go_ret
    exact ⟨rfl, Below.refl _ _⟩
  | true =>
    go_wp2_with fail
    refine (tok_any _ _ _ _ _ h0).mono ?_
    rintro e w' ⟨n0, hn0, hn0', rfl, rfl⟩
    go_wp2_with fail
    refine (tok_any _ _ _ _ _ h1).mono ?_
    rintro e w' ⟨n1, hn1, hn1', rfl, rfl⟩
    by_cases hg : n0 + n1 ≤ 1048576 ∧ l0 ≤ 4096 ∧ l1 ≤ 4096
    · obtain ⟨hs, hl0, hl1⟩ := hg
      go_wp2_with fail
      refine (clone_any _ _ _ _ _ h0 (by omega)).mono ?_
      rintro e w1 ⟨a0', c0', rfl, k0, b0⟩
      have k1 := h1.below b0
      go_wp2_with fail
      refine (clone_any _ _ _ _ _ k1 (by omega)).mono ?_
      rintro e w2 ⟨a1', c1', rfl, m1, b1⟩
      have m0 := k0.below b1
      have bb : Below w.heap.size w w2 := b0.trans (b1.mono b0.size)
      clear k0 k1 b0 b1 h0 h1 hn0 hn1 hn0' hn1' hs
      go_wp2_with fail
      go_loopw [5, 6] (fun n i wr => ∃ k nq : Nat, k ≤ l1 ∧ i = .int .i64 k ∧ n = .int .i64 (Dif.added (bs xs) [] ((bs ys).take k)) ∧ wr = w2.drewN nq) (fun _ i _ => l1 - (intOf i).toNat)
      case atStart => exact ⟨0, 0, Nat.zero_le _, rfl, rfl, rfl⟩
      case round =>
        obtain ⟨k, nq, hk, rfl, rfl, rfl⟩ := hrel
        have hal := Dif.added_le (bs xs) ((bs ys).take k) []
        rw [List.length_take] at hal
        have hle : Dif.added (bs xs) [] ((bs ys).take k) ≤ 65536 := by omega
        clear hal
        by_cases hlt : k < l1
        · obtain ⟨b, off, rfl, hc⟩ := m1.row (by omega)
          have hsucc := bs_take_succ ys k (by rw [m1.1]; exact hlt)
          obtain ⟨t, ht⟩ : ∃ t, t = ys.getD k ByteArray.empty := ⟨_, rfl⟩
          have hck := hc k hlt
          have HT : Hid (t = ys.getD k ByteArray.empty) := ht
          rw [← ht] at hck hsucc
          have HS : Hid ((bs ys).take (k + 1) = (bs ys).take k ++ [t.toList]) := hsucc
          clear hc ht hsucc
          go_wp2_with fail
          refine (has_any _ _ _ _ t _ (m0.drewN nq)).mono ?_
          rintro e w' ⟨rfl, rfl⟩
          by_cases hin : t.toList ∈ bs xs
          · have hd : decide (t.toList ∈ bs xs) = true := by simpa using hin
            rw [hd]
            go_wp2_with fail
            refine (rep_any _ _ _ _ k _ (m1.drewN nq) hlt).mono ?_
            rintro e w' ⟨rfl, m, rfl⟩
            rw [← HT.out]
            by_cases hm : t.toList ∈ (bs ys).take k
            · have hd2 : decide (t.toList ∈ (bs ys).take k) = true := by simpa using hm
              rw [hd2]
              go_wp2
              go_roundw
              case rel => exact ⟨k + 1, _, by omega, by go_num, by rw [HS.out, Dif.added_snoc, List.nil_append, if_neg (fun h => h.2 hm)]; go_num, rfl⟩
              case measure => simp [intOf]; omega
            · have hd2 : decide (t.toList ∈ (bs ys).take k) = false := by simpa using hm
              rw [hd2]
              go_wp2
              go_roundw
              case rel => exact ⟨k + 1, _, by omega, by go_num, by rw [HS.out, Dif.added_snoc, List.nil_append, if_pos ⟨hin, hm⟩, Nat.add_zero], rfl⟩
              case measure => simp [intOf]; omega
          · have hd : decide (t.toList ∈ bs xs) = false := by simpa using hin
            rw [hd]
            go_wp2
            go_roundw
            case rel => exact ⟨k + 1, _, by omega, by go_num, by rw [HS.out, Dif.added_snoc, List.nil_append, if_neg (fun h => hin h.1)]; go_num, rfl⟩
            case measure => simp [intOf]; omega
        · have he : k = l1 := by omega
          subst he
          rw [List.take_of_length_le (by rw [bs_length, m1.1]; exact Nat.le_refl _)] at hle
          rw [List.take_of_length_le (by rw [bs_length, m1.1]; exact Nat.le_refl _)]
          clear hlt hk
          go_wp2_with fail
          go_loopw [7, 8] (fun n i wr => ∃ j mq : Nat, j ≤ l0 ∧ i = .int .i64 j ∧ n = .int .i64 (Dif.removed (bs ys) [] ((bs xs).take j)) ∧ wr = w2.drewN mq) (fun _ i _ => l0 - (intOf i).toNat)
          case atStart => exact ⟨0, nq, Nat.zero_le _, rfl, rfl, rfl⟩
          case round =>
            obtain ⟨j, mq, hj, rfl, rfl, rfl⟩ := hrel
            have hrl := Dif.removed_le (bs ys) ((bs xs).take j) []
            rw [List.length_take] at hrl
            have hrle : Dif.removed (bs ys) [] ((bs xs).take j) ≤ 65536 := by omega
            clear hrl
            by_cases hlt : j < l0
            · obtain ⟨b, off, rfl, hc⟩ := m0.row (by omega)
              have hsucc := bs_take_succ xs j (by rw [m0.1]; exact hlt)
              obtain ⟨t, ht⟩ : ∃ t, t = xs.getD j ByteArray.empty := ⟨_, rfl⟩
              have hck := hc j hlt
              have HT : Hid (t = xs.getD j ByteArray.empty) := ht
              rw [← ht] at hck hsucc
              have HS : Hid ((bs xs).take (j + 1) = (bs xs).take j ++ [t.toList]) := hsucc
              clear hc ht hsucc
              go_wp2_with fail
              refine (rep_any _ _ _ _ j _ (m0.drewN mq) hlt).mono ?_
              rintro e w' ⟨rfl, m, rfl⟩
              rw [← HT.out]
              by_cases hm : t.toList ∈ (bs xs).take j
              · have hd2 : decide (t.toList ∈ (bs xs).take j) = true := by simpa using hm
                rw [hd2]
                go_wp2
                go_roundw
                case rel => exact ⟨j + 1, _, by omega, by go_num, by rw [HS.out, Dif.removed_snoc, List.nil_append, if_neg (fun h => h.1 hm), Nat.add_zero], rfl⟩
                case measure => simp [intOf]; omega
              · have hd2 : decide (t.toList ∈ (bs xs).take j) = false := by simpa using hm
                rw [hd2]
                go_wp2_with fail
                refine (has_any _ _ _ _ t _ (m1.drewN (mq + m))).mono ?_
                rintro e w' ⟨rfl, rfl⟩
                by_cases hin : t.toList ∈ bs ys
                · have hd : decide (t.toList ∈ bs ys) = true := by simpa using hin
                  rw [hd]
                  go_wp2
                  go_roundw
                  case rel => exact ⟨j + 1, _, by omega, by go_num, by rw [HS.out, Dif.removed_snoc, List.nil_append, if_neg (fun h => h.2 hin), Nat.add_zero], rfl⟩
                  case measure => simp [intOf]; omega
                · have hd : decide (t.toList ∈ bs ys) = false := by simpa using hin
                  rw [hd]
                  go_wp2
                  go_roundw
                  case rel => exact ⟨j + 1, _, by omega, by go_num, by rw [HS.out, Dif.removed_snoc, List.nil_append, if_pos ⟨hm, hin⟩]; go_num, rfl⟩
                  case measure => simp [intOf]; omega
            · have he : j = l0 := by omega
              subst he
              rw [List.take_of_length_le (by rw [bs_length, m0.1]; exact Nat.le_refl _)]
              rw [Dif.removed_eq]
              clear hlt hj hrle
              go_wp2_with fail
              refine (zzdif_any _ _ _ _ _ _ _ _ _ (m0.drewN mq) (m1.drewN mq) (by omega) (by omega)).mono ?_
              rintro e w3 ⟨rfl, b3⟩
              go_wp2
              go_ret
              exact ⟨rfl, (below_drewN bb mq).trans (b3.mono bb.size)⟩
    · rcases (show 1048576 < n0 + n1 ∨ (n0 + n1 ≤ 1048576 ∧ 4096 < l0) ∨ (n0 + n1 ≤ 1048576 ∧ l0 ≤ 4096 ∧ 4096 < l1) from by omega) with g | ⟨g0, g⟩ | ⟨g0, g1, g⟩
      all_goals
        clear hg
        go_wp2
        go_ret
        exact ⟨rfl, Below.refl _ _⟩

set_option maxRecDepth 100000 in
theorem lifted3 (os : Os) (started : os.Started) (H : Type) (enc : TypeId × Value → H) :
    ReturnsInHanded {} Trym.checked os 3 .any (Rows.fnDifferenceCountsAgainstScanModelSpec.pre6 enc Trym.prog Trym.f3 Rows.fnDifferenceCountsAgainstScanModelRow.domain false) (Rows.fnDifferenceCountsAgainstScanModelSpec.post enc Trym.prog Trym.f3 false true false false) := by
  refine returnsInHanded_of_change (C := Trym.checked) Trym.own started (by kernel_rfl) Trym.func3
    (ChangeSpec.witness6 (enc := enc) (C := Trym.checked) false ⟨#[], #[.slice none 0 0, .slice none 0 0], []⟩ 8 (by kernel_rfl) (by kernel_rfl) (by kernel_rfl) (by kernel_rfl)) ?_
  intro W base args ds gs before hval0 hW hcnd _
  have hval : ∀ (j : Nat) t v, Trym.f3.params[j]? = some t → args[j]? = some v → Value.okWide Trym.prog W .any base t v := hval0
  have hW' := hW
  obtain ⟨p, q, hA0, hV, rfl, hfz, hnd⟩ := hW
  have hA : DataW.TrodAll enc Trym.prog W 0 (fun _ => true) true Trym.f3.params.toList args.toList ds p := hA0
  rw [Trym.params3] at hA hval
  obtain ⟨v0, vs0, d0, ds0, p0, q0, hargs, rfl, rfl, h0, r0⟩ := trodAll_cons hA
  obtain ⟨v1, vs1, d1, ds1, p1, q1, rfl, rfl, rfl, h1, r1⟩ := trodAll_cons r0
  obtain ⟨rfl, rfl, rfl⟩ := trodAll_nil r1
  obtain rfl : args = #[v0, v1] := by cases args; simp_all
  obtain ⟨rfl, rfl⟩ := trodVars_none hV
  obtain ⟨a0, len0, cap0, rfl⟩ := okWide_slice Trym.underlying22 (hval 0 22 v0 rfl rfl)
  have lt0 : ∀ x ∈ p0, x.block < W.heap.size := by obtain ⟨m, hm⟩ := h0; exact DataW.trod_lt m _ _ _ hm
  obtain ⟨z0, w0⟩ := open_isStrs h0
  obtain ⟨a1, len1, cap1, rfl⟩ := okWide_slice Trym.underlying22 (hval 1 22 v1 rfl rfl)
  have lt1 : ∀ x ∈ p1, x.block < W.heap.size := by obtain ⟨m, hm⟩ := h1; exact DataW.trod_lt m _ _ _ hm
  obtain ⟨z1, w1⟩ := open_isStrs h1
  clear hA0 hval0
  refine (walk3 a0 a1 len0 cap0 len1 cap1 z0 z1 W w0 w1).mono fun e W' ⟨he, bel⟩ => ?_
  subst he
  exact ⟨_, rfl, _, _, _, [], _, [], hW', trodAll_mk1 (shut_bool Trym.underlying4 _), trodAll_mk2 (Below.trod Trym.laidOut (by kernel_rfl) (of_decide_eq_true (by kernel_rfl)) h0 bel lt0) (Below.trod Trym.laidOut (by kernel_rfl) (of_decide_eq_true (by kernel_rfl)) h1 bel lt1), rfl, bel.frame _, fun h => by cases h⟩

theorem over3 : Rows.fnDifferenceCountsAgainstScanModelRow.holds Trym.pinned (OpenSpec.ofChange Rows.fnDifferenceCountsAgainstScanModelSpec) :=
  OpenClaim.holds_of_wide 3 Trym.f3 rfl rfl rfl rfl rfl rfl rfl ⟨rfl, rfl, rfl, rfl, rfl⟩ rfl rfl rfl rfl rfl (by kernel_rfl) Trym.func3 (by kernel_rfl)
    (of_decide_eq_true (by kernel_rfl)) (by unfold Func.isWrapper; first | (rw [if_pos (by decide +kernel)]; kernel_rfl) | (rw [if_neg (by decide +kernel)]; exact ⟨rfl, rfl⟩))
    (fun os started H enc _ => lifted3 os started H enc)

/-- THE STATEMENT. -/
theorem fnDifferenceCountsAgainstScanModel_proved : Rows.FnDifferenceCountsAgainstScanModelSaid := over3

end Go.Proofs.Qxb6602186aMods
