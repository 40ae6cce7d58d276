/-
  THE LAW FnDifferenceBalancesLengths: her walk out of the contracts, and the row. Own text; the row's step after the shell that the kit's tool writes.
-/
import Derived.Test.Qxb6602186aModsDif
import Derived.Test.Qxb6602186aModsScan
import Derived.Test.Qxb6602186aModsTok
import Derived.Test.Qxb6602186aModsZz
import Derived.Test.Qxb6602186aModsFrame
namespace Go.Proofs.Qxb6602186aMods
open Go.ChangeShapes Go.WideShapes Go.ChangeAt Go.RowKit

theorem bal_eq {A R l0 l1 : Nat} (h : A + l0 = l1 + R) : ((A : Int) - (R : Int) == (l1 : Int) - (l0 : Int)) = true := by
  rw [beq_iff_eq]
  omega

set_option maxHeartbeats 1000000 in
theorem walk5 (a0 a1 : Option Addr) (l0 c0 l1 c1 : Nat) (xs ys : List ByteArray) (w : World) (h0 : IsStrs w a0 l0 c0 xs) (h1 : IsStrs w a1 l1 c1 ys) :
    Calls Trym.prog 5 #[.slice a0 l0 c0, .slice a1 l1 c1] w fun e w' => e = .returned (.bool true) ∧ Below w.heap.size w w' := by
  have hbd0 := h0.bound
  have hbd1 := h1.bound
  go_enter Trym.func5, Trym.ntmps5
  go_wp2_with fail
  refine (zz18_any _ _ _ _ _ _ _ _ _ h0 h1).mono ?_
  rintro e w' ⟨⟨r, rfl⟩, rfl⟩
  cases r with
  | false =>
    go_wp2
    go_ret
    exact ⟨rfl, Below.refl _ _⟩
  | true =>
    go_wp2_with fail
    refine (tok_any _ _ _ _ _ h0).mono ?_
    rintro e w' ⟨n0, hn0, hn0', rfl, rfl⟩
    go_wp2_with fail
    refine (tok_any _ _ _ _ _ h1).mono ?_
    rintro e w' ⟨n1, hn1, hn1', rfl, rfl⟩
    by_cases hg : n0 + n1 ≤ 1048576 ∧ l0 ≤ 4096 ∧ l1 ≤ 4096
    · obtain ⟨hs, hl0, hl1⟩ := hg
      go_wp2_with fail
      refine (dist_any _ _ _ _ _ h0).mono ?_
      rintro e w' ⟨⟨r, rfl, hr⟩, q, rfl⟩
      cases r with
      | false =>
        clear hr
        go_wp2
        go_ret
        exact ⟨rfl, below_drewN (Below.refl _ _) _⟩
      | true =>
        have HD : Hid ((bs xs).Nodup) := hr rfl
        clear hr
        go_wp2_with fail
        refine (dist_any _ _ _ _ _ (h1.drewN q)).mono ?_
        rintro e w' ⟨⟨r, rfl, hr⟩, q2, rfl⟩
        clear hr
        cases r with
        | false =>
          go_wp2
          go_ret
          exact ⟨rfl, below_drewN (Below.refl _ _) _⟩
        | true =>
          go_wp2_with fail
          refine (clone_any _ _ _ _ _ (h0.drewN (q + q2)) (by omega)).mono ?_
          rintro e w1 ⟨a0', c0', rfl, k0, b0⟩
          have k1 := (h1.drewN (q + q2)).below b0
          go_wp2_with fail
          refine (clone_any _ _ _ _ _ k1 (by omega)).mono ?_
          rintro e w2 ⟨a1', c1', rfl, m1, b1⟩
          have m0 := k0.below b1
          have bb : Below w.heap.size w w2 := (below_drewN (Below.refl _ _) (q + q2)).trans (b0.trans (b1.mono b0.size))
          clear k0 k1 b0 b1 h0 h1 hn0 hn1 hn0' hn1' hs
          go_wp2_with fail
          refine (zzdif_any _ _ _ _ _ _ _ _ _ m0 m1 (by omega) (by omega)).mono ?_
          rintro e w3 ⟨rfl, b3⟩
          have hbal := Dif.balance (bs xs) (bs ys)
          rw [Dif.ddup_of_nodup _ HD.out, bs_length, bs_length, m0.1, m1.1] at hbal
          have hle := Dif.added_le (bs xs) (bs ys) []
          rw [bs_length, m1.1] at hle
          have hle2 : (Dif.left (bs xs) (bs ys)).length ≤ l0 := by omega
          generalize Dif.added (bs xs) [] (bs ys) = A at *
          generalize (Dif.left (bs xs) (bs ys)).length = R at *
          have HB : Hid (A + l0 = l1 + R) := hbal
          clear hbal
          go_wp2
          go_ret
          exact ⟨ret_bool (bal_eq HB.out), bb.trans (b3.mono bb.size)⟩
    · rcases (show 1048576 < n0 + n1 ∨ (n0 + n1 ≤ 1048576 ∧ 4096 < l0) ∨ (n0 + n1 ≤ 1048576 ∧ l0 ≤ 4096 ∧ 4096 < l1) from by omega) with g | ⟨g0, g⟩ | ⟨g0, g1, g⟩
      all_goals
        clear hg
        go_wp2
        go_ret
        exact ⟨rfl, Below.refl _ _⟩

set_option maxRecDepth 100000 in
theorem lifted5 (os : Os) (started : os.Started) (H : Type) (enc : TypeId × Value → H) :
    ReturnsInHanded {} Trym.checked os 5 .any (Rows.fnDifferenceBalancesLengthsSpec.pre6 enc Trym.prog Trym.f5 Rows.fnDifferenceBalancesLengthsRow.domain false) (Rows.fnDifferenceBalancesLengthsSpec.post enc Trym.prog Trym.f5 false true false false) := by
  refine returnsInHanded_of_change (C := Trym.checked) Trym.own started (by kernel_rfl) Trym.func5
    (ChangeSpec.witness6 (enc := enc) (C := Trym.checked) false ⟨#[], #[.slice none 0 0, .slice none 0 0], []⟩ 8 (by kernel_rfl) (by kernel_rfl) (by kernel_rfl) (by kernel_rfl)) ?_
  intro W base args ds gs before hval0 hW hcnd _
  have hval : ∀ (j : Nat) t v, Trym.f5.params[j]? = some t → args[j]? = some v → Value.okWide Trym.prog W .any base t v := hval0
  have hW' := hW
  obtain ⟨p, q, hA0, hV, rfl, hfz, hnd⟩ := hW
  have hA : DataW.TrodAll enc Trym.prog W 0 (fun _ => true) true Trym.f5.params.toList args.toList ds p := hA0
  rw [Trym.params5] at hA hval
  obtain ⟨v0, vs0, d0, ds0, p0, q0, hargs, rfl, rfl, h0, r0⟩ := trodAll_cons hA
  obtain ⟨v1, vs1, d1, ds1, p1, q1, rfl, rfl, rfl, h1, r1⟩ := trodAll_cons r0
  obtain ⟨rfl, rfl, rfl⟩ := trodAll_nil r1
  obtain rfl : args = #[v0, v1] := by cases args; simp_all
  obtain ⟨rfl, rfl⟩ := trodVars_none hV
  obtain ⟨a0, len0, cap0, rfl⟩ := okWide_slice Trym.underlying22 (hval 0 22 v0 rfl rfl)
  have lt0 : ∀ x ∈ p0, x.block < W.heap.size := by obtain ⟨m, hm⟩ := h0; exact DataW.trod_lt m _ _ _ hm
  obtain ⟨z0, w0⟩ := open_isStrs h0
  obtain ⟨a1, len1, cap1, rfl⟩ := okWide_slice Trym.underlying22 (hval 1 22 v1 rfl rfl)
  have lt1 : ∀ x ∈ p1, x.block < W.heap.size := by obtain ⟨m, hm⟩ := h1; exact DataW.trod_lt m _ _ _ hm
  obtain ⟨z1, w1⟩ := open_isStrs h1
  clear hA0 hval0
  refine (walk5 a0 a1 len0 cap0 len1 cap1 z0 z1 W w0 w1).mono fun e W' ⟨he, bel⟩ => ?_
  subst he
  exact ⟨_, rfl, _, _, _, [], _, [], hW', trodAll_mk1 (shut_bool Trym.underlying4 _), trodAll_mk2 (Below.trod Trym.laidOut (by kernel_rfl) (of_decide_eq_true (by kernel_rfl)) h0 bel lt0) (Below.trod Trym.laidOut (by kernel_rfl) (of_decide_eq_true (by kernel_rfl)) h1 bel lt1), rfl, bel.frame _, fun h => by cases h⟩

theorem over5 : Rows.fnDifferenceBalancesLengthsRow.holds Trym.pinned (OpenSpec.ofChange Rows.fnDifferenceBalancesLengthsSpec) :=
  OpenClaim.holds_of_wide 5 Trym.f5 rfl rfl rfl rfl rfl rfl rfl ⟨rfl, rfl, rfl, rfl, rfl⟩ rfl rfl rfl rfl rfl (by kernel_rfl) Trym.func5 (by kernel_rfl)
    (of_decide_eq_true (by kernel_rfl)) (by unfold Func.isWrapper; first | (rw [if_pos (by decide +kernel)]; kernel_rfl) | (rw [if_neg (by decide +kernel)]; exact ⟨rfl, rfl⟩))
    (fun os started H enc _ => lifted5 os started H enc)

/-- THE STATEMENT. -/
theorem fnDifferenceBalancesLengths_proved : Rows.FnDifferenceBalancesLengthsSaid := over5

end Go.Proofs.Qxb6602186aMods
