/-
  THE LAW FnFiltersOverlapIffCanonicalWitnessMatchesBoth: her walk out of the contracts, and the row. Own text; the row's step after the shell that the kit's tool writes.
-/
import Derived.Test.Qxb6602186aModsWit
import Derived.Test.Qxb6602186aModsZz
import Derived.Test.Qxb6602186aModsFrame
namespace Go.Proofs.Qxb6602186aMods
open Go.ChangeShapes Go.WideShapes Go.ChangeAt Go.RowKit

set_option maxHeartbeats 1000000 in
theorem walk7 (a0 a1 : Option Addr) (l0 c0 l1 c1 : Nat) (xs ys : List ByteArray) (w : World) (h0 : IsStrs w a0 l0 c0 xs) (h1 : IsStrs w a1 l1 c1 ys) :
    Calls Trym.prog 7 #[.slice a0 l0 c0, .slice a1 l1 c1] w fun e w' => e = .returned (.bool true) ∧ Below w.heap.size w w' := by
  have hbd0 := h0.bound
  have hbd1 := h1.bound
  go_enter Trym.func7, Trym.ntmps7
  go_wp2_with fail
  refine (zz23_any _ _ _ _ _ _ _ _ _ h0 h1).mono ?_
  rintro e w' ⟨⟨r, rfl⟩, rfl⟩
  cases r with
  | false =>
    go_wp2
    go_ret
    exact ⟨rfl, Below.refl _ _⟩
  | true =>
    go_wp2_with fail
    refine (tok_any _ _ _ _ _ h0).mono ?_
    rintro e w' ⟨n0, hn0, hn0', rfl, rfl⟩
    go_wp2_with fail
    refine (tok_any _ _ _ _ _ h1).mono ?_
    rintro e w' ⟨n1, hn1, hn1', rfl, rfl⟩
    by_cases hg : n0 + n1 ≤ 1048576 ∧ l0 ≤ 65536 ∧ l1 ≤ 65536
    · obtain ⟨hs, hl0, hl1⟩ := hg
      go_wp2_with fail
      refine (clone_any _ _ _ _ _ h0 hl0).mono ?_
      rintro e w1 ⟨a0', c0', rfl, k0, b0⟩
      have k1 := h1.below b0
      go_wp2_with fail
      refine (clone_any _ _ _ _ _ k1 hl1).mono ?_
      rintro e w2 ⟨a1', c1', rfl, m1, b1⟩
      have m0 := k0.below b1
      have bb : Below w.heap.size w w2 := b0.trans (b1.mono b0.size)
      clear k0 k1 b0 b1 h0 h1 hn0 hn1 hn0' hn1'
      go_wp2_with fail
      refine (wit_any _ _ _ _ _ _ _ _ _ m0 m1 hl0 hl1).mono ?_
      rintro e w3 ⟨v, zs, rfl, hB, hz, hzl⟩
      obtain ⟨a2, c2, rfl, q2⟩ := hB.strs
      have q0 := m0.below hB.2.1
      have q1 := m1.below hB.2.1
      have bc : Below w.heap.size w w3 := bb.trans (hB.2.1.mono bb.size)
      have HW : Hid (overlap (bs xs) (bs ys) = (smatch (bs xs) (bs zs) && smatch (bs ys) (bs zs))) := by
        show _ = _
        rw [hz]
        exact overlap_wit _ _
      clear hB hz m0 m1 bb
      go_wp2_with fail
      refine (zzsm_any _ _ _ _ _ _ _ _ _ q0 q2).mono ?_
      rintro e w' ⟨rfl, rfl⟩
      cases hm0 : smatch (bs xs) (bs zs) with
      | false =>
        have HO : Hid (overlap (bs xs) (bs ys) = false) := by show _ = _; rw [HW.out, hm0]; rfl
        clear hm0 HW
        go_wp2_with fail
        refine (zzov_any _ _ _ _ _ _ _ _ _ q0 q1).mono ?_
        rintro e w4 ⟨rfl, q3, rfl⟩
        rw [HO.out]
        go_wp2
        go_ret
        exact ⟨rfl, below_drewN bc _⟩
      | true =>
        have HO : Hid (overlap (bs xs) (bs ys) = smatch (bs ys) (bs zs)) := by show _ = _; rw [HW.out, hm0]; rfl
        clear hm0 HW
        go_wp2_with fail
        refine (zzsm_any _ _ _ _ _ _ _ _ _ q1 q2).mono ?_
        rintro e w' ⟨rfl, rfl⟩
        rw [← HO.out]
        go_wp2_with fail
        refine (zzov_any _ _ _ _ _ _ _ _ _ q0 q1).mono ?_
        rintro e w4 ⟨rfl, q3, rfl⟩
        go_wp2
        go_ret
        exact ⟨rfl, below_drewN bc _⟩
    · rcases (show 1048576 < n0 + n1 ∨ (n0 + n1 ≤ 1048576 ∧ 65536 < l0) ∨ (n0 + n1 ≤ 1048576 ∧ l0 ≤ 65536 ∧ 65536 < l1) from by omega) with g | ⟨g0, g⟩ | ⟨g0, g1, g⟩
      all_goals
        clear hg
        go_wp2
        go_ret
        exact ⟨rfl, Below.refl _ _⟩

set_option maxRecDepth 100000 in
theorem lifted7 (os : Os) (started : os.Started) (H : Type) (enc : TypeId × Value → H) :
    ReturnsInHanded {} Trym.checked os 7 .any (Rows.fnFiltersOverlapIffCanonicalWitnessMatchesBothSpec.pre6 enc Trym.prog Trym.f7 Rows.fnFiltersOverlapIffCanonicalWitnessMatchesBothRow.domain false) (Rows.fnFiltersOverlapIffCanonicalWitnessMatchesBothSpec.post enc Trym.prog Trym.f7 false true false false) := by
  refine returnsInHanded_of_change (C := Trym.checked) Trym.own started (by kernel_rfl) Trym.func7
    (ChangeSpec.witness6 (enc := enc) (C := Trym.checked) false ⟨#[], #[.slice none 0 0, .slice none 0 0], []⟩ 8 (by kernel_rfl) (by kernel_rfl) (by kernel_rfl) (by kernel_rfl)) ?_
  intro W base args ds gs before hval0 hW hcnd _
  have hval : ∀ (j : Nat) t v, Trym.f7.params[j]? = some t → args[j]? = some v → Value.okWide Trym.prog W .any base t v := hval0
  have hW' := hW
  obtain ⟨p, q, hA0, hV, rfl, hfz, hnd⟩ := hW
  have hA : DataW.TrodAll enc Trym.prog W 0 (fun _ => true) true Trym.f7.params.toList args.toList ds p := hA0
  rw [Trym.params7] at hA hval
  obtain ⟨v0, vs0, d0, ds0, p0, q0, hargs, rfl, rfl, h0, r0⟩ := trodAll_cons hA
  obtain ⟨v1, vs1, d1, ds1, p1, q1, rfl, rfl, rfl, h1, r1⟩ := trodAll_cons r0
  obtain ⟨rfl, rfl, rfl⟩ := trodAll_nil r1
  obtain rfl : args = #[v0, v1] := by cases args; simp_all
  obtain ⟨rfl, rfl⟩ := trodVars_none hV
  obtain ⟨a0, len0, cap0, rfl⟩ := okWide_slice Trym.underlying22 (hval 0 22 v0 rfl rfl)
  have lt0 : ∀ x ∈ p0, x.block < W.heap.size := by obtain ⟨m, hm⟩ := h0; exact DataW.trod_lt m _ _ _ hm
  obtain ⟨z0, w0⟩ := open_isStrs h0
  obtain ⟨a1, len1, cap1, rfl⟩ := okWide_slice Trym.underlying22 (hval 1 22 v1 rfl rfl)
  have lt1 : ∀ x ∈ p1, x.block < W.heap.size := by obtain ⟨m, hm⟩ := h1; exact DataW.trod_lt m _ _ _ hm
  obtain ⟨z1, w1⟩ := open_isStrs h1
  clear hA0 hval0
  refine (walk7 a0 a1 len0 cap0 len1 cap1 z0 z1 W w0 w1).mono fun e W' ⟨he, bel⟩ => ?_
  subst he
  exact ⟨_, rfl, _, _, _, [], _, [], hW', trodAll_mk1 (shut_bool Trym.underlying4 _), trodAll_mk2 (Below.trod Trym.laidOut (by kernel_rfl) (of_decide_eq_true (by kernel_rfl)) h0 bel lt0) (Below.trod Trym.laidOut (by kernel_rfl) (of_decide_eq_true (by kernel_rfl)) h1 bel lt1), rfl, bel.frame _, fun h => by cases h⟩

theorem over7 : Rows.fnFiltersOverlapIffCanonicalWitnessMatchesBothRow.holds Trym.pinned (OpenSpec.ofChange Rows.fnFiltersOverlapIffCanonicalWitnessMatchesBothSpec) :=
  OpenClaim.holds_of_wide 7 Trym.f7 rfl rfl rfl rfl rfl rfl rfl ⟨rfl, rfl, rfl, rfl, rfl⟩ rfl rfl rfl rfl rfl (by kernel_rfl) Trym.func7 (by kernel_rfl)
    (of_decide_eq_true (by kernel_rfl)) (by unfold Func.isWrapper; first | (rw [if_pos (by decide +kernel)]; kernel_rfl) | (rw [if_neg (by decide +kernel)]; exact ⟨rfl, rfl⟩))
    (fun os started H enc _ => lifted7 os started H enc)

/-- THE STATEMENT. -/
theorem fnFiltersOverlapIffCanonicalWitnessMatchesBoth_proved : Rows.FnFiltersOverlapIffCanonicalWitnessMatchesBothSaid := over7

end Go.Proofs.Qxb6602186aMods
