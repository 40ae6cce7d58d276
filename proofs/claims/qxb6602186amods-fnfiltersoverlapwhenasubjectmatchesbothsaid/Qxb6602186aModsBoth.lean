/-
  THE LAW FnFiltersOverlapWhenASubjectMatchesBoth: her walk out of the contracts, and the row. Own text; the row's step after the shell that the kit's tool writes.
-/
import Derived.Test.Qxb6602186aModsOv
import Derived.Test.Qxb6602186aModsSm
import Derived.Test.Qxb6602186aModsTok
import Derived.Test.Qxb6602186aModsZzz
import Derived.Test.Qxb6602186aModsFrame
namespace Go.Proofs.Qxb6602186aMods
open Go.ChangeShapes Go.WideShapes Go.ChangeAt Go.RowKit

/-- A subject that matches both filters: they overlap. -/
theorem overlap_of_both : ∀ (p q s : List (List UInt8)), smatch p s = true → smatch q s = true → overlap p q = true
  | [], [], _, _, _ => rfl
  | [], t :: q, [], _, h => by simp [smatch] at h
  | [], _ :: _, _ :: _, h, _ => by simp [smatch] at h
  | _ :: _, [], [], h, _ => by simp [smatch] at h
  | _ :: _, [], _ :: _, _, h => by simp [smatch] at h
  | _ :: _, _ :: _, [], h, _ => by simp [smatch] at h
  | a :: p, b :: q, x :: s, h0, h1 => by
    rw [smatch] at h0 h1
    rw [overlap]
    by_cases ga : a = [62]
    · rw [step_gt0 ga]
    by_cases gb : b = [62]
    · rw [step_gt1 gb]
    rw [if_neg ga] at h0
    rw [if_neg gb] at h1
    by_cases ca : a = [42] ∨ a = x
    · rw [if_pos ca] at h0
      by_cases cb : b = [42] ∨ b = x
      · rw [if_pos cb] at h1
        have hgo : a = [42] ∨ b = [42] ∨ a = b := by
          rcases ca with h | h
          · exact .inl h
          · rcases cb with h' | h'
            · exact .inr (.inl h')
            · exact .inr (.inr (h.trans h'.symm))
        rw [step_go ga gb hgo]
        exact overlap_of_both p q s h0 h1
      · rw [if_neg cb] at h1
        cases h1
    · rw [if_neg ca] at h0
      cases h0

set_option maxHeartbeats 1000000 in
theorem walk9 (a0 a1 a2 : Option Addr) (l0 c0 l1 c1 l2 c2 : Nat) (xs ys zs : List ByteArray) (w : World) (h0 : IsStrs w a0 l0 c0 xs) (h1 : IsStrs w a1 l1 c1 ys) (h2 : IsStrs w a2 l2 c2 zs) :
    Calls Trym.prog 9 #[.slice a0 l0 c0, .slice a1 l1 c1, .slice a2 l2 c2] w fun e w' => e = .returned (.bool true) ∧ Below w.heap.size w w' := by
  have hbd0 := h0.bound
  have hbd1 := h1.bound
  have hbd2 := h2.bound
  go_enter Trym.func9, Trym.ntmps9
  go_wp2_with fail
  refine (zz26_any _ _ _ _ _ _ _ _ _ _ _ _ _ h0 h1 h2).mono ?_
  rintro e w' ⟨⟨r, rfl⟩, rfl⟩
  cases r with
  | false =>
    go_wp2
    go_ret
    exact ⟨rfl, Below.refl _ _⟩
  | true =>
    go_wp2_with fail
    refine (tok_any _ _ _ _ _ h0).mono ?_
    rintro e w' ⟨n0, hn0, hn0', rfl, rfl⟩
    go_wp2_with fail
    refine (tok_any _ _ _ _ _ h1).mono ?_
    rintro e w' ⟨n1, hn1, hn1', rfl, rfl⟩
    go_wp2_with fail
    refine (tok_any _ _ _ _ _ h2).mono ?_
    rintro e w' ⟨n2, hn2, hn2', rfl, rfl⟩
    by_cases hg : n0 + n1 + n2 ≤ 1048576 ∧ l0 ≤ 65536 ∧ l1 ≤ 65536 ∧ l2 ≤ 65536
    · obtain ⟨hs, hl0, hl1, hl2⟩ := hg
      go_wp2_with fail
      refine (clone_any _ _ _ _ _ h0 hl0).mono ?_
      rintro e w1 ⟨a0', c0', rfl, k0, b0⟩
      have k1 := h1.below b0
      have k2 := h2.below b0
      go_wp2_with fail
      refine (clone_any _ _ _ _ _ k1 hl1).mono ?_
      rintro e w2 ⟨a1', c1', rfl, m1, b1⟩
      have m0 := k0.below b1
      have m2 := k2.below b1
      have bb : Below w.heap.size w w2 := b0.trans (b1.mono b0.size)
      clear k0 k1 k2 b0 b1
      go_wp2_with fail
      refine (clone_any _ _ _ _ _ m2 hl2).mono ?_
      rintro e w3 ⟨a2', c2', rfl, q2, b2⟩
      have q0 := m0.below b2
      have q1 := m1.below b2
      have bc : Below w.heap.size w w3 := bb.trans (b2.mono bb.size)
      clear m0 m1 m2 b2 bb h0 h1 h2 hn0 hn1 hn2 hn0' hn1' hn2'
      go_wp2_with fail
      refine (zzsm_any _ _ _ _ _ _ _ _ _ q0 q2).mono ?_
      rintro e w' ⟨rfl, rfl⟩
      cases hm0 : smatch (bs xs) (bs zs) with
      | false =>
        clear hm0
        go_wp2
        go_ret
        exact ⟨rfl, bc⟩
      | true =>
        have H0 : Hid (smatch (bs xs) (bs zs) = true) := hm0
        clear hm0
        go_wp2_with fail
        refine (zzsm_any _ _ _ _ _ _ _ _ _ q1 q2).mono ?_
        rintro e w' ⟨rfl, rfl⟩
        cases hm1 : smatch (bs ys) (bs zs) with
        | false =>
          clear hm1
          go_wp2
          go_ret
          exact ⟨rfl, bc⟩
        | true =>
          have hov := overlap_of_both _ _ _ H0.out hm1
          have HO : Hid (overlap (bs xs) (bs ys) = true) := hov
          clear hm1 hov
          go_wp2_with fail
          refine (zzov_any _ _ _ _ _ _ _ _ _ q0 q1).mono ?_
          rintro e w4 ⟨rfl, q3, rfl⟩
          rw [HO.out]
          go_wp2
          go_ret
          exact ⟨rfl, below_drewN bc _⟩
    · rcases (show 1048576 < n0 + n1 + n2 ∨ (n0 + n1 + n2 ≤ 1048576 ∧ 65536 < l0) ∨ (n0 + n1 + n2 ≤ 1048576 ∧ l0 ≤ 65536 ∧ 65536 < l1) ∨ (n0 + n1 + n2 ≤ 1048576 ∧ l0 ≤ 65536 ∧ l1 ≤ 65536 ∧ 65536 < l2) from by omega) with g | ⟨g0, g⟩ | ⟨g0, g1, g⟩ | ⟨g0, g1, g2, g⟩
      all_goals
        clear hg
        go_wp2
        go_ret
        exact ⟨rfl, Below.refl _ _⟩

set_option maxRecDepth 100000 in
theorem lifted9 (os : Os) (started : os.Started) (H : Type) (enc : TypeId × Value → H) :
    ReturnsInHanded {} Trym.checked os 9 .any (Rows.fnFiltersOverlapWhenASubjectMatchesBothSpec.pre6 enc Trym.prog Trym.f9 Rows.fnFiltersOverlapWhenASubjectMatchesBothRow.domain false) (Rows.fnFiltersOverlapWhenASubjectMatchesBothSpec.post enc Trym.prog Trym.f9 false true false false) := by
  refine returnsInHanded_of_change (C := Trym.checked) Trym.own started (by kernel_rfl) Trym.func9
    (ChangeSpec.witness6 (enc := enc) (C := Trym.checked) false ⟨#[], #[.slice none 0 0, .slice none 0 0, .slice none 0 0], []⟩ 8 (by kernel_rfl) (by kernel_rfl) (by kernel_rfl) (by kernel_rfl)) ?_
  intro W base args ds gs before hval0 hW hcnd _
  have hval : ∀ (j : Nat) t v, Trym.f9.params[j]? = some t → args[j]? = some v → Value.okWide Trym.prog W .any base t v := hval0
  have hW' := hW
  obtain ⟨p, q, hA0, hV, rfl, hfz, hnd⟩ := hW
  have hA : DataW.TrodAll enc Trym.prog W 0 (fun _ => true) true Trym.f9.params.toList args.toList ds p := hA0
  rw [Trym.params9] at hA hval
  obtain ⟨v0, vs0, d0, ds0, p0, q0, hargs, rfl, rfl, h0, r0⟩ := trodAll_cons hA
  obtain ⟨v1, vs1, d1, ds1, p1, q1, rfl, rfl, rfl, h1, r1⟩ := trodAll_cons r0
  obtain ⟨v2, vs2, d2, ds2, p2, q2, rfl, rfl, rfl, h2, r2⟩ := trodAll_cons r1
  obtain ⟨rfl, rfl, rfl⟩ := trodAll_nil r2
  obtain rfl : args = #[v0, v1, v2] := by cases args; simp_all
  obtain ⟨rfl, rfl⟩ := trodVars_none hV
  obtain ⟨a0, len0, cap0, rfl⟩ := okWide_slice Trym.underlying22 (hval 0 22 v0 rfl rfl)
  have lt0 : ∀ x ∈ p0, x.block < W.heap.size := by obtain ⟨m, hm⟩ := h0; exact DataW.trod_lt m _ _ _ hm
  obtain ⟨z0, w0⟩ := open_isStrs h0
  obtain ⟨a1, len1, cap1, rfl⟩ := okWide_slice Trym.underlying22 (hval 1 22 v1 rfl rfl)
  have lt1 : ∀ x ∈ p1, x.block < W.heap.size := by obtain ⟨m, hm⟩ := h1; exact DataW.trod_lt m _ _ _ hm
  obtain ⟨z1, w1⟩ := open_isStrs h1
  obtain ⟨a2, len2, cap2, rfl⟩ := okWide_slice Trym.underlying22 (hval 2 22 v2 rfl rfl)
  have lt2 : ∀ x ∈ p2, x.block < W.heap.size := by obtain ⟨m, hm⟩ := h2; exact DataW.trod_lt m _ _ _ hm
  obtain ⟨z2, w2⟩ := open_isStrs h2
  clear hA0 hval0
  refine (walk9 a0 a1 a2 len0 cap0 len1 cap1 len2 cap2 z0 z1 z2 W w0 w1 w2).mono fun e W' ⟨he, bel⟩ => ?_
  subst he
  exact ⟨_, rfl, _, _, _, [], _, [], hW', trodAll_mk1 (shut_bool Trym.underlying4 _), trodAll_mk3 (Below.trod Trym.laidOut (by kernel_rfl) (of_decide_eq_true (by kernel_rfl)) h0 bel lt0) (Below.trod Trym.laidOut (by kernel_rfl) (of_decide_eq_true (by kernel_rfl)) h1 bel lt1) (Below.trod Trym.laidOut (by kernel_rfl) (of_decide_eq_true (by kernel_rfl)) h2 bel lt2), rfl, bel.frame _, fun h => by cases h⟩

theorem over9 : Rows.fnFiltersOverlapWhenASubjectMatchesBothRow.holds Trym.pinned (OpenSpec.ofChange Rows.fnFiltersOverlapWhenASubjectMatchesBothSpec) :=
  OpenClaim.holds_of_wide 9 Trym.f9 rfl rfl rfl rfl rfl rfl rfl ⟨rfl, rfl, rfl, rfl, rfl⟩ rfl rfl rfl rfl rfl (by kernel_rfl) Trym.func9 (by kernel_rfl)
    (of_decide_eq_true (by kernel_rfl)) (by unfold Func.isWrapper; first | (rw [if_pos (by decide +kernel)]; kernel_rfl) | (rw [if_neg (by decide +kernel)]; exact ⟨rfl, rfl⟩))
    (fun os started H enc _ => lifted9 os started H enc)

/-- THE STATEMENT. -/
theorem fnFiltersOverlapWhenASubjectMatchesBoth_proved : Rows.FnFiltersOverlapWhenASubjectMatchesBothSaid := over9

end Go.Proofs.Qxb6602186aMods
