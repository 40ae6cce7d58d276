/-
  THE LAW FnSubjectMatchesAgreesWithOverlapOnLiteralSubjects: her walk out of the contracts, and the row. Own text; the row's step after the shell that the kit's tool writes.
-/
import Derived.Test.Qxb6602186aModsOv
import Derived.Test.Qxb6602186aModsSm
import Derived.Test.Qxb6602186aModsTok
import Derived.Test.Qxb6602186aModsZz
import Derived.Test.Qxb6602186aModsFrame
namespace Go.Proofs.Qxb6602186aMods
open Go.ChangeShapes Go.WideShapes Go.ChangeAt Go.RowKit

theorem overlap_swap : ∀ p q : List (List UInt8), overlap p q = overlap q p := by
  have hs : ∀ s t, ovStep s t = ovStep t s := by
    intro s t
    unfold ovStep
    have e1 : (s == [62] || t == [62]) = (t == [62] || s == [62]) := Bool.or_comm _ _
    have e2 : (s == [42] || t == [42] || s == t) = (t == [42] || s == [42] || t == s) := by
      rw [Bool.or_comm (s == [42]) (t == [42])]
      congr 1
      rw [Bool.eq_iff_iff]; simp; exact eq_comm
    rw [e1, e2]
  intro p
  induction p with
  | nil => intro q; cases q <;> rfl
  | cons s p ih =>
    intro q
    cases q with
    | nil => rfl
    | cons t q => rw [overlap, overlap, hs s t, ih q]

/-- A subject without a wildcard: to match it is to overlap with it. -/
theorem smatch_overlap : ∀ (p s : List (List UInt8)), (∀ x ∈ s, x ≠ [42] ∧ x ≠ [62]) → smatch p s = overlap p s
  | [], [], _ => rfl
  | [], _ :: _, _ => rfl
  | _ :: _, [], _ => rfl
  | a :: p, x :: s, h => by
    have hx := h x (by simp)
    have ih := smatch_overlap p s (fun y hy => h y (by simp [hy]))
    rw [smatch, overlap]
    by_cases ga : a = [62]
    · rw [if_pos ga, step_gt0 ga]
    · rw [if_neg ga]
      by_cases ca : a = [42] ∨ a = x
      · rw [if_pos ca, step_go ga hx.2 (by rcases ca with h | h; exact .inl h; exact .inr (.inr h)), ih]
      · rw [if_neg ca, step_no ga hx.2 (fun h => ca (.inl h)) hx.1 (fun h => ca (.inr h))]

set_option maxHeartbeats 1000000 in
theorem walk6 (a0 a1 : Option Addr) (l0 c0 l1 c1 : Nat) (xs ys : List ByteArray) (w : World) (h0 : IsStrs w a0 l0 c0 xs) (h1 : IsStrs w a1 l1 c1 ys) :
    Calls Trym.prog 6 #[.slice a0 l0 c0, .slice a1 l1 c1] w fun e w' => e = .returned (.bool true) ∧ Below w.heap.size w w' := by
  have hbd0 := h0.bound
  have hbd1 := h1.bound
  go_enter Trym.func6, Trym.ntmps6
  go_wp2_with fail
  refine (zz19_any _ _ _ _ _ _ _ _ _ h0 h1).mono ?_
  rintro e w' ⟨⟨r, rfl⟩, rfl⟩
  cases r with
  | false =>
    go_wp2
    go_ret
    exact ⟨rfl, Below.refl _ _⟩
  | true =>
    go_wp2_with fail
    refine (tok_any _ _ _ _ _ h0).mono ?_
    rintro e w' ⟨n0, hn0, hn0', rfl, rfl⟩
    go_wp2_with fail
    refine (tok_any _ _ _ _ _ h1).mono ?_
    rintro e w' ⟨n1, hn1, hn1', rfl, rfl⟩
    by_cases hg : n0 + n1 ≤ 1048576 ∧ l0 ≤ 65536 ∧ l1 ≤ 65536
    · obtain ⟨hs, hl0, hl1⟩ := hg
      go_wp2_with fail
      refine (lit_any _ _ _ _ _ h1).mono ?_
      rintro e w' ⟨⟨r, rfl, hr⟩, rfl⟩
      cases r with
      | false =>
        clear hr
        go_wp2
        go_ret
        exact ⟨rfl, Below.refl _ _⟩
      | true =>
        have HM : Hid (smatch (bs xs) (bs ys) = overlap (bs xs) (bs ys)) := smatch_overlap _ _ (hr rfl)
        clear hr
        go_wp2_with fail
        refine (clone_any _ _ _ _ _ h0 hl0).mono ?_
        rintro e w1 ⟨a0', c0', rfl, k0, b0⟩
        have k1 := h1.below b0
        go_wp2_with fail
        refine (clone_any _ _ _ _ _ k1 hl1).mono ?_
        rintro e w2 ⟨a1', c1', rfl, m1, b1⟩
        have m0 := k0.below b1
        have bb : Below w.heap.size w w2 := b0.trans (b1.mono b0.size)
        clear k0 k1 b0 b1 h0 h1 hn0 hn1 hn0' hn1'
        go_wp2_with fail
        refine (zzsm_any _ _ _ _ _ _ _ _ _ m0 m1).mono ?_
        rintro e w' ⟨rfl, rfl⟩
        rw [HM.out]
        go_wp2_with fail
        refine (zzov_any _ _ _ _ _ _ _ _ _ m0 m1).mono ?_
        rintro e w3 ⟨rfl, q3, rfl⟩
        go_wp2_with fail
        refine (zzov_any _ _ _ _ _ _ _ _ _ (m1.drewN q3) (m0.drewN q3)).mono ?_
        rintro e w4 ⟨rfl, q4, rfl⟩
        rw [overlap_swap (bs ys) (bs xs)]
        go_wp2
        go_ret
        exact ⟨rfl, below_drewN bb _⟩
    · rcases (show 1048576 < n0 + n1 ∨ (n0 + n1 ≤ 1048576 ∧ 65536 < l0) ∨ (n0 + n1 ≤ 1048576 ∧ l0 ≤ 65536 ∧ 65536 < l1) from by omega) with g | ⟨g0, g⟩ | ⟨g0, g1, g⟩
      all_goals
        clear hg
        go_wp2
        go_ret
        exact ⟨rfl, Below.refl _ _⟩

set_option maxRecDepth 100000 in
theorem lifted6 (os : Os) (started : os.Started) (H : Type) (enc : TypeId × Value → H) :
    ReturnsInHanded {} Trym.checked os 6 .any (Rows.fnSubjectMatchesAgreesWithOverlapOnLiteralSubjectsSpec.pre6 enc Trym.prog Trym.f6 Rows.fnSubjectMatchesAgreesWithOverlapOnLiteralSubjectsRow.domain false) (Rows.fnSubjectMatchesAgreesWithOverlapOnLiteralSubjectsSpec.post enc Trym.prog Trym.f6 false true false false) := by
  refine returnsInHanded_of_change (C := Trym.checked) Trym.own started (by kernel_rfl) Trym.func6
    (ChangeSpec.witness6 (enc := enc) (C := Trym.checked) false ⟨#[], #[.slice none 0 0, .slice none 0 0], []⟩ 8 (by kernel_rfl) (by kernel_rfl) (by kernel_rfl) (by kernel_rfl)) ?_
  intro W base args ds gs before hval0 hW hcnd _
  have hval : ∀ (j : Nat) t v, Trym.f6.params[j]? = some t → args[j]? = some v → Value.okWide Trym.prog W .any base t v := hval0
  have hW' := hW
  obtain ⟨p, q, hA0, hV, rfl, hfz, hnd⟩ := hW
  have hA : DataW.TrodAll enc Trym.prog W 0 (fun _ => true) true Trym.f6.params.toList args.toList ds p := hA0
  rw [Trym.params6] at hA hval
  obtain ⟨v0, vs0, d0, ds0, p0, q0, hargs, rfl, rfl, h0, r0⟩ := trodAll_cons hA
  obtain ⟨v1, vs1, d1, ds1, p1, q1, rfl, rfl, rfl, h1, r1⟩ := trodAll_cons r0
  obtain ⟨rfl, rfl, rfl⟩ := trodAll_nil r1
  obtain rfl : args = #[v0, v1] := by cases args; simp_all
  obtain ⟨rfl, rfl⟩ := trodVars_none hV
  obtain ⟨a0, len0, cap0, rfl⟩ := okWide_slice Trym.underlying22 (hval 0 22 v0 rfl rfl)
  have lt0 : ∀ x ∈ p0, x.block < W.heap.size := by obtain ⟨m, hm⟩ := h0; exact DataW.trod_lt m _ _ _ hm
  obtain ⟨z0, w0⟩ := open_isStrs h0
  obtain ⟨a1, len1, cap1, rfl⟩ := okWide_slice Trym.underlying22 (hval 1 22 v1 rfl rfl)
  have lt1 : ∀ x ∈ p1, x.block < W.heap.size := by obtain ⟨m, hm⟩ := h1; exact DataW.trod_lt m _ _ _ hm
  obtain ⟨z1, w1⟩ := open_isStrs h1
  clear hA0 hval0
  refine (walk6 a0 a1 len0 cap0 len1 cap1 z0 z1 W w0 w1).mono fun e W' ⟨he, bel⟩ => ?_
  subst he
  exact ⟨_, rfl, _, _, _, [], _, [], hW', trodAll_mk1 (shut_bool Trym.underlying4 _), trodAll_mk2 (Below.trod Trym.laidOut (by kernel_rfl) (of_decide_eq_true (by kernel_rfl)) h0 bel lt0) (Below.trod Trym.laidOut (by kernel_rfl) (of_decide_eq_true (by kernel_rfl)) h1 bel lt1), rfl, bel.frame _, fun h => by cases h⟩

theorem over6 : Rows.fnSubjectMatchesAgreesWithOverlapOnLiteralSubjectsRow.holds Trym.pinned (OpenSpec.ofChange Rows.fnSubjectMatchesAgreesWithOverlapOnLiteralSubjectsSpec) :=
  OpenClaim.holds_of_wide 6 Trym.f6 rfl rfl rfl rfl rfl rfl rfl ⟨rfl, rfl, rfl, rfl, rfl⟩ rfl rfl rfl rfl rfl (by kernel_rfl) Trym.func6 (by kernel_rfl)
    (of_decide_eq_true (by kernel_rfl)) (by unfold Func.isWrapper; first | (rw [if_pos (by decide +kernel)]; kernel_rfl) | (rw [if_neg (by decide +kernel)]; exact ⟨rfl, rfl⟩))
    (fun os started H enc _ => lifted6 os started H enc)

/-- THE STATEMENT. -/
theorem fnSubjectMatchesAgreesWithOverlapOnLiteralSubjects_proved : Rows.FnSubjectMatchesAgreesWithOverlapOnLiteralSubjectsSaid := over6

end Go.Proofs.Qxb6602186aMods
