/-
  THE LAW FnAtDistanceRoundTrip: her walk out of the contracts, and the row. Own text; the row's step after the shell that the kit's tool writes.
-/
import Derived.Test.Qxb6602311aModsAt
import Derived.Test.Qxb6602311aModsEq
import Derived.Test.Qxb6602311aModsFrame
import Derived.Deep.RegionHeld3
namespace Go.Proofs.Qxb6602311aMods
open Go.ChangeShapes Go.WideShapes Go.ChangeAt Go.RowKit

theorem IsArr.congr {cs : Array Value} {X Y : Nat → Nat} (h : IsArr cs X) (e : ∀ j, j < 32 → X j = Y j) : IsArr cs Y :=
  ⟨h.1, fun j hj => by rw [← e j hj]; exact h.2 j hj⟩

theorem nb8_back (s x y : Nat) (hs : s < 8) : nb8 s (nb8 s x y) x = x := by
  have : s = 0 ∨ s = 1 ∨ s = 2 ∨ s = 3 ∨ s = 4 ∨ s = 5 ∨ s = 6 ∨ s = 7 := by omega
  unfold nb8
  rcases this with h | h | h | h | h | h | h | h <;> subst h <;> simp only [Nat.reducePow, Nat.reduceAdd] <;> omega

theorem nb8_again (s x y : Nat) (hs : s < 8) : nb8 s x (nb8 s x y) = nb8 s x y := by
  have : s = 0 ∨ s = 1 ∨ s = 2 ∨ s = 3 ∨ s = 4 ∨ s = 5 ∨ s = 6 ∨ s = 7 := by omega
  unfold nb8
  rcases this with h | h | h | h | h | h | h | h <;> subst h <;> simp only [Nat.reducePow, Nat.reduceAdd] <;> omega

/-- There and back. -/
theorem atD_back (I L : Nat → Nat) (p j : Nat) : atD (atD I L p) I p j = I j := by
  unfold atD
  by_cases h1 : j < 31 - p / 8
  · simp only [h1, if_true]
  · by_cases h2 : j = 31 - p / 8
    · simp only [h2, Nat.lt_irrefl, if_false, if_true]
      exact nb8_back _ _ _ (Nat.mod_lt _ (by omega))
    · simp only [h1, h2, if_false]

/-- The answer as the filler. -/
theorem atD_again (I L : Nat → Nat) (p j : Nat) : atD I (atD I L p) p j = atD I L p j := by
  unfold atD
  by_cases h1 : j < 31 - p / 8
  · simp only [h1, if_true]
  · by_cases h2 : j = 31 - p / 8
    · simp only [h2, Nat.lt_irrefl, if_false, if_true]
      exact nb8_again _ _ _ (Nat.mod_lt _ (by omega))
    · simp only [h1, h2, if_false]

theorem range_below {W w' : World} {b o : Nat} {cs : List Value} (h : W.rangeAt b o cs) (hb : Below W.heap.size W w') : w'.rangeAt b o cs := by
  intro j v hv
  have h1 := h j v hv
  rw [hb.cell (p := ⟨b, o + j, none⟩) (World.block_lt_of_cell? W _ h1)]
  exact h1
theorem range_drew {W : World} {b o : Nat} {cs : List Value} (h : W.rangeAt b o cs) : W.drew.rangeAt b o cs := h
theorem below_step {w W w2 : World} (h : Below w.heap.size w W) (k : Below W.heap.size W w2) : Below w.heap.size w w2 := h.trans (k.mono h.size)
theorem Blk.range {w : World} {g : Nat} {l : List Value} {t : TypeId} (h : Blk w g l.toArray t) : w.rangeAt g 0 l := by
  intro j v hv
  rw [Nat.zero_add, cell_of_row w g j _ t (0, 0) h]
  simpa using hv

/-- An operation of a region that draws, taken first: the slot that it writes is told. -/
theorem take_at {P : Program} {ops : Array Oper} {Q : Exit → Act → World → Prop} {md : Region.Mode} {S : World → Prop} (i k : Nat) (v : Value) {oi : Oper} {fuel : Nat} {listed : Array Bool} {a : Act} {w : World} (hi : ops[i]? = some oi) (hd : oi.dst = some k)
    (hs : Region.noSelect ops = true) (hf : Region.free md ops listed i = true) (hr : (Region.ready md ops listed).contains i = true)
    (hQ : ∀ c a w, Q (.panic c) (a.put oi.dst v) w → Q (.panic c) a w) (hy : YieldsIf P ops S oi v a) (hS : S w)
    (h : wpAnyH P md ops Q S fuel (listed.setIfInBounds i true) (a.put (some k) v) w) : wpAnyH P md ops Q S (fuel + 1) listed a w :=
  wpAnyH_take hi hs hf hr hQ hy hS (by rw [hd]; exact h)

set_option linter.unusedSimpArgs false in
set_option maxHeartbeats 1000000 in
theorem walk7 (ci cb : Array Value) (I L : Nat → Nat) (d : Int) (w : World) (hi : IsArr ci I) (hl : IsArr cb L) :
    Calls Trym.prog 7 #[.agg ci, .int .i64 d, .agg cb] w fun e w' => e = .returned (.bool true) ∧ Below w.heap.size w w' := by
  by_cases hd : 1 ≤ d ∧ d ≤ 256
  · obtain ⟨p, hpd⟩ : ∃ p : Nat, d = (p : Int) + 1 := ⟨(d - 1).toNat, by omega⟩
    subst hpd
    have hp : p < 256 := by omega
    clear hd
    go_enter Trym.func7, Trym.ntmps7
    go_wp2_with (first
      | (refine wpList_load22 rfl (.tmp 3) rfl w.heap.size 22 ci I hi rfl ((blk_at ci 22 rfl).alloc _) ?_)
      | (refine wpList_load22 rfl (.tmp 5) rfl (w.heap.size + 1) 22 cb L hl rfl (blk_at cb 22 (by simp)) ?_)
      | (go_at_call 11; refine (zzat_any ci cb I L p _ hi hl hp).mono ?_; rintro e w1 ⟨cr, rfl, har, bel⟩; have k0 : Blk w1 w.heap.size ci 22 := ((blk_at ci 22 rfl).alloc _).below bel (by simp; omega))
      | (refine wpList_store22 rfl (.tmp 7) (.tmp 17) rfl w1.heap.size 22 _ cr _ har rfl rfl (blk_at _ 22 rfl) rfl ?_))
    intro w2 k7 bel2 _ hsz2
    have b1 : Below w.heap.size w w1 := by
      refine Below.trans (b := _) ?_ (bel.mono (by simp; omega))
      exact (((Below.refl w.heap.size w).alloc (Nat.le_refl _) _).alloc (by simp) _)
    have k02 : Blk w2 w.heap.size ci 22 := (k0.alloc _).below bel2 k0.lt
    have b2 : Below w.heap.size w w2 := by
      refine Below.trans (b := _) ?_ (bel2.mono b1.size)
      exact b1.alloc b1.size _
    clear bel bel2 k0 b1
    obtain ⟨li, rfl⟩ : ∃ l : List Value, ci = l.toArray := ⟨ci.toList, by simp⟩
    obtain ⟨lr, rfl⟩ : ∃ l : List Value, cr = l.toArray := ⟨cr.toList, by simp⟩
    have r3 := k02.range
    have r7 := k7.range
    have hu22 := Trym.underlying22
    have hs3 : (Trym.prog.info? 22).map (·.size) = some li.length := by rw [size22]; have := hi.1; simp at this; rw [this]
    have hs7 : (Trym.prog.info? 22).map (·.size) = some lr.length := by rw [size22]; have := har.1; simp at this; rw [this]
    have e3 := fun wx => run_eq22 _ _ hi wx
    have e7 := fun wx => run_eq22 _ _ har wx
    obtain ⟨G, hG⟩ : ∃ G, G = w1.heap.size := ⟨_, rfl⟩
    rw [← hG] at r7 ⊢
    clear k02 k7 hsz2 hG
    go_wp2
    refine wp_region_held_drew (S := fun w' => w'.rangeAt w.heap.size 0 li ∧ w'.rangeAt G 0 lr ∧ Below w.heap.size w w') (by kernel_rfl) ⟨r3, r7, b2.drew⟩ (fun hHeld => ?_)
    refine take_at 0 18 (.agg lr.toArray) rfl rfl (by kernel_rfl) (by kernel_rfl) (by kernel_rfl) (fun _ _ _ h => h) (yieldsIf_load_mid (by rfl) 22 (.tmp 7) rfl G 0 rfl lr _ (fun w h => h.2.1) hu22 rfl hs7) hHeld ?_
    try simp only [Act.put, List.setIfInBounds_toArray, List.set_cons_zero, List.set_cons_succ]
    refine take_at 1 19 (.int .i64 ((p : Int) + 1)) rfl rfl (by kernel_rfl) (by kernel_rfl) (by kernel_rfl) (fun _ _ _ h => h) (Or.inl ⟨by rfl, fun wx _ => by go_simp⟩) hHeld ?_
    try simp only [Act.put, List.setIfInBounds_toArray, List.set_cons_zero, List.set_cons_succ]
    refine take_at 2 20 (.agg li.toArray) rfl rfl (by kernel_rfl) (by kernel_rfl) (by kernel_rfl) (fun _ _ _ h => h) (yieldsIf_load_mid (by rfl) 22 (.tmp 3) rfl w.heap.size 0 rfl li _ (fun w h => h.1) hu22 rfl hs3) hHeld ?_
    try simp only [Act.put, List.setIfInBounds_toArray, List.set_cons_zero, List.set_cons_succ]
    refine take_at 4 22 (.agg li.toArray) rfl rfl (by kernel_rfl) (by kernel_rfl) (by kernel_rfl) (fun _ _ _ h => h) (yieldsIf_load_mid (by rfl) 22 (.tmp 3) rfl w.heap.size 0 rfl li _ (fun w h => h.1) hu22 rfl hs3) hHeld ?_
    try simp only [Act.put, List.setIfInBounds_toArray, List.set_cons_zero, List.set_cons_succ]
    refine wpAnyH_ready (rs := [3]) (by kernel_rfl) (by simp) (AllReadyH.cons rfl (fun K hK => ?_) AllReadyH.nil)
    go_simp
    refine (zzat_any _ _ _ _ p _ har hi hp).mono ?_
    rintro e w3 ⟨c3, rfl, h3, bel3⟩
    obtain rfl : c3 = li.toArray := (h3.congr (fun j _ => atD_back I L p j)).ext hi
    refine hK.out _ _ ⟨range_below hHeld.1 bel3, range_below hHeld.2.1 bel3, below_step hHeld.2.2 bel3⟩ (fun hHeld3 => ?_)
    clear hK K
    try simp only [Act.put, List.setIfInBounds_toArray, List.set_cons_zero, List.set_cons_succ]
    refine take_at 5 23 (.bool false) rfl rfl (by kernel_rfl) (by kernel_rfl) (by kernel_rfl) (fun _ _ _ h => h) (Or.inl ⟨by rfl, fun wx _ => by go_simp⟩) hHeld3 ?_
    try simp only [Act.put, List.setIfInBounds_toArray, List.set_cons_zero, List.set_cons_succ]
    refine wpAnyH_done (by kernel_rfl) ?_ _
    obtain ⟨s3, s7, sb⟩ := hHeld3
    clear hHeld bel3 r3 r7 b2 h3
    go_wp2
    refine wp_region_held_drew (S := fun w' => w'.rangeAt w.heap.size 0 li ∧ w'.rangeAt G 0 lr ∧ Below w.heap.size w w') (by kernel_rfl) ⟨s3, s7, sb.drew⟩ (fun hHeld => ?_)
    refine take_at 0 24 (.agg li.toArray) rfl rfl (by kernel_rfl) (by kernel_rfl) (by kernel_rfl) (fun _ _ _ h => h) (yieldsIf_load_mid (by rfl) 22 (.tmp 3) rfl w.heap.size 0 rfl li _ (fun w h => h.1) hu22 rfl hs3) hHeld ?_
    try simp only [Act.put, List.setIfInBounds_toArray, List.set_cons_zero, List.set_cons_succ]
    refine take_at 1 25 (.int .i64 ((p : Int) + 1)) rfl rfl (by kernel_rfl) (by kernel_rfl) (by kernel_rfl) (fun _ _ _ h => h) (Or.inl ⟨by rfl, fun wx _ => by go_simp⟩) hHeld ?_
    try simp only [Act.put, List.setIfInBounds_toArray, List.set_cons_zero, List.set_cons_succ]
    refine take_at 2 26 (.agg lr.toArray) rfl rfl (by kernel_rfl) (by kernel_rfl) (by kernel_rfl) (fun _ _ _ h => h) (yieldsIf_load_mid (by rfl) 22 (.tmp 7) rfl G 0 rfl lr _ (fun w h => h.2.1) hu22 rfl hs7) hHeld ?_
    try simp only [Act.put, List.setIfInBounds_toArray, List.set_cons_zero, List.set_cons_succ]
    refine take_at 4 28 (.agg lr.toArray) rfl rfl (by kernel_rfl) (by kernel_rfl) (by kernel_rfl) (fun _ _ _ h => h) (yieldsIf_load_mid (by rfl) 22 (.tmp 7) rfl G 0 rfl lr _ (fun w h => h.2.1) hu22 rfl hs7) hHeld ?_
    try simp only [Act.put, List.setIfInBounds_toArray, List.set_cons_zero, List.set_cons_succ]
    refine wpAnyH_ready (rs := [3]) (by kernel_rfl) (by simp) (AllReadyH.cons rfl (fun K hK => ?_) AllReadyH.nil)
    go_simp
    refine (zzat_any _ _ _ _ p _ hi har hp).mono ?_
    rintro e w5 ⟨c5, rfl, h5, bel5⟩
    obtain rfl : c5 = lr.toArray := (h5.congr (fun j _ => atD_again I L p j)).ext har
    refine hK.out _ _ ⟨range_below hHeld.1 bel5, range_below hHeld.2.1 bel5, below_step hHeld.2.2 bel5⟩ (fun hHeld3 => ?_)
    clear hK K
    try simp only [Act.put, List.setIfInBounds_toArray, List.set_cons_zero, List.set_cons_succ]
    refine take_at 5 29 (.bool true) rfl rfl (by kernel_rfl) (by kernel_rfl) (by kernel_rfl) (fun _ _ _ h => h) (Or.inl ⟨by rfl, fun wx _ => by go_simp⟩) hHeld3 ?_
    try simp only [Act.put, List.setIfInBounds_toArray, List.set_cons_zero, List.set_cons_succ]
    refine take_at 6 6 (.bool true) rfl rfl (by kernel_rfl) (by kernel_rfl) (by kernel_rfl) (fun _ _ _ h => h) (Or.inl ⟨by rfl, fun wx _ => by go_simp⟩) hHeld3 ?_
    try simp only [Act.put, List.setIfInBounds_toArray, List.set_cons_zero, List.set_cons_succ]
    refine wpAnyH_done (by kernel_rfl) ?_ _
    have sb5 := hHeld3.2.2
    clear hHeld hHeld3 bel5 s3 s7 sb h5
    go_wp2
    go_ret
    exact ⟨rfl, sb5⟩
  · rcases (show d < 1 ∨ (1 ≤ d ∧ 256 < d) from by omega) with g | ⟨g0, g⟩
    all_goals
      clear hd
      go_enter Trym.func7, Trym.ntmps7
      go_wp2
      go_ret
      exact ⟨rfl, ((Below.refl _ _).alloc (Nat.le_refl _) _).alloc (by simp) _⟩

set_option maxRecDepth 100000 in
theorem lifted7 (os : Os) (started : os.Started) (H : Type) (enc : TypeId × Value → H) :
    ReturnsInHanded {} Trym.checked os 7 .any (Rows.fnAtDistanceRoundTripSpec.pre6 enc Trym.prog Trym.f7 Rows.fnAtDistanceRoundTripRow.domain false) (Rows.fnAtDistanceRoundTripSpec.post enc Trym.prog Trym.f7 false true false false) := by
  refine returnsInHanded_of_change (C := Trym.checked) Trym.own started (by kernel_rfl) Trym.func7
    (ChangeSpec.witness6 (enc := enc) (C := Trym.checked) false ⟨#[], #[.agg #[.int .u8 0, .int .u8 0, .int .u8 0, .int .u8 0, .int .u8 0, .int .u8 0, .int .u8 0, .int .u8 0, .int .u8 0, .int .u8 0, .int .u8 0, .int .u8 0, .int .u8 0, .int .u8 0, .int .u8 0, .int .u8 0, .int .u8 0, .int .u8 0, .int .u8 0, .int .u8 0, .int .u8 0, .int .u8 0, .int .u8 0, .int .u8 0, .int .u8 0, .int .u8 0, .int .u8 0, .int .u8 0, .int .u8 0, .int .u8 0, .int .u8 0, .int .u8 0], .int .i64 0, .agg #[.int .u8 0, .int .u8 0, .int .u8 0, .int .u8 0, .int .u8 0, .int .u8 0, .int .u8 0, .int .u8 0, .int .u8 0, .int .u8 0, .int .u8 0, .int .u8 0, .int .u8 0, .int .u8 0, .int .u8 0, .int .u8 0, .int .u8 0, .int .u8 0, .int .u8 0, .int .u8 0, .int .u8 0, .int .u8 0, .int .u8 0, .int .u8 0, .int .u8 0, .int .u8 0, .int .u8 0, .int .u8 0, .int .u8 0, .int .u8 0, .int .u8 0, .int .u8 0]], []⟩ 8 (by kernel_rfl) (by kernel_rfl) (by kernel_rfl) (by kernel_rfl)) ?_
  intro W base args ds gs before hval0 hW hcnd _
  have hval : ∀ (j : Nat) t v, Trym.f7.params[j]? = some t → args[j]? = some v → Value.okWide Trym.prog W .any base t v := hval0
  have hW' := hW
  obtain ⟨p, q, hA0, hV, rfl, hfz, hnd⟩ := hW
  have hA : DataW.TrodAll enc Trym.prog W 0 (fun _ => true) true Trym.f7.params.toList args.toList ds p := hA0
  rw [Trym.params7] at hA hval
  obtain ⟨v0, vs0, d0, ds0, p0, q0, hargs, rfl, rfl, h0, r0⟩ := trodAll_cons hA
  obtain ⟨v1, vs1, d1, ds1, p1, q1, rfl, rfl, rfl, h1, r1⟩ := trodAll_cons r0
  obtain ⟨v2, vs2, d2, ds2, p2, q2, rfl, rfl, rfl, h2, r2⟩ := trodAll_cons r1
  obtain ⟨rfl, rfl, rfl⟩ := trodAll_nil r2
  obtain rfl : args = #[v0, v1, v2] := by cases args; simp_all
  obtain ⟨rfl, rfl⟩ := trodVars_none hV
  have lt0 : ∀ x ∈ p0, x.block < W.heap.size := by obtain ⟨m, hm⟩ := h0; exact DataW.trod_lt m _ _ _ hm
  have lt2 : ∀ x ∈ p2, x.block < W.heap.size := by obtain ⟨m, hm⟩ := h2; exact DataW.trod_lt m _ _ _ hm
  obtain ⟨c0, X0, rfl, w0⟩ := open_arr (hval 0 22 v0 rfl rfl) h0
  obtain ⟨a1, rfl, rfl, rfl, w1⟩ := open_int Trym.underlying3 (hval 1 3 v1 rfl rfl) h1
  obtain ⟨c2, X2, rfl, w2⟩ := open_arr (hval 2 22 v2 rfl rfl) h2
  clear hA0 hval0
  refine (walk7 c0 c2 X0 X2 a1 W w0 w2).mono fun e W' ⟨he, bel⟩ => ?_
  subst he
  exact ⟨_, rfl, _, _, _, [], _, [], hW', trodAll_mk1 (shut_bool Trym.underlying4 _), trodAll_mk3 (Below.trod Trym.laidOut (by kernel_rfl) (of_decide_eq_true (by kernel_rfl)) h0 bel lt0) (shut_int Trym.underlying3 w1) (Below.trod Trym.laidOut (by kernel_rfl) (of_decide_eq_true (by kernel_rfl)) h2 bel lt2), rfl, bel.frame _, fun h => by cases h⟩

theorem over7 : Rows.fnAtDistanceRoundTripRow.holds Trym.pinned (OpenSpec.ofChange Rows.fnAtDistanceRoundTripSpec) :=
  OpenClaim.holds_of_wide 7 Trym.f7 rfl rfl rfl rfl rfl rfl rfl ⟨rfl, rfl, rfl, rfl, rfl⟩ rfl rfl rfl rfl rfl (by kernel_rfl) Trym.func7 (by kernel_rfl)
    (of_decide_eq_true (by kernel_rfl)) (by unfold Func.isWrapper; first | (rw [if_pos (by decide +kernel)]; kernel_rfl) | (rw [if_neg (by decide +kernel)]; exact ⟨rfl, rfl⟩))
    (fun os started H enc _ => lifted7 os started H enc)

/-- THE STATEMENT. -/
theorem fnAtDistanceRoundTrip_proved : Rows.FnAtDistanceRoundTripSaid := over7

end Go.Proofs.Qxb6602311aMods
