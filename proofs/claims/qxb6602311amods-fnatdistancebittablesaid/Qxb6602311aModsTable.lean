/-
  THE LAW FnAtDistanceBitTable: her walk out of the contracts, and the row. Own text; the row's step after the shell that the kit's tool writes.
-/
import Derived.Test.Qxb6602311aModsBit
import Derived.Test.Qxb6602311aModsFrame
namespace Go.Proofs.Qxb6602311aMods
open Go.ChangeShapes Go.WideShapes Go.ChangeAt Go.RowKit

theorem flipGo (b : Nat) (h : b ≤ 1) : bits BinOp.xor IntKind.u8 1 (b : Int) = ((1 - b : Nat) : Int) := by
  have h1 := u8_xor_nat 1 b (by omega) (by omega)
  have h2 : b = 0 ∨ b = 1 := by omega
  rcases h2 with h2 | h2 <;> subst h2 <;> exact h1

/-- What the loop holds on to. -/
def Held (w wr : World) (G : Nat) (ci cb cr : Array Value) : Prop := Blk wr w.heap.size ci 22 ∧ Blk wr (w.heap.size + 1) cb 22 ∧ Blk wr G cr 22 ∧ Below w.heap.size w wr

theorem Held.step {w wr w' : World} {G : Nat} {ci cb cr : Array Value} (h : Held w wr G ci cb cr) (hb : Below wr.heap.size wr w') : Held w w' G ci cb cr :=
  ⟨h.1.below hb h.1.lt, h.2.1.below hb h.2.1.lt, h.2.2.1.below hb h.2.2.1.lt, h.2.2.2.trans (hb.mono h.2.2.2.size)⟩

set_option maxRecDepth 100000 in
set_option maxHeartbeats 1000000 in
theorem walk6 (ci cb : Array Value) (I L : Nat → Nat) (d : Int) (w : World) (hi : IsArr ci I) (hl : IsArr cb L) :
    Calls Trym.prog 6 #[.agg ci, .int .i64 d, .agg cb] w fun e w' => e = .returned (.bool true) ∧ Below w.heap.size w w' := by
  by_cases hd : 1 ≤ d ∧ d ≤ 256
  · obtain ⟨p, hpd⟩ : ∃ p : Nat, d = (p : Int) + 1 := ⟨(d - 1).toNat, by omega⟩
    subst hpd
    have hp : p < 256 := by omega
    clear hd
    go_enter Trym.func6, Trym.ntmps6
    go_wp2_with (first
      | (refine wpList_load22 rfl (.tmp 3) rfl w.heap.size 22 ci I hi rfl ((blk_at ci 22 rfl).alloc _) ?_)
      | (refine wpList_load22 rfl (.tmp 5) rfl (w.heap.size + 1) 22 cb L hl rfl (blk_at cb 22 (by simp)) ?_)
      | (go_at_call 11; refine (zzat_any ci cb I L p _ hi hl hp).mono ?_; rintro e w1 ⟨cr, rfl, har, bel⟩; have k0 : Blk w1 w.heap.size ci 22 := ((blk_at ci 22 rfl).alloc _).below bel (by simp; omega); have k1 : Blk w1 (w.heap.size + 1) cb 22 := (blk_at cb 22 (by simp)).below bel (by simp))
      | (refine wpList_store22 rfl (.tmp 7) (.tmp 19) rfl w1.heap.size 22 _ cr _ har rfl rfl (blk_at _ 22 rfl) rfl ?_))
    intro w2 k7 bel2 _ hsz2
    have b1 : Below w.heap.size w w1 := by
      refine Below.trans (b := _) ?_ (bel.mono (by simp; omega))
      exact (((Below.refl w.heap.size w).alloc (Nat.le_refl _) _).alloc (by simp) _)
    have hH : Held w w2 w1.heap.size ci cb cr := by
      refine ⟨(k0.alloc _).below bel2 k0.lt, (k1.alloc _).below bel2 k1.lt, k7, ?_⟩
      refine Below.trans (b := _) ?_ (bel2.mono b1.size)
      exact b1.alloc b1.size _
    clear bel bel2 k0 k1 k7 b1 hsz2
    obtain ⟨G, hG⟩ : ∃ G, G = w1.heap.size := ⟨_, rfl⟩
    rw [← hG] at hH ⊢
    clear hG
    go_wp2
    go_loopw [8] (fun i wr => ∃ k : Nat, k ≤ 256 ∧ i = .int .i64 k ∧ Held w wr G ci cb cr) (fun i _ => 256 - (intOf i).toNat)
    case atStart => exact ⟨0, by omega, rfl, hH⟩
    case round =>
      clear hH
      obtain ⟨k, hk, rfl, hH⟩ := hrel
      by_cases hlt : k < 256
      · have htab := bit_atD I L p k hp hlt
        by_cases c1 : p < k
        · rw [if_pos c1] at htab
          have HT : Hid (bit8 (atD I L p) k = bit8 I k) := htab
          clear htab
          go_wp2_with (first | (refine wpList_load22 rfl (.tmp 3) rfl w.heap.size 22 ci I hi rfl hH.1 ?_))
          refine (bit_any ci I k _ hi hlt).mono ?_
          rintro e w3 ⟨rfl, b3⟩
          have hH3 := hH.step b3
          clear hH b3
          go_wp2_with (first | (refine wpList_load22 rfl (.tmp 7) rfl G 22 cr _ har rfl hH3.2.2.1 ?_))
          refine (bit_any cr _ k _ har hlt).mono ?_
          rintro e w4 ⟨rfl, b4⟩
          rw [HT.out]
          have hH4 := hH3.step b4
          clear hH3 b4
          go_wp2
          go_roundw
          case rel => exact ⟨k + 1, by omega, by go_num, hH4⟩
          case measure => simp [intOf]; omega
        · rw [if_neg c1] at htab
          by_cases c2 : k = p
          · subst c2
            rw [if_pos rfl] at htab
            have hle := bit8_lt I k
            have hfl := flipGo (bit8 I k) hle
            have HT : Hid (bit8 (atD I L k) k = 1 - bit8 I k) := htab
            clear htab
            go_wp2_with (first | (refine wpList_load22 rfl (.tmp 3) rfl w.heap.size 22 ci I hi rfl hH.1 ?_))
            refine (bit_any ci I k _ hi hlt).mono ?_
            rintro e w3 ⟨rfl, b3⟩
            have hH3 := hH.step b3
            clear hH b3
            go_wp2_with (first | (refine wpList_load22 rfl (.tmp 7) rfl G 22 cr _ har rfl hH3.2.2.1 ?_))
            refine (bit_any cr _ k _ har hlt).mono ?_
            rintro e w4 ⟨rfl, b4⟩
            rw [HT.out]
            have hH4 := hH3.step b4
            clear hH3 b4
            go_wp2
            go_roundw
            case rel => exact ⟨k + 1, by omega, by go_num, hH4⟩
            case measure => simp [intOf]; omega
          · rw [if_neg c2] at htab
            have c3 : k < p := by omega
            have HT : Hid (bit8 (atD I L p) k = bit8 L k) := htab
            clear htab c1 c2
            go_wp2_with (first | (refine wpList_load22 rfl (.tmp 5) rfl (w.heap.size + 1) 22 cb L hl rfl hH.2.1 ?_))
            refine (bit_any cb L k _ hl hlt).mono ?_
            rintro e w3 ⟨rfl, b3⟩
            have hH3 := hH.step b3
            clear hH b3
            go_wp2_with (first | (refine wpList_load22 rfl (.tmp 7) rfl G 22 cr _ har rfl hH3.2.2.1 ?_))
            refine (bit_any cr _ k _ har hlt).mono ?_
            rintro e w4 ⟨rfl, b4⟩
            rw [HT.out]
            have hH4 := hH3.step b4
            clear hH3 b4
            go_wp2
            go_roundw
            case rel => exact ⟨k + 1, by omega, by go_num, hH4⟩
            case measure => simp [intOf]; omega
      · have hb := hH.2.2.2
        go_wp2
        go_ret
        exact ⟨rfl, hb⟩
  · rcases (show d < 1 ∨ (1 ≤ d ∧ 256 < d) from by omega) with g | ⟨g0, g⟩
    all_goals
      clear hd
      go_enter Trym.func6, Trym.ntmps6
      go_wp2
      go_ret
      exact ⟨rfl, ((Below.refl _ _).alloc (Nat.le_refl _) _).alloc (by simp) _⟩

set_option maxRecDepth 100000 in
theorem lifted6 (os : Os) (started : os.Started) (H : Type) (enc : TypeId × Value → H) :
    ReturnsInHanded {} Trym.checked os 6 .any (Rows.fnAtDistanceBitTableSpec.pre6 enc Trym.prog Trym.f6 Rows.fnAtDistanceBitTableRow.domain false) (Rows.fnAtDistanceBitTableSpec.post enc Trym.prog Trym.f6 false true false false) := by
  refine returnsInHanded_of_change (C := Trym.checked) Trym.own started (by kernel_rfl) Trym.func6
    (ChangeSpec.witness6 (enc := enc) (C := Trym.checked) false ⟨#[], #[.agg #[.int .u8 0, .int .u8 0, .int .u8 0, .int .u8 0, .int .u8 0, .int .u8 0, .int .u8 0, .int .u8 0, .int .u8 0, .int .u8 0, .int .u8 0, .int .u8 0, .int .u8 0, .int .u8 0, .int .u8 0, .int .u8 0, .int .u8 0, .int .u8 0, .int .u8 0, .int .u8 0, .int .u8 0, .int .u8 0, .int .u8 0, .int .u8 0, .int .u8 0, .int .u8 0, .int .u8 0, .int .u8 0, .int .u8 0, .int .u8 0, .int .u8 0, .int .u8 0], .int .i64 0, .agg #[.int .u8 0, .int .u8 0, .int .u8 0, .int .u8 0, .int .u8 0, .int .u8 0, .int .u8 0, .int .u8 0, .int .u8 0, .int .u8 0, .int .u8 0, .int .u8 0, .int .u8 0, .int .u8 0, .int .u8 0, .int .u8 0, .int .u8 0, .int .u8 0, .int .u8 0, .int .u8 0, .int .u8 0, .int .u8 0, .int .u8 0, .int .u8 0, .int .u8 0, .int .u8 0, .int .u8 0, .int .u8 0, .int .u8 0, .int .u8 0, .int .u8 0, .int .u8 0]], []⟩ 8 (by kernel_rfl) (by kernel_rfl) (by kernel_rfl) (by kernel_rfl)) ?_
  intro W base args ds gs before hval0 hW hcnd _
  have hval : ∀ (j : Nat) t v, Trym.f6.params[j]? = some t → args[j]? = some v → Value.okWide Trym.prog W .any base t v := hval0
  have hW' := hW
  obtain ⟨p, q, hA0, hV, rfl, hfz, hnd⟩ := hW
  have hA : DataW.TrodAll enc Trym.prog W 0 (fun _ => true) true Trym.f6.params.toList args.toList ds p := hA0
  rw [Trym.params6] at hA hval
  obtain ⟨v0, vs0, d0, ds0, p0, q0, hargs, rfl, rfl, h0, r0⟩ := trodAll_cons hA
  obtain ⟨v1, vs1, d1, ds1, p1, q1, rfl, rfl, rfl, h1, r1⟩ := trodAll_cons r0
  obtain ⟨v2, vs2, d2, ds2, p2, q2, rfl, rfl, rfl, h2, r2⟩ := trodAll_cons r1
  obtain ⟨rfl, rfl, rfl⟩ := trodAll_nil r2
  obtain rfl : args = #[v0, v1, v2] := by cases args; simp_all
  obtain ⟨rfl, rfl⟩ := trodVars_none hV
  have lt0 : ∀ x ∈ p0, x.block < W.heap.size := by obtain ⟨m, hm⟩ := h0; exact DataW.trod_lt m _ _ _ hm
  have lt2 : ∀ x ∈ p2, x.block < W.heap.size := by obtain ⟨m, hm⟩ := h2; exact DataW.trod_lt m _ _ _ hm
  obtain ⟨c0, X0, rfl, w0⟩ := open_arr (hval 0 22 v0 rfl rfl) h0
  obtain ⟨a1, rfl, rfl, rfl, w1⟩ := open_int Trym.underlying3 (hval 1 3 v1 rfl rfl) h1
  obtain ⟨c2, X2, rfl, w2⟩ := open_arr (hval 2 22 v2 rfl rfl) h2
  clear hA0 hval0
  refine (walk6 c0 c2 X0 X2 a1 W w0 w2).mono fun e W' ⟨he, bel⟩ => ?_
  subst he
  exact ⟨_, rfl, _, _, _, [], _, [], hW', trodAll_mk1 (shut_bool Trym.underlying4 _), trodAll_mk3 (Below.trod Trym.laidOut (by kernel_rfl) (of_decide_eq_true (by kernel_rfl)) h0 bel lt0) (shut_int Trym.underlying3 w1) (Below.trod Trym.laidOut (by kernel_rfl) (of_decide_eq_true (by kernel_rfl)) h2 bel lt2), rfl, bel.frame _, fun h => by cases h⟩

theorem over6 : Rows.fnAtDistanceBitTableRow.holds Trym.pinned (OpenSpec.ofChange Rows.fnAtDistanceBitTableSpec) :=
  OpenClaim.holds_of_wide 6 Trym.f6 rfl rfl rfl rfl rfl rfl rfl ⟨rfl, rfl, rfl, rfl, rfl⟩ rfl rfl rfl rfl rfl (by kernel_rfl) Trym.func6 (by kernel_rfl)
    (of_decide_eq_true (by kernel_rfl)) (by unfold Func.isWrapper; first | (rw [if_pos (by decide +kernel)]; kernel_rfl) | (rw [if_neg (by decide +kernel)]; exact ⟨rfl, rfl⟩))
    (fun os started H enc _ => lifted6 os started H enc)

/-- THE STATEMENT. -/
theorem fnAtDistanceBitTable_proved : Rows.FnAtDistanceBitTableSaid := over6

end Go.Proofs.Qxb6602311aMods
