/-
  atDistance and ZZAtDistance: their walks. Own text.
-/
import Derived.Test.Qxb6602311aModsBase
import Derived.Test.Qxb6602311aModsByte
namespace Go.Proofs.Qxb6602311aMods
open Go.RowKit

theorem alen37 : Trym.prog.arrayLen 37 = 32 := by kernel_rfl
theorem under37 : Trym.prog.underlying 37 = some (.array (Trym.prog.arrayLen 37) (Trym.prog.elem 37)) := by kernel_rfl
theorem sizeOf_elem37 (w : World) : (sizeOf (Trym.prog.elem 37)).run Trym.prog w = .ok 1 w := by kernel_rfl
theorem size5 : (Trym.prog.info? 5).map (·.size) = some 1 := by kernel_rfl

/-- The cells cs lie in w from ad on. -/
def Src (w : World) (ad : Addr) (cs : List Value) : Prop := ∀ j v, cs[j]? = some v → w.cell? (ad.add j) = some v

theorem slice37 (w : World) (g q : Nat) (hq : q < 32) :
    (Instr.sliceAt 37 (.pointer (some ⟨g, 0, none⟩)) none (some (.int .i64 (q : Int))) none).run Trym.prog w = .ok (.slice (some ⟨g, 0, none⟩) q 32) w := by
  rw [run_sliceAt_array_h w 37 ⟨g, 0, none⟩ under37 .i64 q (by omega) (by rw [alen37]; omega), sizeOf_elem37, alen37]
  simp [Result.andThen, slicedAt, Addr.add]

/-- What atDistance answers, byte by byte; p = dist - 1. -/
def atD (I L : Nat → Nat) (p : Nat) : Nat → Nat := fun j => if j < 31 - p / 8 then I j else if j = 31 - p / 8 then nb8 (p % 8) (I j) (L j) else L j

theorem atD_arr {ci cb : Array Value} {I L : Nat → Nat} (hi : IsArr ci I) (hl : IsArr cb L) {p : Nat} (hp : p < 256) {q : Nat} (hq : q = 31 - p / 8) {cs : List Value} (hcs : cs = ci.toList.take q) {v : Int} (hv : v = ((nb8 (p % 8) (I q) (L q) : Nat) : Int)) :
    IsArr ((splice cb.toList 0 cs).toArray.setIfInBounds q (.int .u8 v)) (atD I L p) := by
  have hq32 : q < 32 := by omega
  have hlen : cs.length = q := by rw [hcs, List.length_take, Array.length_toList, hi.1]; omega
  have hspl : (splice cb.toList 0 cs).length = 32 := by rw [length_splice _ _ _ (by rw [hlen, Array.length_toList, hl.1]; omega), Array.length_toList, hl.1]
  refine ⟨by simp [hspl], fun j hj => ?_⟩
  have hij := hi.2 j hj
  have hlj := hl.2 j hj
  rw [Array.getElem?_setIfInBounds]
  unfold atD
  by_cases h1 : q = j
  · subst h1
    rw [if_pos rfl, if_pos (by simp [hspl]; exact hj), if_neg (by omega), if_pos hq, hv]
    exact ⟨rfl, nb8_lt _ _ _ (Nat.mod_lt _ (by omega)) hij.2⟩
  · rw [if_neg h1]
    by_cases h2 : j < q
    · rw [if_pos (by omega)]
      refine ⟨?_, hij.2⟩
      have : (splice cb.toList 0 cs)[j]? = ci[j]? := by
        unfold splice
        rw [List.take_zero, List.nil_append, List.getElem?_append_left (by omega), hcs, List.getElem?_take, if_pos h2]
        simp
      simpa [this] using hij.1
    · rw [if_neg (by omega), if_neg (by omega)]
      refine ⟨?_, hlj.2⟩
      have : (splice cb.toList 0 cs)[j]? = cb[j]? := by
        unfold splice
        rw [List.take_zero, List.nil_append, List.getElem?_append_right (by omega), List.getElem?_drop]
        have e : 0 + cs.length + (j - cs.length) = j := by omega
        rw [e]
        simp
      simpa [this] using hlj.1

theorem shift_eq (p : Nat) (hp : p < 256) : (128 / 2 ^ ((255 - p) % 8) : Int) = ((2 ^ (p % 8) : Nat) : Int) := by
  have h : (255 - p) % 8 = 7 - p % 8 := by omega
  rw [h]
  have : p % 8 = 0 ∨ p % 8 = 1 ∨ p % 8 = 2 ∨ p % 8 = 3 ∨ p % 8 = 4 ∨ p % 8 = 5 ∨ p % 8 = 6 ∨ p % 8 = 7 := by omega
  rcases this with h | h | h | h | h | h | h | h <;> rw [h] <;> decide

set_option maxHeartbeats 1000000 in
theorem at_any (ci cb : Array Value) (I L : Nat → Nat) (p : Nat) (w : World) (hi : IsArr ci I) (hl : IsArr cb L) (hp : p < 256) :
    Calls Trym.prog 14 #[.agg ci, .int .i64 ((p : Int) + 1), .agg cb] w fun e w' => ∃ cr, e = .returned (.agg cr) ∧ IsArr cr (atD I L p) ∧ Below w.heap.size w w' := by
  go_enter Trym.func14, Trym.ntmps14
  go_wp2_with (first
    | (refine wpList_load37 rfl (.tmp 5) rfl (w.heap.size + 1) 37 cb L hl rfl ((blk_at cb 37 (by simp)).alloc _) ?_)
    | (refine wpList_store37 rfl (.tmp 9) (.tmp 15) rfl (w.heap.size + 1 + 1 + 1) 37 _ cb L hl rfl rfl (blk_at _ 37 (by simp)) rfl ?_))
  intro w1 k3 bel hab hsz
  have k0 : Blk w1 w.heap.size ci 37 := ((((blk_at ci 37 rfl).alloc _).alloc _).alloc _).below bel (by omega)
  have k1 : Blk w1 (w.heap.size + 1) cb 37 := (((blk_at cb 37 (by simp)).alloc _).alloc _).below bel (by omega)
  have k2 : ∃ z, Blk w1 (w.heap.size + 1 + 1) z 37 ∧ z.size = 32 := ⟨_, ((blk_at _ 37 (by simp)).alloc _).below bel (by omega), rfl⟩
  have b0 : Below w.heap.size w w1 := by
    refine Below.trans (b := _) ?_ (bel.mono (by omega))
    exact (((((Below.refl w.heap.size w).alloc (Nat.le_refl _) _).alloc (by simp) _).alloc (by simp; omega) _).alloc (by simp; omega) _)
  obtain ⟨z, k2, hz⟩ := k2
  clear bel hab
  obtain ⟨b, hb⟩ : ∃ b : Nat, (256 - ((p : Int) + 1)) = (b : Int) := ⟨255 - p, by omega⟩
  obtain ⟨bt, hbt⟩ : ∃ bt : Nat, bt = 2 ^ (p % 8) := ⟨_, rfl⟩
  have hsh := shift_eq p hp
  rw [← hbt] at hsh
  rw [hb, hsh]
  obtain ⟨q, hqd⟩ : ∃ q : Nat, q = 31 - p / 8 := ⟨_, rfl⟩
  have hq : IntKind.i64.wrap ((b : Int) / 8) = (q : Int) := by
    rw [IntWalk.i64_in _ (by omega)]
    omega
  have hq32 : q < 32 := by omega
  have HBT : Hid (bt = 2 ^ (p % 8)) := hbt
  have HQ : Hid (q = 31 - p / 8) := hqd
  clear hb hbt hqd hsh
  have hcs : ((ci.toList.take q)).length = q := by rw [List.length_take, Array.length_toList, hi.1]; omega
  obtain ⟨cs, hcsd⟩ : ∃ cs, cs = ci.toList.take q := ⟨_, rfl⟩
  rw [← hcsd] at hcs
  have HCS : Hid (cs = ci.toList.take q) := hcsd
  have hsrcd : Src w1.drew ⟨w.heap.size, 0, none⟩ cs := by
    intro j v hv
    have hadd : (⟨w.heap.size, 0, none⟩ : Addr).add j = ⟨w.heap.size, j, none⟩ := by unfold Addr.add; split <;> simp_all
    rw [hadd, cell_of_row w1.drew _ j ci 37 (0, 0) k0]
    rw [hcsd, List.getElem?_take] at hv
    split at hv
    · simpa using hv
    · cases hv
  have hone' : Hid (∀ v ∈ cs, v.oneCell' = true) := by
    intro v hv
    rw [hcsd] at hv
    exact (Array.all_eq_true_iff_forall_mem.1 hi.oneCell) v (by simpa using List.mem_of_mem_take hv)
  have hfit' : Hid (0 + cs.length ≤ cb.toList.length) := by show _ ≤ _; rw [hcs, Array.length_toList, hl.1]; omega
  have hn : Hid (cs.length = Nat.min q q) := by show _ = _; rw [hcs]; simp
  clear hcsd hcs
  have hsl := fun wx g => slice37 wx g q hq32
  have hk3d : Hid (w1.drew.heap[w.heap.size + 1 + 1 + 1]? = some (.cells cb.toList.toArray 37 (0, 0))) := by show w1.heap[_]? = _; rw [Array.toArray_toList]; exact k3
  have hbd : Below (w.heap.size + 1 + 1 + 1) w1 w1.drew := (Below.refl _ _).drew
  have hs5 : Hid ((Trym.prog.info? 5).map (·.size) = some 1) := size5
  go_wp2
  go_region_law (refine step_copy_splice rfl (.tmp 18) (.tmp 21) 40 40 rfl 5 Trym.underlying40 hs5.out (some ⟨w.heap.size + 1 + 1 + 1, 0, none⟩) (some ⟨w.heap.size, 0, none⟩) q 32 q 32 (by go_simp) (by go_simp) (w.heap.size + 1 + 1 + 1) 0 cb.toList 37 hk3d.out cs hn.out (fun _ => ⟨rfl, _, rfl, hsrcd⟩) hfit'.out hone'.out (w.heap.size + 1 + 1 + 1) w1 hbd (Nat.le_refl _) ?_; intro w4 hg4 hb4)
  have k04 := k0.below hb4 (by omega)
  have k14 := k1.below hb4 (by omega)
  have k24 := k2.below hb4 (by omega)
  have k34 : Blk w4 (w.heap.size + 1 + 1 + 1) (splice cb.toList 0 cs).toArray 37 := hg4.out
  have c0 := k04.cell hi hq32
  have c1 := k14.cell hl hq32
  have hspl : (splice cb.toList 0 cs).length = 32 := by rw [length_splice _ _ _ hfit'.out, Array.length_toList, hl.1]
  obtain ⟨v3, c3⟩ : ∃ v, w4.cell? ⟨w.heap.size + 1 + 1 + 1, q, none⟩ = some v := by
    rw [cell_of_row w4 _ q _ 37 (0, 0) k34, Array.getElem?_eq_getElem (by simp [hspl]; exact hq32)]
    exact ⟨_, rfl⟩
  have f3 := k34.free q
  have hI := (hi.2 q hq32).2
  have hL := (hl.2 q hq32).2
  have hb04 : Below w.heap.size w w4 := b0.trans (hb4.mono (by omega))
  have harr : IsArr ((splice cb.toList 0 cs).toArray.setIfInBounds q (.int .u8 (nbGo (I q) (L q) bt))) (atD I L p) :=
    atD_arr hi hl hp HQ.out HCS.out (by rw [HBT.out]; exact nb_eq (p % 8) (I q) (L q) (Nat.mod_lt _ (by omega)) hI hL)
  clear k0 k1 k2 k3 hg4 hn hsrcd hk3d hbd hfit' hone' hs5 hb4 b0 hsl hspl k04 k14 HCS HQ HBT
  generalize I q = x at *
  generalize L q = y at *
  go_wp2
  go_region
  have k35 : Blk (w4.setCell ⟨w.heap.size + 1 + 1 + 1, q, none⟩ (.int .u8 (nbGo x y bt))).drew (w.heap.size + 1 + 1 + 1) ((splice cb.toList 0 cs).toArray.setIfInBounds q (.int .u8 (nbGo x y bt))) 37 :=
    heap_setCell_same w4 (w.heap.size + 1 + 1 + 1) q _ 37 _ k34
  have k25 : Blk (w4.setCell ⟨w.heap.size + 1 + 1 + 1, q, none⟩ (.int .u8 (nbGo x y bt))).drew (w.heap.size + 1 + 1) z 37 :=
    (heap_setCell_other w4 ⟨w.heap.size + 1 + 1 + 1, q, none⟩ (w.heap.size + 1 + 1) _ (by simp)).trans k24
  have b5 : Below w.heap.size w (w4.setCell ⟨w.heap.size + 1 + 1 + 1, q, none⟩ (.int .u8 (nbGo x y bt))).drew := (hb04.setCell (by simp; omega) _).drew
  clear k34 k24 c0 c1 c3 f3 hb04
  generalize ((splice cb.toList 0 cs).toArray.setIfInBounds q (Value.int IntKind.u8 (nbGo x y bt))) = cr at k35 harr
  unfold nbGo at k35 k25 b5
  go_wp2_with (first
    | (refine wpList_load37 rfl (.tmp 9) rfl (w.heap.size + 1 + 1 + 1) 37 _ (atD I L p) harr rfl k35 ?_)
    | (refine wpList_store37 rfl (.tmp 6) (.tmp 50) rfl (w.heap.size + 1 + 1) 37 z _ (atD I L p) harr rfl rfl k25 hz ?_))
  intro w6 k26 bel6 _ _
  have b6 := b5.trans (bel6.mono (by omega))
  clear k35 k25 b5 bel6
  go_wp2
  exact bodyPost_ret (results_cell_row Trym.results14 _ _ (w.heap.size + 1 + 1) 37 _ (0, 0) _ rfl k26 Trym.underlying37 rfl (by rw [size37, harr.1])) rfl ⟨_, rfl, harr, b6⟩

set_option maxHeartbeats 400000 in
theorem zzat_any (ci cb : Array Value) (I L : Nat → Nat) (p : Nat) (w : World) (hi : IsArr ci I) (hl : IsArr cb L) (hp : p < 256) :
    Calls Trym.prog 11 #[.agg ci, .int .i64 ((p : Int) + 1), .agg cb] w fun e w' => ∃ cr, e = .returned (.agg cr) ∧ IsArr cr (atD I L p) ∧ Below w.heap.size w w' := by
  go_enter Trym.func11, Trym.ntmps11
  go_wp2_with (first
    | (refine wpList_load22 rfl (.tmp 3) rfl w.heap.size 22 ci I hi rfl (((blk_at ci 22 rfl).alloc _).alloc _) ?_)
    | (refine wpList_load22 rfl (.tmp 5) rfl (w.heap.size + 1) 22 cb L hl rfl ((blk_at cb 22 (by simp)).alloc _) ?_)
    | (go_at_call 14; refine (at_any ci cb I L p _ hi hl hp).mono ?_; rintro e w1 ⟨cr, rfl, har, bel⟩; obtain ⟨z, k2, hz⟩ : ∃ z, Blk w1 (w.heap.size + 1 + 1) z 22 ∧ z.size = 32 := ⟨_, (blk_at _ 22 (by simp)).below bel (by simp), rfl⟩)
    | (refine wpList_store22 rfl (.tmp 6) (.tmp 10) rfl (w.heap.size + 1 + 1) 22 z cr _ har rfl rfl k2 hz ?_))
  intro w2 k22 bel2 _ _
  have b1 : Below w.heap.size w w1 := by
    refine Below.trans (b := _) ?_ (bel.mono (by simp; omega))
    exact ((((Below.refl w.heap.size w).alloc (Nat.le_refl _) _).alloc (by simp) _).alloc (by simp; omega) _)
  have b2 := b1.trans (bel2.mono (by omega))
  clear bel b1 bel2
  go_wp2
  exact bodyPost_ret (results_cell_row Trym.results11 _ _ (w.heap.size + 1 + 1) 22 _ (0, 0) _ rfl k22 Trym.underlying22 rfl (by rw [size22, har.1])) rfl ⟨_, rfl, har, b2⟩

end Go.Proofs.Qxb6602311aMods
