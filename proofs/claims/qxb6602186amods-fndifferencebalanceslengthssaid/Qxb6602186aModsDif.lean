/-
  difference and ZZdifference: their walks. Own text.
-/
import Derived.Test.Qxb6602186aModsSet
namespace Go.Proofs.Qxb6602186aMods
open Go.RowKit Go.Maps

theorem ret_two {a b c d : Int} (h : a = b) (h' : c = d) : Ending.returned (.tuple #[.int .i64 a, .int .i64 c]) = .returned (.tuple #[.int .i64 b, .int .i64 d]) := by rw [h, h']

set_option maxHeartbeats 800000 in
theorem dif_any (a0 a1 : Option Addr) (l0 c0 l1 c1 : Nat) (xs ys : List ByteArray) (w : World) (h0 : IsStrs w a0 l0 c0 xs) (h1 : IsStrs w a1 l1 c1 ys) (hl0 : l0 ≤ 65536) (hl1 : l1 ≤ 65536) :
    Calls Trym.prog 27 #[.slice a0 l0 c0, .slice a1 l1 c1] w fun e w' =>
      e = .returned (.tuple #[.int .i64 (Dif.added (bs xs) [] (bs ys)), .int .i64 (Dif.left (bs xs) (bs ys)).length]) ∧ Below w.heap.size w w' := by
  have hmm := fun wx => run_makeMap_hint wx .i64 l0
  go_enter Trym.func27, Trym.ntmps27
  go_wp2
  go_loopw [16] (fun i wr => ∃ k : Nat, k ≤ l0 ∧ i = .int .i64 k ∧ SetAt wr w.heap.size k (Dif.ddup ((bs xs).take k)) ∧ Below w.heap.size w wr) (fun i _ => l0 - (intOf i).toNat)
  case atStart => exact ⟨0, Nat.zero_le _, rfl, setAt_made _, (Below.refl _ _).alloc (Nat.le_refl _) _⟩
  case round =>
    obtain ⟨k, hk, rfl, hset, hbel⟩ := hrel
    by_cases hlt : k < l0
    · obtain ⟨b, off, rfl, hc⟩ := h0.row (by omega)
      have hck := hc k hlt
      have hcw : wr.cell? ⟨b, off + k, none⟩ = w.cell? ⟨b, off + k, none⟩ := hbel.cell (block_lt_of_cell hck)
      rw [hck] at hcw
      have hsz := h0.size_at hlt
      have hsucc := bs_take_succ xs k (by rw [h0.1]; exact hlt)
      clear hc hck
      generalize xs.getD k ByteArray.empty = s at *
      have HS : Hid ((bs xs).take (k + 1) = (bs xs).take k ++ [s.toList]) := hsucc
      clear hsucc
      go_wp2_with (first
        | (at_mapUpdate; refine wpList_set_put _ rfl _ _ _ rfl w.heap.size k _ rfl hset s rfl rfl hsz (by unfold maxLen; omega) ?_; intro w1 hset1 hgrow1)
        | go_in)
      go_roundw
      case rel => exact ⟨k + 1, by omega, by go_num, by rw [HS.out, Dif.ddup_snoc]; exact hset1, hbel.grown hgrow1 hbel.size (fun j hj => by cases hj; exact Nat.le_refl _)⟩
      case measure => simp [intOf]; omega
    · have he : k = l0 := by omega
      subst he
      have hset0 : SetAt wr w.heap.size k (Dif.left (bs xs) ((bs ys).take 0)) := by
        rw [List.take_zero, Dif.left_nil]
        rw [List.take_of_length_le (by rw [bs_length, h0.1]; exact Nat.le_refl _)] at hset
        exact hset
      clear hset
      go_wp2
      go_loopw [4, 25] (fun n i wq => ∃ j : Nat, j ≤ l1 ∧ i = .int .i64 j ∧ n = .int .i64 (Dif.added (bs xs) [] ((bs ys).take j)) ∧ SetAt wq w.heap.size k (Dif.left (bs xs) ((bs ys).take j)) ∧ Below w.heap.size w wq) (fun _ i _ => l1 - (intOf i).toNat)
      case atStart => exact ⟨0, Nat.zero_le _, rfl, rfl, hset0, hbel⟩
      case round =>
        clear hset0 hbel hk hlt
        obtain ⟨j, hj, rfl, rfl, hset, hbel⟩ := hrel
        by_cases hlt : j < l1
        · obtain ⟨b, off, rfl, hc⟩ := h1.row (by omega)
          have hck := hc j hlt
          have hcw : wr.cell? ⟨b, off + j, none⟩ = w.cell? ⟨b, off + j, none⟩ := hbel.cell (block_lt_of_cell hck)
          rw [hck] at hcw
          have hsz := h1.size_at hlt
          have hsucc := bs_take_succ ys j (by rw [h1.1]; exact hlt)
          clear hc hck
          generalize ys.getD j ByteArray.empty = s at *
          have HS : Hid ((bs ys).take (j + 1) = (bs ys).take j ++ [s.toList]) := hsucc
          have hal := Dif.added_le (bs xs) ((bs ys).take j) []
          rw [List.length_take] at hal
          have hle : Dif.added (bs xs) [] ((bs ys).take j) ≤ 65536 := by omega
          clear hsucc hal
          by_cases hmem : s.toList ∈ Dif.left (bs xs) ((bs ys).take j)
          · have hd : decide (s.toList ∈ Dif.left (bs xs) ((bs ys).take j)) = true := by simpa using hmem
            go_wp2_with (first
              | (at_lookup; refine wpList_set_look _ rfl _ _ rfl w.heap.size k _ rfl hset s rfl hsz ?_; rw [hd])
              | (at_delete; refine wpList_set_drop _ rfl _ _ rfl w.heap.size k _ rfl hset s rfl hsz (Dif.nodup_left _ _) ?_; intro w1 hset1 hgrow1)
              | go_in)
            go_roundw
            case rel =>
              have hm := (Dif.mem_left _ _ _).1 hmem
              exact ⟨j + 1, by omega, by go_num, by rw [HS.out, Dif.added_snoc, List.nil_append, if_pos hm, Nat.add_zero], by rw [HS.out, Dif.left_snoc]; exact hset1, hbel.grown hgrow1 hbel.size (fun i hi => by cases hi; exact Nat.le_refl _)⟩
            case measure => simp [intOf]; omega
          · have hd : decide (s.toList ∈ Dif.left (bs xs) ((bs ys).take j)) = false := by simpa using hmem
            go_wp2_with (first
              | (at_lookup; refine wpList_set_look _ rfl _ _ rfl w.heap.size k _ rfl hset s rfl hsz ?_; rw [hd])
              | go_in)
            go_roundw
            case rel =>
              have hm : ¬ (s.toList ∈ bs xs ∧ s.toList ∉ (bs ys).take j) := fun h => hmem ((Dif.mem_left _ _ _).2 h)
              exact ⟨j + 1, by omega, by go_num, by rw [HS.out, Dif.added_snoc, List.nil_append, if_neg hm]; go_num, by rw [HS.out, Dif.left_snoc_not _ _ _ hmem]; exact hset, hbel⟩
            case measure => simp [intOf]; omega
        · have he : j = l1 := by omega
          subst he
          rw [List.take_of_length_le (by rw [bs_length, h1.1]; exact Nat.le_refl _)] at hset
          go_wp2_with (first
            | (at_len; refine wpList_set_len _ rfl _ rfl w.heap.size k _ rfl hset ?_)
            | go_in)
          go_ret2
          exact ⟨ret_two (by rw [List.take_of_length_le (by rw [bs_length, h1.1]; exact Nat.le_refl _)]) rfl, hbel⟩

set_option maxHeartbeats 400000 in
theorem zzdif_any (a0 a1 : Option Addr) (l0 c0 l1 c1 : Nat) (xs ys : List ByteArray) (w : World) (h0 : IsStrs w a0 l0 c0 xs) (h1 : IsStrs w a1 l1 c1 ys) (hl0 : l0 ≤ 65536) (hl1 : l1 ≤ 65536) :
    Calls Trym.prog 15 #[.slice a0 l0 c0, .slice a1 l1 c1] w fun e w' =>
      e = .returned (.tuple #[.int .i64 (Dif.added (bs xs) [] (bs ys)), .int .i64 (Dif.left (bs xs) (bs ys)).length]) ∧ Below w.heap.size w w' := by
  go_enter Trym.func15, Trym.ntmps15
  go_wp2_with (go_at_call 27; refine (dif_any _ _ _ _ _ _ _ _ _ h0 h1 hl0 hl1).mono ?_; rintro e w' ⟨rfl, hb⟩)
  go_ret2
  exact ⟨rfl, hb⟩

end Go.Proofs.Qxb6602186aMods
