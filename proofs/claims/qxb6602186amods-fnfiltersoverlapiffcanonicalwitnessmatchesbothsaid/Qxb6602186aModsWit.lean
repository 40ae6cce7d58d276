/-
  appendTail and overlapWitness: their walks. Own text.
-/
import Derived.Test.Qxb6602186aModsWitPlain
import Derived.Test.Qxb6602186aModsTok
import Derived.Maps.AppendAt
namespace Go.Proofs.Qxb6602186aMods
open Go.RowKit

/-- 'v' is a slice of the call's own (from block 'w0.heap.size' on) that holds the strings 'zs'; below nothing has turned. -/
def Built (w0 w : World) (v : Value) (zs : List ByteArray) : Prop :=
  w.ownsRow w0.heap.size 9 1 v zs.length (zs.map Value.string) ∧ Below w0.heap.size w0 w ∧ ∀ s ∈ zs, s.size ≤ maxLen

theorem built_start (w : World) : Built w w (.slice none 0 0) [] := ⟨World.ownsRow_nil _ _ _ _, Below.refl _ _, by simp⟩

theorem Built.strs {w0 w : World} {v : Value} {zs : List ByteArray} (h : Built w0 w v zs) : ∃ a cap, v = .slice a zs.length cap ∧ IsStrs w a zs.length cap zs := by
  obtain ⟨ho, _, hs⟩ := h
  rcases ho.2 with ⟨hv, hn⟩ | ⟨g, cap, cur, hv, _, hg, hnc, hcm, hcs, htake⟩
  · refine ⟨none, 0, by rw [hv, hn], ?_⟩
    rw [hn]
    exact ⟨hn, Nat.le_refl _, Nat.zero_le _, hs, fun h => by omega⟩
  · refine ⟨some ⟨g, 0, none⟩, cap, hv, rfl, hnc, hcm, hs, fun _ => ⟨g, 0, rfl, fun i hi => ?_⟩⟩
    subst hv
    rw [Nat.zero_add, ho.cellAt i (by omega), List.getElem?_map, List.getElem?_eq_getElem hi]
    simp [List.getD, List.getElem?_eq_getElem hi]

theorem cell_one_str (w : World) (x : ByteArray) : ∀ j u, [Value.string x][j]? = some u → (w.alloc (.cells #[.string x] 9)).cell? ((⟨w.heap.size, 0, none⟩ : Addr).add j) = some u := cell_one_new w (.string x) 9

/-- 'append(v, x)' behind the block that is laid for x. -/
theorem wpList_built {w0 w : World} {ops : Array Oper} {rest : List Oper} {o : Oper} {a : Act} {Q : Exit → Act → World → Prop} (hg : o.guard = none) (s x : Operand)
    (ho : o.op = .call { callee := .builtin .append, args := #[s, x], argTypes := #[22, 22] }) (v : Value) (zs : List ByteArray) (b : ByteArray) (hs : a.eval s = v) (h : Built w0 w v zs)
    (hx : a.eval x = .slice (some ⟨w.heap.size, 0, none⟩) 1 1) (hl : zs.length ≤ 200000) (hb : b.size ≤ maxLen)
    (hK : ∀ v' w', Built w0 w' v' (zs ++ [b]) → wpList Trym.prog ops Q rest (a.put o.dst v') w') :
    wpList Trym.prog ops Q (o :: rest) a (w.alloc (.cells #[.string b] 9)) := by
  obtain ⟨i0, hi, hz0, hz1, hz2⟩ := info_parts Trym.info9
  obtain ⟨hown, hbel, hsz⟩ := h
  refine wpList_append_own _ hg s x 22 ho w0.heap.size 9 i0 (.string ByteArray.empty) 1 16 Trym.underlying22 hi hz0 hz1 hz2 rfl (by decide) v zs.length _ hs (hown.alloc _) ⟨w.heap.size, 0, none⟩ 1 1 [.string b] hx rfl (cell_one_str w b) (by simp [Value.oneCell']) (by unfold maxLen; omega) (by omega) (by have := hbel.size; simp; omega) ?_
  intro v' w' hown' hgrow _
  refine hK v' w' ⟨?_, ?_, ?_⟩
  · have e : (zs ++ [b]).length = zs.length + 1 := by simp
    rw [e, List.map_append]
    exact hown'
  · exact (hbel.alloc hbel.size _).grown hgrow (by have := hbel.size; simp; omega) (fun k hk => (hown.lt k hk).1)
  · intro t ht
    rcases List.mem_append.1 ht with h | h
    · exact hsz t h
    · simp at h
      subst h
      exact hb

theorem bs_append (xs ys : List ByteArray) : bs (xs ++ ys) = bs xs ++ bs ys := by simp [bs]

theorem bs_drop_at (xs : List ByteArray) (k : Nat) (h : k < xs.length) : (bs xs).drop k = (xs.getD k ByteArray.empty).toList :: (bs xs).drop (k+1) := by
  rw [List.drop_eq_getElem_cons (by simpa [bs] using h)]
  simp [bs, List.getD, List.getElem?_eq_getElem h]

theorem drop_end (xs : List ByteArray) (k : Nat) (h : ¬ k < xs.length) : (bs xs).drop k = [] := by
  rw [List.drop_eq_nil_iff]
  rw [bs_length]
  omega

theorem xs_bytes : (⟨#[120]⟩ : ByteArray).toList = [120] := by
  rw [ByteArray.toList_eq]

theorem bs_one (s : ByteArray) : bs [s] = [s.toList] := rfl
theorem bs_x : bs [⟨#[120]⟩] = [[120]] := by rw [bs_one, xs_bytes]

set_option maxHeartbeats 800000 in
theorem tail_any (w0 : World) (v : Value) (ds : List ByteArray) (a : Option Addr) (len cap : Nat) (ys : List ByteArray) (i : Nat) (w : World) (hB : Built w0 w v ds) (h : IsStrs w0 a len cap ys) (hl : len ≤ 65536) (hi : i ≤ len) (hd : ds.length ≤ 65536) :
    Calls Trym.prog 30 #[v, .slice a len cap, .int .i64 i] w fun e w' => ∃ v' zs, e = .returned v' ∧ Built w0 w' v' zs ∧ bs zs = bs ds ++ tailOf ((bs ys).drop i) ∧ zs.length ≤ 200000 := by
  go_enter Trym.func30, Trym.ntmps30
  go_wp2
  go_loopw [0, 7] (fun u j wr => ∃ (k : Nat) (zs : List ByteArray), k ≤ len ∧ j = .int .i64 k ∧ Built w0 wr u zs ∧ zs.length ≤ 65536 + k ∧ bs ds ++ tailOf ((bs ys).drop i) = bs zs ++ tailOf ((bs ys).drop k)) (fun _ j _ => len - (intOf j).toNat)
  case atStart => exact ⟨i, ds, hi, rfl, hB, by omega, rfl⟩
  case round =>
    obtain ⟨k, zs, hk, rfl, hb, hzl, heq⟩ := hrel
    clear hB
    by_cases hlt : k < len
    · obtain ⟨b, off, rfl, hc⟩ := h.row (by omega)
      have hck := hc k hlt
      have hcw : wr.cell? ⟨b, off + k, none⟩ = w0.cell? ⟨b, off + k, none⟩ := hb.2.1.cell (block_lt_of_cell hck)
      rw [hck] at hcw
      have hsz := h.size_at hlt
      rw [bs_drop_at ys k (by rw [h.1]; exact hlt), tailOf] at heq
      clear hc hck
      generalize ys.getD k ByteArray.empty = s at *
      by_cases g0 : s.toList = [62]
      · rw [if_pos g0] at heq
        have HE : Hid (bs ds ++ tailOf ((bs ys).drop i) = bs zs ++ [[120]]) := heq
        clear heq
        go_wp2_with (first
          | (at_builtin; refine wpList_built rfl _ _ rfl _ _ ⟨#[120]⟩ rfl hb rfl (by omega) (by unfold maxLen; decide) ?_; intro v' w1 hb1)
          | go_in)
        go_ret
        exact ⟨v', zs ++ [(⟨#[120]⟩ : ByteArray)], rfl, hb1, by rw [HE.out, bs_append, bs_x], by rw [List.length_append]; simp; omega⟩
      · rw [if_neg g0] at heq
        have g0' : (s.toList == [62]) = false := by simpa using g0
        by_cases s0 : s.toList = [42]
        · rw [if_pos s0] at heq
          have HE : Hid (bs ds ++ tailOf ((bs ys).drop i) = bs (zs ++ [⟨#[120]⟩]) ++ tailOf ((bs ys).drop (k + 1))) := by
            show _ = _
            rw [heq, bs_append, bs_x, List.append_assoc, List.singleton_append]
          clear heq
          go_wp2_with (first
            | (at_builtin; refine wpList_built rfl _ _ rfl _ _ ⟨#[120]⟩ rfl hb rfl (by omega) (by unfold maxLen; decide) ?_; intro v' w1 hb1)
            | go_in)
          go_roundw
          case rel => exact ⟨k + 1, zs ++ [⟨#[120]⟩], by omega, by go_num, hb1, by rw [List.length_append]; simp; omega, HE.out⟩
          case measure => simp [intOf]; omega
        · have s0' : (s.toList == [42]) = false := by simpa using s0
          rw [if_neg s0] at heq
          have HE : Hid (bs ds ++ tailOf ((bs ys).drop i) = bs (zs ++ [s]) ++ tailOf ((bs ys).drop (k + 1))) := by
            show _ = _
            rw [heq, bs_append, bs_one, List.append_assoc, List.singleton_append]
          clear heq
          go_wp2_with (first
            | (at_builtin; refine wpList_built rfl _ _ rfl _ _ s rfl hb rfl (by omega) hsz ?_; intro v' w1 hb1)
            | go_in)
          go_roundw
          case rel => exact ⟨k + 1, zs ++ [s], by omega, by go_num, hb1, by rw [List.length_append]; simp; omega, HE.out⟩
          case measure => simp [intOf]; omega
    · rw [drop_end ys k (by rw [h.1]; exact hlt), tailOf, List.append_nil] at heq
      have HE : Hid (bs ds ++ tailOf ((bs ys).drop i) = bs zs) := heq
      clear heq
      go_wp2
      go_ret
      exact ⟨_, zs, rfl, hb, HE.out.symm, by omega⟩

set_option maxHeartbeats 1000000 in
theorem wit_any (a0 a1 : Option Addr) (l0 c0 l1 c1 : Nat) (xs ys : List ByteArray) (w : World) (h0 : IsStrs w a0 l0 c0 xs) (h1 : IsStrs w a1 l1 c1 ys) (hl0 : l0 ≤ 65536) (hl1 : l1 ≤ 65536) :
    Calls Trym.prog 24 #[.slice a0 l0 c0, .slice a1 l1 c1] w fun e w' => ∃ v zs, e = .returned v ∧ Built w w' v zs ∧ bs zs = witOf (bs xs) (bs ys) ∧ zs.length ≤ 200000 := by
  go_enter Trym.func24, Trym.ntmps24
  go_wp2
  go_loopw [5, 6] (fun u i wr => ∃ (k : Nat) (zs : List ByteArray), k ≤ l0 ∧ k ≤ l1 ∧ i = .int .i64 k ∧ Built w wr u zs ∧ zs.length = k ∧ witOf (bs xs) (bs ys) = bs zs ++ witOf ((bs xs).drop k) ((bs ys).drop k)) (fun _ i _ => l0 - (intOf i).toNat)
  case atStart => exact ⟨0, [], Nat.zero_le _, Nat.zero_le _, rfl, built_start w, rfl, rfl⟩
  case round =>
    obtain ⟨k, zs, hk0, hk1, rfl, hb, hzl, heq⟩ := hrel
    have HZ : Hid (zs.length = k) := hzl
    clear hzl
    have hz : zs.length ≤ 65536 := by have := HZ.out; omega
    by_cases hlt : k < l0 ∧ k < l1
    · obtain ⟨hlt0, hlt1⟩ := hlt
      obtain ⟨b0, off0, rfl, hc0⟩ := h0.row (by omega)
      obtain ⟨b1, off1, rfl, hc1⟩ := h1.row (by omega)
      have hck0 := hc0 k hlt0
      have hck1 := hc1 k hlt1
      have hcw0 : wr.cell? ⟨b0, off0 + k, none⟩ = w.cell? ⟨b0, off0 + k, none⟩ := hb.2.1.cell (block_lt_of_cell hck0)
      have hcw1 : wr.cell? ⟨b1, off1 + k, none⟩ = w.cell? ⟨b1, off1 + k, none⟩ := hb.2.1.cell (block_lt_of_cell hck1)
      rw [hck0] at hcw0
      rw [hck1] at hcw1
      have hsz0 := h0.size_at hlt0
      have hsz1 := h1.size_at hlt1
      have d0 := bs_drop_at xs k (by rw [h0.1]; exact hlt0)
      have d1 := bs_drop_at ys k (by rw [h1.1]; exact hlt1)
      clear hc0 hc1 hck0 hck1
      have D0 : Hid ((bs xs).drop k = (xs.getD k ByteArray.empty).toList :: (bs xs).drop (k+1)) := d0
      have D1 : Hid ((bs ys).drop k = (ys.getD k ByteArray.empty).toList :: (bs ys).drop (k+1)) := d1
      clear d0 d1
      generalize xs.getD k ByteArray.empty = s at *
      generalize ys.getD k ByteArray.empty = t at *
      by_cases g0 : s.toList = [62]
      · have HE : Hid (witOf (bs xs) (bs ys) = bs zs ++ tailOf ((bs ys).drop k)) := by
          show _ = _
          rw [heq, D0.out, D1.out, witOf, if_pos g0]
        clear heq
        go_wp2_with fail
        refine (tail_any w _ zs _ _ _ ys k _ hb h1 hl1 hk1 hz).mono ?_
        rintro e w' ⟨v', qs, rfl, hb', heq', hql⟩
        have HQ : Hid (bs qs = witOf (bs xs) (bs ys)) := by show _ = _; rw [heq', HE.out]
        clear heq' HE
        go_wp2
        go_ret
        exact ⟨_, qs, rfl, hb', HQ.out, hql⟩
      · have g0' : (s.toList == [62]) = false := by simpa using g0
        by_cases g1 : t.toList = [62]
        · have HE : Hid (witOf (bs xs) (bs ys) = bs zs ++ tailOf ((bs xs).drop k)) := by
            show _ = _
            rw [heq, D0.out, D1.out, witOf, if_neg g0, if_pos g1]
          clear heq
          go_wp2_with fail
          refine (tail_any w _ zs _ _ _ xs k _ hb h0 hl0 hk0 hz).mono ?_
          rintro e w' ⟨v', qs, rfl, hb', heq', hql⟩
          have HQ : Hid (bs qs = witOf (bs xs) (bs ys)) := by show _ = _; rw [heq', HE.out]
          clear heq' HE
          go_wp2
          go_ret
          exact ⟨_, qs, rfl, hb', HQ.out, hql⟩
        · have g1' : (t.toList == [62]) = false := by simpa using g1
          by_cases s0 : s.toList = [42]
          · by_cases t0 : t.toList = [42]
            · have HE : Hid (witOf (bs xs) (bs ys) = bs (zs ++ [⟨#[120]⟩]) ++ witOf ((bs xs).drop (k+1)) ((bs ys).drop (k+1))) := by
                show _ = _
                rw [heq, D0.out, D1.out, witOf, if_neg g0, if_neg g1, if_neg (fun h => h s0), if_neg (fun h => h t0), bs_append, bs_x, List.append_assoc, List.singleton_append]
              clear heq
              go_wp2_with (first
                | (at_builtin; refine wpList_built rfl _ _ rfl _ _ ⟨#[120]⟩ rfl hb rfl (by omega) (by unfold maxLen; decide) ?_; intro v' w1 hb1)
                | go_in)
              go_roundw
              case rel => exact ⟨k + 1, zs ++ [⟨#[120]⟩], by omega, by omega, by go_num, hb1, by rw [List.length_append, HZ.out]; rfl, HE.out⟩
              case measure => simp [intOf]; omega
            · have t0' : (t.toList == [42]) = false := by simpa using t0
              have HE : Hid (witOf (bs xs) (bs ys) = bs (zs ++ [t]) ++ witOf ((bs xs).drop (k+1)) ((bs ys).drop (k+1))) := by
                show _ = _
                rw [heq, D0.out, D1.out, witOf, if_neg g0, if_neg g1, if_neg (fun h => h s0), if_pos t0, bs_append, bs_one, List.append_assoc, List.singleton_append]
              clear heq
              go_wp2_with (first
                | (at_builtin; refine wpList_built rfl _ _ rfl _ _ t rfl hb rfl (by omega) hsz1 ?_; intro v' w1 hb1)
                | go_in)
              go_roundw
              case rel => exact ⟨k + 1, zs ++ [t], by omega, by omega, by go_num, hb1, by rw [List.length_append, HZ.out]; rfl, HE.out⟩
              case measure => simp [intOf]; omega
          · have s0' : (s.toList == [42]) = false := by simpa using s0
            have HE : Hid (witOf (bs xs) (bs ys) = bs (zs ++ [s]) ++ witOf ((bs xs).drop (k+1)) ((bs ys).drop (k+1))) := by
              show _ = _
              rw [heq, D0.out, D1.out, witOf, if_neg g0, if_neg g1, if_pos s0, bs_append, bs_one, List.append_assoc, List.singleton_append]
            clear heq
            go_wp2_with (first
              | (at_builtin; refine wpList_built rfl _ _ rfl _ _ s rfl hb rfl (by omega) hsz0 ?_; intro v' w1 hb1)
              | go_in)
            go_roundw
            case rel => exact ⟨k + 1, zs ++ [s], by omega, by omega, by go_num, hb1, by rw [List.length_append, HZ.out]; rfl, HE.out⟩
            case measure => simp [intOf]; omega
    · have HE : Hid (witOf (bs xs) (bs ys) = bs zs) := by
        show _ = _
        by_cases hlt0 : k < l0
        · have d1 := drop_end ys k (by rw [h1.1]; exact fun h => hlt ⟨hlt0, h⟩)
          have d0 := bs_drop_at xs k (by rw [h0.1]; exact hlt0)
          rw [heq, d1, d0, witOf, List.append_nil]
        · have d0 := drop_end xs k (by rw [h0.1]; exact hlt0)
          rw [heq, d0, witOf, List.append_nil]
      clear heq
      by_cases hlt0 : k < l0
      · have hlt1 : ¬ k < l1 := fun h => hlt ⟨hlt0, h⟩
        clear hlt
        go_wp2
        go_ret
        exact ⟨_, zs, rfl, hb, HE.out.symm, by omega⟩
      · clear hlt
        go_wp2
        go_ret
        exact ⟨_, zs, rfl, hb, HE.out.symm, by omega⟩

end Go.Proofs.Qxb6602186aMods
