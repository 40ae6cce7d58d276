/-
  filtersOverlap: what it computes (plain), and its walk; ZZfiltersOverlap. Own text.
-/
import Derived.Test.Qxb6602186aModsBase
namespace Go.Proofs.Qxb6602186aMods
open Go.RowKit

/-- One step of the loop: some true: ends with true; some false: ends with false; none: goes on. -/
def ovStep (s t : List UInt8) : Option Bool :=
  if (s == [62]) || (t == [62]) then some true else if (s == [42]) || (t == [42]) || (s == t) then none else some false

def overlap : List (List UInt8) → List (List UInt8) → Bool
  | [], [] => true
  | [], _ :: _ => false
  | _ :: _, [] => false
  | s :: ss, t :: ts => match ovStep s t with | some r => r | none => overlap ss ts

theorem overlap_at (xs ys : List ByteArray) (k : Nat) (h0 : k < xs.length) (h1 : k < ys.length) :
    overlap ((bs xs).drop k) ((bs ys).drop k) = match ovStep (xs.getD k ByteArray.empty).toList (ys.getD k ByteArray.empty).toList with | some r => r | none => overlap ((bs xs).drop (k+1)) ((bs ys).drop (k+1)) := by
  have e0 : (bs xs).drop k = (xs.getD k ByteArray.empty).toList :: (bs xs).drop (k+1) := by
    rw [List.drop_eq_getElem_cons (by simpa [bs] using h0)]
    simp [bs, List.getD, List.getElem?_eq_getElem h0]
  have e1 : (bs ys).drop k = (ys.getD k ByteArray.empty).toList :: (bs ys).drop (k+1) := by
    rw [List.drop_eq_getElem_cons (by simpa [bs] using h1)]
    simp [bs, List.getD, List.getElem?_eq_getElem h1]
  rw [e0, e1, overlap]

theorem overlap_end (xs ys : List ByteArray) (k : Nat) (hk0 : k ≤ xs.length) (hk1 : k ≤ ys.length) (h : ¬ k < xs.length ∨ ¬ k < ys.length) :
    overlap ((bs xs).drop k) ((bs ys).drop k) = decide (xs.length = ys.length) := by
  have l0 : ((bs xs).drop k).length = xs.length - k := by simp [bs]
  have l1 : ((bs ys).drop k).length = ys.length - k := by simp [bs]
  generalize (bs xs).drop k = p at *
  generalize (bs ys).drop k = q at *
  cases p with
  | nil => cases q with
    | nil => simp at l0 l1; simp [overlap]; omega
    | cons y q => simp at l0 l1; simp [overlap]; omega
  | cons x p => cases q with
    | nil => simp at l0 l1; simp [overlap]; omega
    | cons y q => simp at l0 l1; omega

theorem step_gt0 {s t : List UInt8} (h : s = [62]) : ovStep s t = some true := by simp [ovStep, h]
theorem step_gt1 {s t : List UInt8} (h : t = [62]) : ovStep s t = some true := by simp [ovStep, h]
theorem step_go {s t : List UInt8} (h0 : ¬ s = [62]) (h1 : ¬ t = [62]) (h : s = [42] ∨ t = [42] ∨ s = t) : ovStep s t = none := by
  have : (s == [42] || t == [42] || s == t) = true := by simp; exact or_assoc.mpr h
  simp [ovStep, h0, h1, this]
theorem step_no {s t : List UInt8} (h0 : ¬ s = [62]) (h1 : ¬ t = [62]) (h2 : ¬ s = [42]) (h3 : ¬ t = [42]) (h4 : ¬ s = t) : ovStep s t = some false := by
  simp [ovStep, h0, h1, h2, h3, h4]

theorem eq_dec {x : Bool} {l0 l1 : Nat} (h : x = decide (l0 = l1)) : ((l0 : Int) == (l1 : Int)) = x := by
  rw [h, Bool.eq_iff_iff]; simp; omega

set_option maxHeartbeats 400000 in
theorem ov_any (a0 a1 : Option Addr) (l0 c0 l1 c1 : Nat) (xs ys : List ByteArray) (w : World) (h0 : IsStrs w a0 l0 c0 xs) (h1 : IsStrs w a1 l1 c1 ys) :
    Calls Trym.prog 29 #[.slice a0 l0 c0, .slice a1 l1 c1] w fun e w' => e = .returned (.bool (overlap (bs xs) (bs ys))) ∧ ∃ n, w' = w.drewN n := by
  have hbd0 := h0.bound
  have hbd1 := h1.bound
  go_enter Trym.func29, Trym.ntmps29
  go_wp2
  go_loopw [5] (fun i wr => ∃ (k nq : Nat), k ≤ l0 ∧ k ≤ l1 ∧ i = .int .i64 k ∧ wr = w.drewN nq ∧ overlap (bs xs) (bs ys) = overlap ((bs xs).drop k) ((bs ys).drop k)) (fun i _ => l0 - (intOf i).toNat)
  case atStart => exact ⟨0, 0, Nat.zero_le _, Nat.zero_le _, rfl, rfl, rfl⟩
  case round =>
    obtain ⟨k, nq, hk0, hk1, rfl, rfl, hov⟩ := hrel
    by_cases hlt : k < l0 ∧ k < l1
    · obtain ⟨hlt0, hlt1⟩ := hlt
      have hat := overlap_at xs ys k (by rw [h0.1]; exact hlt0) (by rw [h1.1]; exact hlt1)
      obtain ⟨b0, off0, rfl, hc0⟩ := h0.row (by omega)
      obtain ⟨b1, off1, rfl, hc1⟩ := h1.row (by omega)
      have hck0 := hc0 k hlt0
      have hck1 := hc1 k hlt1
      rw [hat] at hov
      clear hc0 hc1 hat
      generalize xs.getD k ByteArray.empty = s at *
      generalize ys.getD k ByteArray.empty = t at *
      have HO : Hid (overlap (bs xs) (bs ys) = match ovStep s.toList t.toList with | some r => r | none => overlap ((bs xs).drop (k+1)) ((bs ys).drop (k+1))) := hov
      clear hov
      by_cases g0 : s.toList = [62]
      · go_wp2
        go_ret
        exact ⟨ret_bool (by rw [HO.out, step_gt0 g0]), _, rfl⟩
      · have g0' : (s.toList == [62]) = false := by simpa using g0
        by_cases g1 : t.toList = [62]
        · go_wp2
          go_ret
          exact ⟨ret_bool (by rw [HO.out, step_gt1 g1]), _, rfl⟩
        · have g1' : (t.toList == [62]) = false := by simpa using g1
          by_cases hgo : s.toList = [42] ∨ t.toList = [42] ∨ s.toList = t.toList
          · have HE : Hid (overlap (bs xs) (bs ys) = overlap ((bs xs).drop (k+1)) ((bs ys).drop (k+1))) := by show _ = _; rw [HO.out, step_go g0 g1 hgo]
            clear HO
            by_cases s0 : s.toList = [42]
            · have S0 : (s.toList == [42]) = true := by simpa using s0
              clear hgo
              go_wp2
              go_quiet (fail)
              go_wp2
              go_roundw
              case rel => exact ⟨k + 1, _, by omega, by omega, by go_num, rfl, HE.out⟩
              case measure => simp [intOf]; omega
            · have S0 : (s.toList == [42]) = false := by simpa using s0
              by_cases t0 : t.toList = [42]
              · have T0 : (t.toList == [42]) = true := by simpa using t0
                clear hgo
                go_wp2
                go_quiet (fail)
                go_wp2
                go_roundw
                case rel => exact ⟨k + 1, _, by omega, by omega, by go_num, rfl, HE.out⟩
                case measure => simp [intOf]; omega
              · have T0 : (t.toList == [42]) = false := by simpa using t0
                have E0 : (s.toList == t.toList) = true := by
                  rcases hgo with h | h | h
                  · exact absurd h s0
                  · exact absurd h t0
                  · simpa using h
                clear hgo
                go_wp2
                go_quiet (fail)
                go_wp2
                go_roundw
                case rel => exact ⟨k + 1, _, by omega, by omega, by go_num, rfl, HE.out⟩
                case measure => simp [intOf]; omega
          · have s0 : ¬ s.toList = [42] := fun h => hgo (.inl h)
            have t0 : ¬ t.toList = [42] := fun h => hgo (.inr (.inl h))
            have e0 : ¬ s.toList = t.toList := fun h => hgo (.inr (.inr h))
            have S0 : (s.toList == [42]) = false := by simpa using s0
            have T0 : (t.toList == [42]) = false := by simpa using t0
            have E0 : (s.toList == t.toList) = false := by simpa using e0
            have HE : Hid (overlap (bs xs) (bs ys) = false) := by show _ = _; rw [HO.out, step_no g0 g1 s0 t0 e0]
            clear HO hgo
            go_wp2
            go_quiet (fail)
            go_wp2
            go_ret
            exact ⟨ret_bool HE.out.symm, _, World.drewN_drewN _ _ _⟩
    · have hend := overlap_end xs ys k (by rw [h0.1]; exact hk0) (by rw [h1.1]; exact hk1) (by rw [h0.1, h1.1]; omega)
      rw [h0.1, h1.1] at hend
      have HO : Hid (overlap (bs xs) (bs ys) = decide (l0 = l1)) := hov.trans hend
      clear hov hend
      by_cases hlt0 : k < l0
      · have hlt1 : ¬ k < l1 := fun h => hlt ⟨hlt0, h⟩
        clear hlt
        go_wp2
        go_ret
        exact ⟨ret_bool (eq_dec HO.out), _, rfl⟩
      · clear hlt
        go_wp2
        go_ret
        exact ⟨ret_bool (eq_dec HO.out), _, rfl⟩

set_option maxHeartbeats 400000 in
theorem zzov_any (a0 a1 : Option Addr) (l0 c0 l1 c1 : Nat) (xs ys : List ByteArray) (w : World) (h0 : IsStrs w a0 l0 c0 xs) (h1 : IsStrs w a1 l1 c1 ys) :
    Calls Trym.prog 22 #[.slice a0 l0 c0, .slice a1 l1 c1] w fun e w' => e = .returned (.bool (overlap (bs xs) (bs ys))) ∧ ∃ n, w' = w.drewN n := by
  go_enter Trym.func22, Trym.ntmps22
  go_wp2_with (go_at_call 29; refine (ov_any _ _ _ _ _ _ _ _ _ h0 h1).mono ?_; rintro e w' ⟨rfl, n, rfl⟩)
  go_ret
  exact ⟨rfl, _, rfl⟩


end Go.Proofs.Qxb6602186aMods
