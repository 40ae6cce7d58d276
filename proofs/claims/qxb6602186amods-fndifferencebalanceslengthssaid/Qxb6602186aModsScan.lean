/-
  hasTok, repeatsEarlier, allDistinct: their walks. Own text.
-/
import Derived.Test.Qxb6602186aModsBase
namespace Go.Proofs.Qxb6602186aMods
open Go.RowKit

set_option maxHeartbeats 400000 in
theorem has_any (a : Option Addr) (len cap : Nat) (xs : List ByteArray) (s : ByteArray) (w : World) (h : IsStrs w a len cap xs) :
    Calls Trym.prog 13 #[.slice a len cap, .string s] w fun e w' => e = .returned (.bool (decide (s.toList ∈ bs xs))) ∧ w = w' := by
  have hbd := h.bound
  go_enter Trym.func13, Trym.ntmps13
  go_wp2
  go_loop [5] (fun i => ∃ k : Nat, k ≤ len ∧ i = .int .i64 k ∧ s.toList ∉ (bs xs).take k) (fun i => len - (intOf i).toNat)
  case atStart => exact ⟨0, Nat.zero_le _, rfl, by simp⟩
  case round =>
    obtain ⟨k, hk, rfl, hno⟩ := hrel
    have HN : Hid (s.toList ∉ (bs xs).take k) := hno
    clear hno
    by_cases hlt : k < len
    · obtain ⟨b, off, rfl, hc⟩ := h.row (by omega)
      have hck := hc k hlt
      have hsucc := bs_take_succ xs k (by rw [h.1]; exact hlt)
      clear hc
      generalize xs.getD k ByteArray.empty = t at *
      have HS : Hid ((bs xs).take (k + 1) = (bs xs).take k ++ [t.toList]) := hsucc
      clear hsucc
      by_cases e : t.toList = s.toList
      · have e' : (t.toList == s.toList) = true := by simpa using e
        have hin : decide (s.toList ∈ bs xs) = true := by
          rw [decide_eq_true_iff]
          refine List.mem_of_mem_take (i := k + 1) ?_
          rw [HS.out, e]
          simp
        go_wp2
        go_ret
        exact ⟨rfl, rfl⟩
      · have e' : (t.toList == s.toList) = false := by simpa using e
        go_wp2
        go_round
        case rel => exact ⟨k + 1, by omega, by go_num, by rw [HS.out]; simp only [List.mem_append, List.mem_singleton, not_or]; exact ⟨HN.out, fun h => e h.symm⟩⟩
        case measure => simp [intOf]; omega
    · have he : k = len := by omega
      subst he
      have hout : decide (s.toList ∈ bs xs) = false := by
        rw [decide_eq_false_iff_not]
        have := HN.out
        rwa [List.take_of_length_le (by rw [bs_length, h.1]; exact Nat.le_refl _)] at this
      go_wp2
      go_ret
      exact ⟨rfl, rfl⟩

set_option maxHeartbeats 400000 in
theorem rep_any (a : Option Addr) (len cap : Nat) (xs : List ByteArray) (j : Nat) (w : World) (h : IsStrs w a len cap xs) (hj : j < len) :
    Calls Trym.prog 14 #[.slice a len cap, .int .i64 j] w fun e w' => e = .returned (.bool (decide ((xs.getD j ByteArray.empty).toList ∈ (bs xs).take j))) ∧ ∃ n, w' = w.drewN n := by
  have hbd := h.bound
  obtain ⟨b, off, rfl, hc⟩ := h.row (by omega)
  have hcj := hc j hj
  generalize hsj : xs.getD j ByteArray.empty = s at *
  clear hsj
  go_enter Trym.func14, Trym.ntmps14
  go_wp2
  go_loopw [5] (fun i wr => ∃ k nq : Nat, k ≤ j ∧ i = .int .i64 k ∧ wr = w.drewN nq ∧ s.toList ∉ (bs xs).take k) (fun i _ => j - (intOf i).toNat)
  case atStart => exact ⟨0, 0, Nat.zero_le _, rfl, rfl, by simp⟩
  case round =>
    obtain ⟨k, nq, hk, rfl, rfl, hno⟩ := hrel
    have HN : Hid (s.toList ∉ (bs xs).take k) := hno
    clear hno
    by_cases hlt : k < j
    · have hck := hc k (by omega)
      have hsucc := bs_take_succ xs k (by rw [h.1]; omega)
      clear hc
      generalize xs.getD k ByteArray.empty = t at *
      have HS : Hid ((bs xs).take (k + 1) = (bs xs).take k ++ [t.toList]) := hsucc
      clear hsucc
      by_cases e : t.toList = s.toList
      · have e' : (t.toList == s.toList) = true := by simpa using e
        have hin : decide (s.toList ∈ (bs xs).take j) = true := by
          rw [decide_eq_true_iff]
          have h1 : s.toList ∈ (bs xs).take (k + 1) := by rw [HS.out, e]; simp
          have h2 : (bs xs).take (k + 1) = ((bs xs).take j).take (k + 1) := by rw [List.take_take]; congr 1; omega
          rw [h2] at h1
          exact List.mem_of_mem_take h1
        go_wp2
        go_quiet (fail)
        go_wp2
        go_ret
        exact ⟨ret_bool hin.symm, _, World.drewN_drewN _ _ _⟩
      · have e' : (t.toList == s.toList) = false := by simpa using e
        go_wp2
        go_quiet (fail)
        go_wp2
        go_roundw
        case rel => exact ⟨k + 1, _, by omega, by go_num, rfl, by rw [HS.out]; simp only [List.mem_append, List.mem_singleton, not_or]; exact ⟨HN.out, fun h => e h.symm⟩⟩
        case measure => simp [intOf]; omega
    · have he : k = j := by omega
      subst he
      have hout : decide (s.toList ∈ (bs xs).take k) = false := by
        rw [decide_eq_false_iff_not]
        exact HN.out
      clear hc
      go_wp2
      go_ret
      exact ⟨ret_bool hout.symm, _, rfl⟩

/-- A bool that says 'yes' only of a list without repeats. -/
def DistBool (e : Ending) (xs : List ByteArray) : Prop := ∃ r : Bool, e = .returned (.bool r) ∧ (r = true → (bs xs).Nodup)

theorem nodup_snoc {l : List (List UInt8)} {x : List UInt8} (h : l.Nodup) (hx : x ∉ l) : (l ++ [x]).Nodup := by
  rw [List.nodup_append]
  refine ⟨h, by simp, ?_⟩
  intro a ha b hb e
  simp at hb
  subst hb
  subst e
  exact hx ha

theorem nodup_take_one (l : List (List UInt8)) : (l.take 1).Nodup := by
  cases l with
  | nil => simp
  | cons a l => simp

set_option maxHeartbeats 400000 in
theorem dist_any (a : Option Addr) (len cap : Nat) (xs : List ByteArray) (w : World) (h : IsStrs w a len cap xs) :
    Calls Trym.prog 17 #[.slice a len cap] w fun e w' => DistBool e xs ∧ ∃ n, w' = w.drewN n := by
  have hbd := h.bound
  go_enter Trym.func17, Trym.ntmps17
  go_wp2
  go_loopw [3] (fun i wr => ∃ k nq : Nat, 1 ≤ k ∧ (k ≤ len ∨ k = 1) ∧ i = .int .i64 k ∧ wr = w.drewN nq ∧ ((bs xs).take k).Nodup) (fun i _ => len - (intOf i).toNat)
  case atStart => exact ⟨1, 0, by omega, by omega, rfl, rfl, nodup_take_one _⟩
  case round =>
    obtain ⟨k, nq, hk1, hk, rfl, rfl, hno⟩ := hrel
    have HN : Hid (((bs xs).take k).Nodup) := hno
    clear hno
    by_cases hlt : k < len
    · have hsucc := bs_take_succ xs k (by rw [h.1]; exact hlt)
      have HS : Hid ((bs xs).take (k + 1) = (bs xs).take k ++ [(xs.getD k ByteArray.empty).toList]) := hsucc
      clear hsucc
      go_wp2_with fail
      refine (rep_any _ _ _ _ k _ (h.drewN nq) hlt).mono ?_
      rintro e w1 ⟨rfl, m, rfl⟩
      by_cases hm : (xs.getD k ByteArray.empty).toList ∈ (bs xs).take k
      · have hd : decide ((xs.getD k ByteArray.empty).toList ∈ (bs xs).take k) = true := by simpa using hm
        rw [hd]
        go_wp2
        go_ret
        exact ⟨⟨_, rfl, fun h => by cases h⟩, _, rfl⟩
      · have hd : decide ((xs.getD k ByteArray.empty).toList ∈ (bs xs).take k) = false := by simpa using hm
        rw [hd]
        go_wp2
        go_roundw
        case rel => exact ⟨k + 1, _, by omega, by omega, by go_num, rfl, by rw [HS.out]; exact nodup_snoc HN.out hm⟩
        case measure => simp [intOf]; omega
    · have hout : (bs xs).Nodup := by
        have := HN.out
        rwa [List.take_of_length_le (by rw [bs_length, h.1]; omega)] at this
      go_wp2
      go_ret
      exact ⟨⟨_, rfl, fun _ => hout⟩, _, rfl⟩

end Go.Proofs.Qxb6602186aMods
