/-
  subjectMatches: what it computes (plain), and its walk; ZZsubjectMatches; isLiteral. Own text.
-/
import Derived.Test.Qxb6602186aModsBase
namespace Go.Proofs.Qxb6602186aMods
open Go.RowKit

/-- What subjectMatches answers, on lists of byte lists. -/
def smatch : List (List UInt8) → List (List UInt8) → Bool
  | [], [] => true
  | [], _ :: _ => false
  | _ :: _, [] => false
  | t :: f, x :: s => if t = [62] then true else if t = [42] ∨ t = x then smatch f s else false

theorem smatch_at (xs ys : List ByteArray) (k : Nat) (h0 : k < xs.length) (h1 : k < ys.length) :
    smatch ((bs xs).drop k) ((bs ys).drop k) = if (xs.getD k ByteArray.empty).toList = [62] then true else if (xs.getD k ByteArray.empty).toList = [42] ∨ (xs.getD k ByteArray.empty).toList = (ys.getD k ByteArray.empty).toList then smatch ((bs xs).drop (k+1)) ((bs ys).drop (k+1)) else false := by
  have e0 : (bs xs).drop k = (xs.getD k ByteArray.empty).toList :: (bs xs).drop (k+1) := by
    rw [List.drop_eq_getElem_cons (by simpa [bs] using h0)]
    simp [bs, List.getD, List.getElem?_eq_getElem h0]
  have e1 : (bs ys).drop k = (ys.getD k ByteArray.empty).toList :: (bs ys).drop (k+1) := by
    rw [List.drop_eq_getElem_cons (by simpa [bs] using h1)]
    simp [bs, List.getD, List.getElem?_eq_getElem h1]
  rw [e0, e1, smatch]

theorem smatch_end (xs ys : List ByteArray) (k : Nat) (hk0 : k ≤ xs.length) (hk1 : k ≤ ys.length) (h : ¬ k < xs.length ∨ ¬ k < ys.length) :
    smatch ((bs xs).drop k) ((bs ys).drop k) = decide (xs.length = ys.length) := by
  have l0 : ((bs xs).drop k).length = xs.length - k := by simp [bs]
  have l1 : ((bs ys).drop k).length = ys.length - k := by simp [bs]
  generalize (bs xs).drop k = p at *
  generalize (bs ys).drop k = q at *
  cases p with
  | nil => cases q with
    | nil => simp at l0 l1; simp [smatch]; omega
    | cons y q => simp at l0 l1; simp [smatch]; omega
  | cons x p => cases q with
    | nil => simp at l0 l1; simp [smatch]; omega
    | cons y q => simp at l0 l1; omega

theorem eqB {x : Bool} {l0 l1 : Nat} (h : x = decide (l0 = l1)) : ((l0 : Int) == (l1 : Int)) = x := by
  rw [h, Bool.eq_iff_iff]; simp; omega

set_option maxHeartbeats 400000 in
theorem sm_any (a0 a1 : Option Addr) (l0 c0 l1 c1 : Nat) (xs ys : List ByteArray) (w : World) (h0 : IsStrs w a0 l0 c0 xs) (h1 : IsStrs w a1 l1 c1 ys) :
    Calls Trym.prog 28 #[.slice a0 l0 c0, .slice a1 l1 c1] w fun e w' => e = .returned (.bool (smatch (bs xs) (bs ys))) ∧ w = w' := by
  have hbd0 := h0.bound
  have hbd1 := h1.bound
  go_enter Trym.func28, Trym.ntmps28
  go_wp2
  go_loop [9] (fun i => ∃ (k : Nat), k ≤ l0 ∧ k ≤ l1 ∧ i = .int .i64 k ∧ smatch (bs xs) (bs ys) = smatch ((bs xs).drop k) ((bs ys).drop k)) (fun i => l0 - (intOf i).toNat)
  case atStart => exact ⟨0, Nat.zero_le _, Nat.zero_le _, rfl, rfl⟩
  case round =>
    obtain ⟨k, hk0, hk1, rfl, hsm⟩ := hrel
    by_cases hlt0 : k < l0
    · obtain ⟨b0, off0, rfl, hc0⟩ := h0.row (by omega)
      have hck0 := hc0 k hlt0
      clear hc0
      by_cases hlt1 : k < l1
      · have hat := smatch_at xs ys k (by rw [h0.1]; exact hlt0) (by rw [h1.1]; exact hlt1)
        obtain ⟨b1, off1, rfl, hc1⟩ := h1.row (by omega)
        have hck1 := hc1 k hlt1
        rw [hat] at hsm
        clear hc1 hat
        generalize xs.getD k ByteArray.empty = s at *
        generalize ys.getD k ByteArray.empty = t at *
        by_cases g0 : s.toList = [62]
        · rw [if_pos g0] at hsm
          have HO : Hid (smatch (bs xs) (bs ys) = true) := hsm
          clear hsm
          go_wp2
          go_ret
          exact ⟨ret_bool HO.out.symm, rfl⟩
        · rw [if_neg g0] at hsm
          have g0' : (s.toList == [62]) = false := by simpa using g0
          by_cases s0 : s.toList = [42]
          · rw [if_pos (Or.inl s0)] at hsm
            have HO : Hid (smatch (bs xs) (bs ys) = smatch ((bs xs).drop (k+1)) ((bs ys).drop (k+1))) := hsm
            clear hsm
            go_wp2
            go_round
            case rel => exact ⟨k + 1, by omega, by omega, by go_num, HO.out⟩
            case measure => simp [intOf]; omega
          · have s0' : (s.toList == [42]) = false := by simpa using s0
            by_cases e0 : s.toList = t.toList
            · rw [if_pos (Or.inr e0)] at hsm
              have HO : Hid (smatch (bs xs) (bs ys) = smatch ((bs xs).drop (k+1)) ((bs ys).drop (k+1))) := hsm
              have e0' : (s.toList == t.toList) = true := by simpa using e0
              clear hsm e0
              go_wp2
              go_round
              case rel => exact ⟨k + 1, by omega, by omega, by go_num, HO.out⟩
              case measure => simp [intOf]; omega
            · rw [if_neg (by intro h; rcases h with h | h; exact s0 h; exact e0 h)] at hsm
              have HO : Hid (smatch (bs xs) (bs ys) = false) := hsm
              have e0' : (s.toList == t.toList) = false := by simpa using e0
              clear hsm
              go_wp2
              go_ret
              exact ⟨ret_bool HO.out.symm, rfl⟩
      · have hend := smatch_end xs ys k (by rw [h0.1]; exact hk0) (by rw [h1.1]; exact hk1) (by rw [h0.1, h1.1]; omega)
        have HO : Hid (smatch (bs xs) (bs ys) = false) := by
          show _ = _
          rw [hsm, hend, h0.1, h1.1]
          simp
          omega
        clear hend hsm
        generalize xs.getD k ByteArray.empty = s at *
        by_cases g0 : s.toList = [62]
        · go_wp2
          go_ret
          exact ⟨ret_bool HO.out.symm, rfl⟩
        · have g0' : (s.toList == [62]) = false := by simpa using g0
          go_wp2
          go_ret
          exact ⟨ret_bool HO.out.symm, rfl⟩
    · have hend := smatch_end xs ys k (by rw [h0.1]; exact hk0) (by rw [h1.1]; exact hk1) (by rw [h0.1, h1.1]; omega)
      rw [h0.1, h1.1] at hend
      have HO : Hid (smatch (bs xs) (bs ys) = decide (l0 = l1)) := hsm.trans hend
      clear hend hsm
      go_wp2
      go_ret
      exact ⟨ret_bool (eqB HO.out), rfl⟩

set_option maxHeartbeats 400000 in
theorem zzsm_any (a0 a1 : Option Addr) (l0 c0 l1 c1 : Nat) (xs ys : List ByteArray) (w : World) (h0 : IsStrs w a0 l0 c0 xs) (h1 : IsStrs w a1 l1 c1 ys) :
    Calls Trym.prog 21 #[.slice a0 l0 c0, .slice a1 l1 c1] w fun e w' => e = .returned (.bool (smatch (bs xs) (bs ys))) ∧ w = w' := by
  go_enter Trym.func21, Trym.ntmps21
  go_wp2_with (go_at_call 28; refine (sm_any _ _ _ _ _ _ _ _ _ h0 h1).mono ?_; rintro e w' ⟨rfl, rfl⟩)
  go_ret
  exact ⟨rfl, rfl⟩

/-- A bool that says 'yes' only of a list without a wildcard. -/
def LitBool (e : Ending) (xs : List ByteArray) : Prop := ∃ r : Bool, e = .returned (.bool r) ∧ (r = true → ∀ x ∈ bs xs, x ≠ [42] ∧ x ≠ [62])

set_option maxHeartbeats 400000 in
theorem lit_any (a : Option Addr) (len cap : Nat) (xs : List ByteArray) (w : World) (h : IsStrs w a len cap xs) :
    Calls Trym.prog 20 #[.slice a len cap] w fun e w' => LitBool e xs ∧ w = w' := by
  have hbd := h.bound
  go_enter Trym.func20, Trym.ntmps20
  go_wp2
  go_loop [3] (fun i => ∃ k : Nat, k ≤ len ∧ i = .int .i64 k ∧ ∀ x ∈ (bs xs).take k, x ≠ [42] ∧ x ≠ [62]) (fun i => len - (intOf i).toNat)
  case atStart => exact ⟨0, Nat.zero_le _, rfl, by simp⟩
  case round =>
    obtain ⟨k, hk, rfl, hno⟩ := hrel
    have HN : Hid (∀ x ∈ (bs xs).take k, x ≠ [42] ∧ x ≠ [62]) := hno
    clear hno
    by_cases hlt : k < len
    · obtain ⟨b, off, rfl, hc⟩ := h.row (by omega)
      have hck := hc k hlt
      have hsucc := bs_take_succ xs k (by rw [h.1]; exact hlt)
      clear hc
      generalize xs.getD k ByteArray.empty = t at *
      have HS : Hid ((bs xs).take (k + 1) = (bs xs).take k ++ [t.toList]) := hsucc
      clear hsucc
      by_cases s0 : t.toList = [42]
      · go_wp2
        go_ret
        exact ⟨⟨_, rfl, fun h => by cases h⟩, rfl⟩
      · have s0' : (t.toList == [42]) = false := by simpa using s0
        by_cases g0 : t.toList = [62]
        · go_wp2
          go_ret
          exact ⟨⟨_, rfl, fun h => by cases h⟩, rfl⟩
        · have g0' : (t.toList == [62]) = false := by simpa using g0
          go_wp2
          go_round
          case rel =>
            refine ⟨k + 1, by omega, by go_num, ?_⟩
            rw [HS.out]
            intro x hx
            rcases List.mem_append.1 hx with hx | hx
            · exact HN.out x hx
            · simp at hx
              subst hx
              exact ⟨s0, g0⟩
          case measure => simp [intOf]; omega
    · have hout : Hid (∀ x ∈ bs xs, x ≠ [42] ∧ x ≠ [62]) := by
        have := HN.out
        rwa [List.take_of_length_le (by rw [bs_length, h.1]; omega)] at this
      go_wp2
      go_ret
      exact ⟨⟨_, rfl, fun _ => hout.out⟩, rfl⟩

end Go.Proofs.Qxb6602186aMods
