/-
  A map[string]bool OF THE CALL's OWN THAT HOLDS 'true' AT EACH OF ITS KEYS, TOLD BY THE LIST OF ITS KEYS: made, stored into, looked up, struck, counted: a law for each at the operation. Own text, over the kit's 'ownsMap'.
-/
import Derived.Test.Qxb6602186aModsBase
import Derived.Test.Qxb6602186aModsDifPlain
import Derived.Maps.OwnSet
namespace Go.Proofs.Qxb6602186aMods
open Go.RowKit Go.Maps Go.WideMaps

theorem law9 : Keyed Trym.prog 9 := string_keyed Trym.underlying9
theorem zero4 (w : World) : (zeroValue 4).run Trym.prog w = .ok (.bool false) w := by kernel_rfl

/-- Block b of w is a map[string]bool of at most n entries; its keys are S, once each, each with 'true'. -/
def SetAt (w : World) (b n : Nat) (S : List (List UInt8)) : Prop :=
  ∃ D : DataW Unit, w.ownsMap Trym.prog 9 (plainElem Trym.prog 4) b n D ∧ (∀ x, D.atKey (.string x) (.lit (.bool false)) = .lit (.bool (decide (x ∈ S)))) ∧
    (∀ x, Maps.has D (.string x) = decide (x ∈ S)) ∧ Maps.size D = S.length

theorem setAt_made (w : World) : SetAt (w.alloc (.map #[] 0)) w.heap.size 0 [] :=
  ⟨.map [], World.ownsMap_made _ _ _ _, fun x => by simp [DataW.atKey], fun x => by simp [Maps.has], rfl⟩

theorem SetAt.lt {w : World} {b n : Nat} {S : List (List UInt8)} (h : SetAt w b n S) : b < w.heap.size := by
  obtain ⟨D, ho, _⟩ := h
  exact ho.lt

theorem run_makeMap_hint (w : World) (k : IntKind) (n : Int) : (Instr.makeMap 34 (some (.int k n))).run Trym.prog w = .ok (.map (some w.heap.size)) (w.alloc (.map #[] 0)) := by
  have hu : Trym.prog.underlying 34 = some (.map 9 4) := Trym.underlying34
  simp [Instr.makeMap, run_underlying hu, asInt, asIntOf, Result.andThen]

theorem key_of {s : ByteArray} (hs : s.size ≤ maxLen) : keyOf Trym.prog 9 (.string s) = some (.string s.toList) := by
  rw [ByteArray.toList_eq]
  exact keyOf_string_mk Trym.underlying9 hs

theorem plainElem_bool_inv {v : Value} {z : DataW Unit × List MemPlace} (h : plainElem Trym.prog 4 v = some z) : ∃ c, v = .bool c ∧ z = (.lit (.bool c), []) := by
  have he := Trym.underlying4
  unfold plainElem at h
  rw [he] at h
  cases v <;> simp at h
  exact ⟨_, rfl, h.symm⟩

theorem SetAt.look {w : World} {b n : Nat} {S : List (List UInt8)} (h : SetAt w b n S) {s : ByteArray} (hs : s.size ≤ maxLen) :
    (Instr.lookup 34 (.map (some b)) (.string s) false).run Trym.prog w = .ok (.bool (decide (s.toList ∈ S))) w := by
  obtain ⟨D, ho, ha, _⟩ := h
  obtain ⟨v, ps, hrun, hv⟩ := ho.lookup law9 Trym.underlying34 (zero4 w) (plainElem_bool Trym.underlying4 false) (key_of hs)
  obtain ⟨c, rfl, hc⟩ := plainElem_bool_inv hv
  rw [ha] at hc
  simp only [Prod.mk.injEq, DataW.lit.injEq, Lit.bool.injEq] at hc
  rw [hrun, hc.1]

theorem SetAt.put {w : World} {b n : Nat} {S : List (List UInt8)} (h : SetAt w b n S) {s : ByteArray} (hs : s.size ≤ maxLen) (hn : n < maxLen) :
    ∃ w', (Instr.mapUpdate 34 (.map (some b)) (.string s) (.bool true)).run Trym.prog w = .ok () w' ∧ SetAt w' b (n + 1) (if s.toList ∈ S then S else S ++ [s.toList]) ∧ w.grownBy w' (some b) := by
  obtain ⟨D, ho, ha, hh, hsz⟩ := h
  obtain ⟨w', hrun, ho', hg⟩ := ho.update law9 Trym.underlying34 hn (key_of hs) (plainElem_bool Trym.underlying4 true)
  have hm := ho.isMap
  have ht := ho.tidy law9
  refine ⟨w', hrun, ⟨_, ho', fun x => ?_, fun x => ?_, ?_⟩, hg⟩
  · by_cases e : x = s.toList
    · subst e
      rw [atKey_put_same hm (by trivial)]
      by_cases hx : s.toList ∈ S <;> simp [hx]
    · rw [atKey_put_other (by simpa using e), ha]
      by_cases hx : s.toList ∈ S <;> simp [hx, e]
  · by_cases e : x = s.toList
    · subst e
      rw [has_put_same hm (by trivial)]
      by_cases hx : s.toList ∈ S <;> simp [hx]
    · rw [has_put_other (by simpa using e), hh]
      by_cases hx : s.toList ∈ S <;> simp [hx, e]
  · rw [size_put ht, hh]
    by_cases hx : s.toList ∈ S <;> simp [hx, hsz]

theorem SetAt.drop {w : World} {b n : Nat} {S : List (List UInt8)} (h : SetAt w b n S) {s : ByteArray} (hs : s.size ≤ maxLen) (hn : S.Nodup) (ty : TypeId) :
    ∃ w', (Builtin.delete_ #[34, 9] ty #[.map (some b), .string s]).run Trym.prog w = .ok (.tuple #[]) w' ∧ SetAt w' b n (S.filter (fun x => decide (x ≠ s.toList))) ∧ w.grownBy w' (some b) := by
  obtain ⟨D, ho, ha, hh, hsz⟩ := h
  obtain ⟨w', hrun, ho', hg⟩ := ho.drop law9 Trym.underlying34 (key_of hs) ty
  have ht := ho.tidy law9
  refine ⟨w', hrun, ⟨_, ho', fun x => ?_, fun x => ?_, ?_⟩, hg.grown⟩
  · by_cases e : x = s.toList
    · subst e
      rw [atKey_del_same]
      simp
    · rw [atKey_del_other (by simpa using e), ha]
      simp [e]
  · by_cases e : x = s.toList
    · subst e
      rw [has_del_same]
      simp
    · rw [has_del_other (by simpa using e), hh]
      simp [e]
  · have h1 := size_del (k := .string s.toList) ht
    rw [hh, hsz] at h1
    by_cases hx : s.toList ∈ S
    · have h2 := Dif.length_strike S s.toList hn hx
      simp only [hx, decide_true, if_true] at h1
      omega
    · rw [List.filter_eq_self.2 (fun x hx' => by simp; intro e; exact hx (e ▸ hx'))]
      simp only [hx, decide_false] at h1
      simpa using h1

theorem SetAt.len {w : World} {b n : Nat} {S : List (List UInt8)} (h : SetAt w b n S) (ty : TypeId) :
    (Builtin.len_ #[34] ty #[.map (some b)]).run Trym.prog w = .ok (.int .i64 S.length) w := by
  obtain ⟨D, ho, _, _, hsz⟩ := h
  rw [ho.len Trym.underlying34 ty, hsz]

section
variable (w : World) {ops : Array Oper} {rest : List Oper} {o : Oper} {a : Act} {Q : Exit → Act → World → Prop}

theorem wpList_set_look (hg : o.guard = none) (m x : Operand) (hop : o.op = Op.lookup 34 m x false) (b n : Nat) (S : List (List UInt8)) (hm : a.eval m = .map (some b)) (h : SetAt w b n S)
    (s : ByteArray) (hx : a.eval x = .string s) (hs : s.size ≤ maxLen) (hK : wpList Trym.prog ops Q rest (a.put o.dst (.bool (decide (s.toList ∈ S)))) w) :
    wpList Trym.prog ops Q (o :: rest) a w := by
  refine wpList_plain hg fun K' hK' => ?_
  unfold Oper.wp
  simp [execOp, hop, hm, hx, h.look hs, Result.andThen]
  exact hK' _ _ hK

theorem wpList_set_put (hg : o.guard = none) (m x v : Operand) (hop : o.op = Op.mapUpdate 34 m x v) (b n : Nat) (S : List (List UInt8)) (hm : a.eval m = .map (some b)) (h : SetAt w b n S)
    (s : ByteArray) (hx : a.eval x = .string s) (hv : a.eval v = .bool true) (hs : s.size ≤ maxLen) (hn : n < maxLen)
    (hK : ∀ w', SetAt w' b (n + 1) (if s.toList ∈ S then S else S ++ [s.toList]) → w.grownBy w' (some b) → wpList Trym.prog ops Q rest (a.put o.dst undef) w') :
    wpList Trym.prog ops Q (o :: rest) a w := by
  refine wpList_plain hg fun K' hK' => ?_
  obtain ⟨w', hrun, r1, r2⟩ := h.put hs hn
  unfold Oper.wp
  simp [execOp, hop, hm, hx, hv, hrun, Result.andThen]
  exact hK' _ _ (hK w' r1 r2)

theorem wpList_set_drop (hg : o.guard = none) (m x : Operand) (hop : o.op = Op.call { callee := Callee.builtin Builtin.delete, args := #[m, x], argTypes := #[34, 9] }) (b n : Nat) (S : List (List UInt8)) (hm : a.eval m = .map (some b)) (h : SetAt w b n S)
    (s : ByteArray) (hx : a.eval x = .string s) (hs : s.size ≤ maxLen) (hn : S.Nodup)
    (hK : ∀ w', SetAt w' b n (S.filter (fun x => decide (x ≠ s.toList))) → w.grownBy w' (some b) → wpList Trym.prog ops Q rest (a.put o.dst (.tuple #[])) w') :
    wpList Trym.prog ops Q (o :: rest) a w := by
  refine wpList_plain hg fun K' hK' => ?_
  obtain ⟨w', hrun, r1, r2⟩ := h.drop hs hn o.type
  unfold Oper.wp
  simp [execOp, hop, resolve, invoke, builtin, hm, hx, hrun, Result.andThen]
  exact hK' _ _ (hK w' r1 r2)

theorem wpList_set_len (hg : o.guard = none) (m : Operand) (hop : o.op = Op.call { callee := Callee.builtin Builtin.len, args := #[m], argTypes := #[34] }) (b n : Nat) (S : List (List UInt8)) (hm : a.eval m = .map (some b)) (h : SetAt w b n S)
    (hK : wpList Trym.prog ops Q rest (a.put o.dst (.int .i64 S.length)) w) :
    wpList Trym.prog ops Q (o :: rest) a w := by
  refine wpList_plain hg fun K' hK' => ?_
  unfold Oper.wp
  simp [execOp, hop, resolve, invoke, builtin, hm, h.len o.type, Result.andThen]
  exact hK' _ _ hK
end

end Go.Proofs.Qxb6602186aMods
