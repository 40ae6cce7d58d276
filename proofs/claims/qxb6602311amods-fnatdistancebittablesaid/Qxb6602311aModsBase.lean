/-
  THE BASE: a [32]byte as a value and in memory; whole-array loads and stores as laws at the operation. Own text.
-/
import Derived.Test.Qxb6602311aModsRows
import Derived.WalkKit
import Derived.WalkSpells
import Derived.WalkLawsBesides
import Derived.Deep.QuietTactic
import Derived.BigQuiet
import Derived.BigRegion
import Derived.WalkSmall
import Derived.Laws.CopyOwn
import Derived.Laws.BitsAllLaws
namespace Go.Proofs.Qxb6602311aMods
open Go.RowKit

/-- 'cs' is an array of 32 bytes, byte j being X j. -/
def IsArr (cs : Array Value) (X : Nat → Nat) : Prop := cs.size = 32 ∧ ∀ j, j < 32 → cs[j]? = some (.int .u8 (X j)) ∧ X j ≤ 255

/-- Block g of w holds the cells cs. -/
def Blk (w : World) (g : Nat) (cs : Array Value) (t : TypeId) : Prop := w.heap[g]? = some (.cells cs t (0, 0))

theorem IsArr.oneCell {cs : Array Value} {X : Nat → Nat} (h : IsArr cs X) : cs.all (·.oneCell') = true := by
  rw [Array.all_eq_true]
  intro i hi
  have h1 := (h.2 i (by rw [← h.1]; exact hi)).1
  rw [Array.getElem?_eq_getElem hi] at h1
  have h2 := Option.some.inj h1
  rw [h2]
  rfl

theorem IsArr.ext {cs ds : Array Value} {X : Nat → Nat} (h : IsArr cs X) (k : IsArr ds X) : cs = ds := by
  apply Array.ext_getElem?
  intro i
  by_cases hi : i < 32
  · rw [(h.2 i hi).1, (k.2 i hi).1]
  · rw [Array.getElem?_eq_none (by rw [h.1]; omega), Array.getElem?_eq_none (by rw [k.1]; omega)]

theorem Blk.cell {w : World} {g : Nat} {cs : Array Value} {t : TypeId} {X : Nat → Nat} (h : Blk w g cs t) (ha : IsArr cs X) {j : Nat} (hj : j < 32) : w.cell? ⟨g, j, none⟩ = some (.int .u8 (X j)) := by
  rw [cell_of_row w g j cs t (0, 0) h]
  exact (ha.2 j hj).1

theorem Blk.free {w : World} {g : Nat} {cs : Array Value} {t : TypeId} (h : Blk w g cs t) (j : Nat) : w.frozen? ⟨g, j, none⟩ = false := frozen_of_row w g j cs t h

theorem Blk.lt {w : World} {g : Nat} {cs : Array Value} {t : TypeId} (h : Blk w g cs t) : g < w.heap.size := by
  unfold Blk at h
  exact (Array.getElem?_eq_some_iff.1 h).1

theorem Blk.below {w w' : World} {g B : Nat} {cs : Array Value} {t : TypeId} (h : Blk w g cs t) (hb : Below B w w') (hg : g < B) : Blk w' g cs t := (hb.block g hg).trans h

theorem Blk.alloc {w : World} {g : Nat} {cs : Array Value} {t : TypeId} (h : Blk w g cs t) (o : Obj) : Blk (w.alloc o) g cs t := (Below.heap_alloc w o g h.lt).trans h

theorem blk_new (w : World) (cs : Array Value) (t : TypeId) : Blk (w.alloc (.cells cs t)) w.heap.size cs t := heap_alloc_new w _

theorem blk_at {w : World} {g : Nat} (cs : Array Value) (t : TypeId) (h : g = w.heap.size) : Blk (w.alloc (.cells cs t)) g cs t := by
  subst h
  exact blk_new w cs t

theorem size37 : (Trym.prog.info? 37).map (·.size) = some 32 := by kernel_rfl
theorem size22 : (Trym.prog.info? 22).map (·.size) = some 32 := by kernel_rfl

section
variable {w : World} {ops : Array Oper} {rest : List Oper} {o : Oper} {a : Act} {Q : Exit → Act → World → Prop}

/-- A whole [32]byte out of its block. -/
theorem wpList_load37 (hg : o.guard = none) (x : Operand) (ho : o.op = .load 37 x) (g : Nat) (t : TypeId) (cs : Array Value) (X : Nat → Nat) (ha : IsArr cs X) (hx : a.eval x = .pointer (some ⟨g, 0, none⟩)) (hb : Blk w g cs t)
    (h : wpList Trym.prog ops Q rest (a.put o.dst (.agg cs)) w) : wpList Trym.prog ops Q (o :: rest) a w :=
  wpList_load_row hg 37 x ho g hx t cs (0, 0) _ hb Trym.underlying37 rfl (by rw [size37, ha.1]) h

theorem wpList_load22 (hg : o.guard = none) (x : Operand) (ho : o.op = .load 22 x) (g : Nat) (t : TypeId) (cs : Array Value) (X : Nat → Nat) (ha : IsArr cs X) (hx : a.eval x = .pointer (some ⟨g, 0, none⟩)) (hb : Blk w g cs t)
    (h : wpList Trym.prog ops Q rest (a.put o.dst (.agg cs)) w) : wpList Trym.prog ops Q (o :: rest) a w :=
  wpList_load_row hg 22 x ho g hx t cs (0, 0) _ hb Trym.underlying22 rfl (by rw [size22, ha.1]) h

/-- A whole [32]byte into a block of 32 cells: the world behind it by what it holds. -/
theorem wpList_store37 (hg : o.guard = none) (x y : Operand) (ho : o.op = .store 37 x y) (g : Nat) (t : TypeId) (old cs : Array Value) (X : Nat → Nat) (ha : IsArr cs X) (hx : a.eval x = .pointer (some ⟨g, 0, none⟩)) (hy : a.eval y = .agg cs) (hb : Blk w g old t) (hs : old.size = 32)
    (h : ∀ w', Blk w' g cs t → Below g w w' → (∀ k, g < k → w'.heap[k]? = w.heap[k]?) → w'.heap.size = w.heap.size → wpList Trym.prog ops Q rest (a.put o.dst undef) w') : wpList Trym.prog ops Q (o :: rest) a w := by
  refine wpList_store_row hg 37 x y ho g cs hx hy t old hb (by rw [size37, ha.1]) (by rw [hs, ha.1]) ha.oneCell ?_
  exact h _ (setRow_heap w g _ _ t _ hb) (below_setRow (Below.refl _ _) (Nat.le_refl _) _) (fun k hk => setRow_other w g k cs (by omega)) (by simp [World.setRow])

theorem wpList_store22 (hg : o.guard = none) (x y : Operand) (ho : o.op = .store 22 x y) (g : Nat) (t : TypeId) (old cs : Array Value) (X : Nat → Nat) (ha : IsArr cs X) (hx : a.eval x = .pointer (some ⟨g, 0, none⟩)) (hy : a.eval y = .agg cs) (hb : Blk w g old t) (hs : old.size = 32)
    (h : ∀ w', Blk w' g cs t → Below g w w' → (∀ k, g < k → w'.heap[k]? = w.heap[k]?) → w'.heap.size = w.heap.size → wpList Trym.prog ops Q rest (a.put o.dst undef) w') : wpList Trym.prog ops Q (o :: rest) a w := by
  refine wpList_store_row hg 22 x y ho g cs hx hy t old hb (by rw [size22, ha.1]) (by rw [hs, ha.1]) ha.oneCell ?_
  exact h _ (setRow_heap w g _ _ t _ hb) (below_setRow (Below.refl _ _) (Nat.le_refl _) _) (fun k hk => setRow_other w g k cs (by omega)) (by simp [World.setRow])
end

end Go.Proofs.Qxb6602311aMods
