/-
  TWO LAWS FOR WIDE STRUCTS: a struct literal whose cells are known; a store into the block that was laid last. No Go text in sight.
-/
import Derived.WalkKit
import Derived.WalkSpells
import Derived.RowKit3
import Derived.Below
namespace Go.Proofs.Qxb6618652a
open Go.RowKit

theorem wpList_build_of {P : Program} {ops : Array Oper} {rest : List Oper} {o : Oper} {a : Act} {w : World} {Q : Exit → Act → World → Prop} (hg : o.guard = none) (t : TypeId) (parts : Array (Nat × Operand)) (ho : o.op = .build t parts)
    (cells : Array Value) (hc : P.built t (parts.map fun (i, x) => (i, a.eval x)).toList = some cells)
    (h : wpList P ops Q rest (a.put o.dst (.agg cells)) w) : wpList P ops Q (o :: rest) a w := by
  refine wpList_build hg t parts ho (by rw [hc]; rfl) ?_
  rw [hc]; exact h

theorem heap_alloc_last (w : World) (o : Obj) : (w.alloc o).heap[w.heap.size]? = some o := by
  show (w.heap.push o)[w.heap.size]? = some o
  simp

theorem setRow_alloc (w : World) (old cs : Array Value) (t : TypeId) : (w.alloc (.cells old t)).setRow w.heap.size cs = w.alloc (.cells cs t) := by
  simp only [World.setRow, World.alloc]
  congr 1
  apply Array.ext
  · simp
  · intro i h1 h2
    by_cases hi : i = w.heap.size
    · subst hi; simp [Array.getElem_modify]
    · rw [Array.getElem_modify_of_ne (fun h => hi h.symm)]
      simp [Array.getElem_push]
      simp at h2
      simp [show i < w.heap.size by omega]

theorem wpList_store_fresh {P : Program} {ops : Array Oper} {rest : List Oper} {o : Oper} {a : Act} {w : World} {Q : Exit → Act → World → Prop} (hgd : o.guard = none) (ty : TypeId) (x y : Operand) (ho : o.op = .store ty x y)
    (cells : Array Value) (t : TypeId) (old : Array Value) (hx : a.eval x = .pointer (some ⟨w.heap.size, 0, none⟩)) (hy : a.eval y = .agg cells)
    (hi : (P.info? ty).map (·.size) = some cells.size)
    (hold : old.size = cells.size) (h1 : cells.all (·.oneCell') = true)
    (h : wpList P ops Q rest (a.put o.dst undef) (w.alloc (.cells cells t))) : wpList P ops Q (o :: rest) a (w.alloc (.cells old t)) := by
  refine wpList_store_row hgd ty x y ho w.heap.size cells hx hy t old (heap_alloc_last _ _) hi hold h1 ?_
  rw [setRow_alloc]; exact h

theorem heap_setCell_row (w : World) (g i : Nat) (cur : Array Value) (t : TypeId) (fr : Nat × Nat) (v : Value) (hg : w.heap[g]? = some (.cells cur t fr)) :
    (w.setCell ⟨g, i, none⟩ v).heap[g]? = some (.cells (cur.setIfInBounds i v) t fr) := by
  rw [setCell_eq_setRow w g i cur t fr v hg]; exact setRow_heap w g cur _ t fr hg

theorem heap_lt {w : World} {g : Nat} {o : Obj} (hg : w.heap[g]? = some o) : g < w.heap.size := (Array.getElem?_eq_some_iff.1 hg).1

theorem frozen_row (w : World) (g i : Nat) (cs : Array Value) (t : TypeId) (hg : w.heap[g]? = some (.cells cs t (0, 0))) : w.frozen? ⟨g, i, none⟩ = false := by
  simp [World.frozen?, hg]

theorem heap_keep {w : World} {g : Nat} {o o' : Obj} (h : w.heap[g]? = some o) : (w.alloc o').heap[g]? = some o := by
  rw [Below.heap_alloc _ _ _ (heap_lt h)]; exact h

theorem heap_alloc_at (w : World) (o : Obj) (n : Nat) (h : w.heap.size = n) : (w.alloc o).heap[n]? = some o := by
  rw [← h]; exact heap_alloc_last w o

end Go.Proofs.Qxb6618652a
