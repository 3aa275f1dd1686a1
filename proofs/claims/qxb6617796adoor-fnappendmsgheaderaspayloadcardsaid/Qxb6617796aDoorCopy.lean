/-
  'make([]byte, n)' and 'copy' into it; a buffer behind a call that leaves old memory alone; parts of a row.
-/
import Derived.Test.Qxb6617796aDoorMem
import Derived.Laws.CopyOwn
namespace Go.Proofs.Qxb6617796aDoor
open Go.RowKit
open Go.Lib hiding intOf

/-- block g is a row of n cells of the call's own -/
def Made (w : World) (g n : Nat) : Prop := ∃ cur : List Value, w.heap[g]? = some (.cells cur.toArray 5 (0, 0)) ∧ cur.length = n

theorem made_of_own {w : World} {base g n : Nat} {xs : List Value} (h : w.ownsRow base 5 1 (.slice (some ⟨g, 0, none⟩) n n) n xs) : Made w g n := by
  obtain ⟨_, ⟨hv, _⟩ | ⟨g', cap, cur, hv, _, hg, _, _, hsz, _⟩⟩ := h
  · simp at hv
  · simp only [Value.slice.injEq, Option.some.injEq, Addr.mk.injEq, and_true, true_and] at hv
    obtain ⟨rfl, rfl⟩ := hv
    exact ⟨cur.toList, by simpa using hg, by simpa using hsz⟩

/-- a slice that came in: nil; or not nil, and, where it holds bytes, they lie there -/
def Arg (w : World) (v : Value) (l : List UInt8) : Prop := (v = .slice none 0 0 ∧ l = []) ∨ ∃ x cap, v = .slice (some x) l.length cap ∧ (l = [] ∨ Row w v l)
theorem Arg.keep {w w' : World} {v : Value} {l : List UInt8} (h : Arg w v l) (hb : Below w.heap.size w w') : Arg w' v l := by
  rcases h with h | ⟨x, cap, h1, h2 | h2⟩
  · exact .inl h
  · exact .inr ⟨x, cap, h1, .inl h2⟩
  · exact .inr ⟨x, cap, h1, .inr (h2.keep hb)⟩
theorem Arg.len {w : World} {v : Value} {l : List UInt8} (h : Arg w v l) : ∃ ao cap, v = .slice ao l.length cap := by
  rcases h with ⟨rfl, rfl⟩ | ⟨x, cap, rfl, _⟩
  · exact ⟨none, 0, rfl⟩
  · exact ⟨_, _, rfl⟩
theorem Arg.nil_src {w : World} {n c : Nat} {l : List UInt8} (h : Arg w (.slice none n c) l) : Src w (.slice none n c) l := by
  rcases h with h | ⟨x, cap, h1, _⟩
  · exact .inl h
  · cases h1

variable {ops : Array Oper} {rest : List Oper} {o : Oper} {a : Act} {Q : Exit → Act → World → Prop}

theorem row_make {w : World} (hgd : o.guard = none) (l c : Operand) (ho : o.op = Op.makeSlice 26 l c) (kl kc : IntKind) (L C : Int) (n : Nat) (hl : a.eval l = .int kl L) (hc : a.eval c = .int kc C) (hL : L = (n : Int)) (hC : C = (n : Int)) (hn : n ≤ 140737488355328)
    (h : ∀ w', Made w' w.heap.size n → Below w.heap.size w w' → wpList Tryd.prog ops Q rest (a.put o.dst (.slice (some ⟨w.heap.size, 0, none⟩) n n)) w') : wpList Tryd.prog ops Q (o :: rest) a w := by
  obtain ⟨i, hi, hz0, hz1, hz2⟩ := info_parts info5
  refine wpList_make_full w hgd l c 26 ho w.heap.size 5 i (.int .u8 0) 1 Tryd.underlying26 hi hz0 hz1 kl kc L C n hl hc hL hC (by rw [hz2]; omega) (by unfold maxLen; omega) (Nat.le_refl _) ?_
  intro w' h1 h2
  exact h w' (made_of_own h1) ((Below.refl _ _).grown h2 (Nat.le_refl _) (by intro k hk; cases hk))

theorem size5 : (Tryd.prog.info? 5).map (·.size) = some 1 := by kernel_rfl

theorem row_copy {W0 w : World} (hgd : o.guard = none) (d s : Operand) (ho : o.op = .call { callee := .builtin .copy, args := #[d, s], argTypes := #[26, 26] })
    (l : List UInt8) (sv : Value) (hd : a.eval d = .slice (some ⟨W0.heap.size, 0, none⟩) l.length l.length) (hs : a.eval s = sv) (hsrc : Arg W0 sv l) (hmade : Made w W0.heap.size l.length) (hb : Below W0.heap.size W0 w) (hm : l.length ≤ maxLen)
    (h : ∀ w', Row w' (.slice (some ⟨W0.heap.size, 0, none⟩) l.length l.length) l → Below W0.heap.size W0 w' → wpList Tryd.prog ops Q rest (a.put o.dst (goInt l.length)) w') : wpList Tryd.prog ops Q (o :: rest) a w := by
  obtain ⟨cur, hg, hcl⟩ := hmade
  obtain ⟨sp, sc, rfl⟩ := hsrc.len
  have hbl : (byteCells l).length = l.length := byteCells_length l
  refine wpList_copy_splice hgd d s 26 26 ho 5 Tryd.underlying26 size5 (some ⟨W0.heap.size, 0, none⟩) sp l.length l.length l.length sc hd hs W0.heap.size 0 cur 5 hg (byteCells l) (by rw [hbl]; simp) ?_ (by omega) (byteCells_one l) W0.heap.size W0 hb (Nat.le_refl _) ?_
  · intro hpos
    refine ⟨rfl, ?_⟩
    rcases hsrc with ⟨_, rfl⟩ | ⟨_, _, _, rfl | ⟨b, off, cap, hv, hlt, _, _, h4⟩⟩
    · simp [byteCells] at hpos
    · simp [byteCells] at hpos
    · simp only [Value.slice.injEq] at hv
      obtain ⟨rfl, _, rfl⟩ := hv
      refine ⟨_, rfl, fun j v hj => ?_⟩
      have hadd : (⟨b, off, none⟩ : Addr).add j = ⟨b, off + j, none⟩ := by unfold Addr.add; split <;> simp_all
      rw [hadd, hb.cell (p := ⟨b, off + j, none⟩) hlt]
      exact h4 j v hj
  · intro w' hrow hb'
    rw [hbl]
    refine h w' ⟨W0.heap.size, 0, l.length, rfl, (Array.getElem?_eq_some_iff.1 hrow.out).1, Nat.le_refl _, hm, fun j u hj => ?_⟩ hb'
    rw [Nat.zero_add, cell_of_row w' _ j _ 5 (0, 0) hrow.out]
    have e : splice cur 0 (byteCells l) = byteCells l := by
      unfold splice
      rw [List.take_zero, Nat.zero_add, hbl, List.drop_of_length_le (by omega)]
      simp
    rw [e]
    simpa using hj

theorem Buf.keep {W0 w w' : World} {v : Value} {l : List UInt8} (h : Buf W0 w v l) (hb : Below w.heap.size w w') : Buf W0 w' v l := by
  refine ⟨?_, h.2.trans (hb.mono h.2.size)⟩
  obtain ⟨hl, hn | ⟨g, cap, cur, hv, hB, hg, rest⟩⟩ := h.1
  · exact ⟨hl, .inl hn⟩
  · exact ⟨hl, .inr ⟨g, cap, cur, hv, hB, by rw [hb.block g (Array.getElem?_eq_some_iff.1 hg).1]; exact hg, rest⟩⟩

theorem cells_take {w : World} {b off : Nat} {l : List UInt8} (k : Nat) (h4 : ∀ j u, (byteCells l)[j]? = some u → w.cell? ⟨b, off + j, none⟩ = some u) : ∀ j u, (byteCells (l.take k))[j]? = some u → w.cell? ⟨b, off + j, none⟩ = some u := by
  intro j u hj
  refine h4 j u ?_
  unfold byteCells at hj ⊢
  rw [List.map_take, List.getElem?_take] at hj
  split at hj
  · exact hj
  · cases hj
theorem cells_drop {w : World} {b off : Nat} {l : List UInt8} (k : Nat) (h4 : ∀ j u, (byteCells l)[j]? = some u → w.cell? ⟨b, off + j, none⟩ = some u) : ∀ j u, (byteCells (l.drop k))[j]? = some u → w.cell? ⟨b, off + k + j, none⟩ = some u := by
  intro j u hj
  rw [Nat.add_assoc]
  refine h4 (k + j) u ?_
  unfold byteCells at hj ⊢
  rw [List.map_drop, List.getElem?_drop] at hj
  exact hj

end Go.Proofs.Qxb6617796aDoor
