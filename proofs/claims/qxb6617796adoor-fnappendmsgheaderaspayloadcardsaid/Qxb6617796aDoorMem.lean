/-
  BYTES IN MEMORY: a slice that is read ('Src'), a slice that the call builds by appends ('Buf'), and the laws by which the walk carries them.
-/
import Derived.Test.Qxb6617796aDoorRows
import Derived.Test.Qxb6617796aDoorShelf
import Derived.WalkKit
import Derived.WalkSpells
import Derived.WalkSmall
import Derived.Lib.AppendStr
import Derived.Lib.BufferWrite
import Derived.Lib.SliceRun
import Derived.Lib.ItoaLen
import Derived.Laws.AppendOwnNone
namespace Go.Proofs.Qxb6617796aDoor
open Go.RowKit Go.Lib

theorem info5 : (Tryd.prog.info? 5).map (fun i => (i.zero, i.size, i.bytes)) = some (some (.int .u8 0), 1, 1) := by kernel_rfl

/-- a slice that is not nil, and the bytes that it leads to -/
def Row (w : World) (v : Value) (l : List UInt8) : Prop :=
  ∃ b off cap, v = .slice (some ⟨b, off, none⟩) l.length cap ∧ b < w.heap.size ∧ l.length ≤ cap ∧ cap ≤ maxLen ∧ ∀ j u, (byteCells l)[j]? = some u → w.cell? ⟨b, off + j, none⟩ = some u

/-- the bytes l are what v leads to (nil: none) -/
def Src (w : World) (v : Value) (l : List UInt8) : Prop := (v = .slice none 0 0 ∧ l = []) ∨ Row w v l

theorem Row.keep {w w' : World} {v : Value} {l : List UInt8} (h : Row w v l) (hb : Below w.heap.size w w') : Row w' v l := by
  obtain ⟨b, off, cap, rfl, h1, h2, h3, h4⟩ := h
  exact ⟨b, off, cap, rfl, Nat.lt_of_lt_of_le h1 hb.size, h2, h3, fun j u hj => by rw [hb.cell (p := ⟨b, off + j, none⟩) h1]; exact h4 j u hj⟩
theorem Src.keep {w w' : World} {v : Value} {l : List UInt8} (h : Src w v l) (hb : Below w.heap.size w w') : Src w' v l := by
  rcases h with h | h
  · exact .inl h
  · exact .inr (h.keep hb)

/-- a buffer that was begun at the world W0 and holds the bytes l now -/
def Buf (W0 w : World) (v : Value) (l : List UInt8) : Prop := w.ownsRow W0.heap.size 5 1 v l.length (byteCells l) ∧ Below W0.heap.size W0 w

theorem Buf.cast {W0 w : World} {v : Value} {l l' : List UInt8} (h : Buf W0 w v l) (e : l = l') : Buf W0 w v l' := e ▸ h
theorem buf_nil (w : World) : Buf w w (.slice none 0 0) [] := ⟨⟨rfl, .inl ⟨rfl, rfl⟩⟩, Below.refl _ _⟩

theorem Buf.src {W0 w : World} {v : Value} {l : List UInt8} (h : Buf W0 w v l) : Src w v l := by
  obtain ⟨⟨hl, ⟨hv, hn⟩ | ⟨g, cap, cur, rfl, hB, hg, hc, hm, hsz, htake⟩⟩, hb⟩ := h
  · exact .inl ⟨hv, List.eq_nil_of_length_eq_zero hn⟩
  · refine .inr ⟨g, 0, cap, rfl, (Array.getElem?_eq_some_iff.1 hg).1, hc, hm, fun j u hj => ?_⟩
    rw [Nat.zero_add, cell_of_row w g j cur 5 (0, 0) hg]
    rw [← htake, List.getElem?_take] at hj
    split at hj
    · simpa using hj
    · cases hj
theorem Buf.row {W0 w : World} {v : Value} {l : List UInt8} (h : Buf W0 w v l) (hl : l ≠ []) : Row w v l := by
  rcases h.src with ⟨_, h2⟩ | h2
  · exact absurd h2 hl
  · exact h2

variable {ops : Array Oper} {rest : List Oper} {o : Oper} {a : Act} {Q : Exit → Act → World → Prop}

/-- 'dst = append(dst, s...)', s a string -/
theorem buf_text {W0 w : World} {v : Value} {l : List UInt8} (hgd : o.guard = none) (sl x : Operand) (ho : o.op = .call { callee := .builtin .append, args := #[sl, x], argTypes := #[26, 9] })
    (hs : a.eval sl = v) (hb : Buf W0 w v l) (s : ByteArray) (hx : a.eval x = .string s) (hlen : l.length + s.size ≤ 140737488355328)
    (h : ∀ v' w', Buf W0 w' v' (l ++ s.data.toList) → wpList Tryd.prog ops Q rest (a.put o.dst v') w') : wpList Tryd.prog ops Q (o :: rest) a w := by
  obtain ⟨i, hi, hz0, hz1, hz2⟩ := info_parts info5
  refine wpList_append_own_string w hgd sl x 26 9 ho W0.heap.size 5 i Tryd.underlying26 Tryd.underlying9 hi hz0 hz1 hz2 v l.length (byteCells l) hs hb.1 s hx (by unfold maxLen; omega) hlen hb.2.size ?_
  intro v' w' h1 h2 _
  refine h v' w' ⟨?_, hb.2.grown h2 hb.2.size (fun k hk => (hb.1.lt k hk).1)⟩
  rw [byteCells_append, List.length_append]
  exact h1

/-- 'dst = append(dst, c)': the byte lies in the block that the statement has just laid -/
theorem buf_byte {W0 w : World} {v : Value} {l : List UInt8} (hgd : o.guard = none) (sl x : Operand) (ho : o.op = .call { callee := .builtin .append, args := #[sl, x], argTypes := #[26, 26] })
    (hs : a.eval sl = v) (hb : Buf W0 w v l) (n : Int) (c : UInt8) (hc : n = (c.toNat : Int)) (hx : a.eval x = .slice (some ⟨w.heap.size, 0, none⟩) 1 1) (hlen : l.length + 1 ≤ 140737488355328)
    (h : ∀ v' w', Buf W0 w' v' (l ++ [c]) → wpList Tryd.prog ops Q rest (a.put o.dst v') w') : wpList Tryd.prog ops Q (o :: rest) a (w.alloc (.cells #[.int .u8 n] 5)) := by
  subst hc
  obtain ⟨i, hi, hz0, hz1, hz2⟩ := info_parts info5
  have hb' : Below W0.heap.size W0 (w.alloc (.cells #[.int .u8 c.toNat] 5)) := hb.2.alloc hb.2.size _
  refine wpList_append_own _ hgd sl x 26 ho W0.heap.size 5 i (.int .u8 0) 1 1 Tryd.underlying26 hi hz0 hz1 hz2 rfl (by decide) v l.length (byteCells l) hs (hb.1.alloc _) ⟨w.heap.size, 0, none⟩ 1 1 [.int .u8 c.toNat] hx rfl ?_ ?_ (by unfold maxLen; omega) (by omega) hb'.size ?_
  · intro j u hj
    match j, hj with
    | 0, hj => simp at hj; subst hj; simp [Addr.add]
    | (j + 1), hj => simp at hj
  · intro u hu; simp at hu; subst hu; rfl
  · intro v' w' h1 h2 _
    refine h v' w' ⟨?_, hb'.grown h2 hb'.size (fun k hk => (hb.1.lt k hk).1)⟩
    rw [byteCells_append, List.length_append]
    exact h1

/-- 'dst = append(dst, src...)', src bytes that lay there when dst was begun -/
theorem buf_src {W0 w : World} {v xv : Value} {l m : List UInt8} (hgd : o.guard = none) (sl x : Operand) (ho : o.op = .call { callee := .builtin .append, args := #[sl, x], argTypes := #[26, 26] })
    (hs : a.eval sl = v) (hb : Buf W0 w v l) (hx : a.eval x = xv) (hsrc : Src W0 xv m) (hlen : l.length + m.length ≤ 140737488355328)
    (h : ∀ v' w', Buf W0 w' v' (l ++ m) → wpList Tryd.prog ops Q rest (a.put o.dst v') w') : wpList Tryd.prog ops Q (o :: rest) a w := by
  obtain ⟨i, hi, hz0, hz1, hz2⟩ := info_parts info5
  rcases hsrc with ⟨rfl, rfl⟩ | hr
  · refine wpList_append_own_none hgd sl x 26 ho W0.heap.size 5 i 1 Tryd.underlying26 hi v l.length (byteCells l) hs hb.1 hx ?_
    exact h v w (hb.cast (by simp))
  · obtain ⟨b, off, cap, rfl, h1, _, _, h4⟩ := hr
    refine wpList_append_own _ hgd sl x 26 ho W0.heap.size 5 i (.int .u8 0) 1 1 Tryd.underlying26 hi hz0 hz1 hz2 rfl (by decide) v l.length (byteCells l) hs hb.1 ⟨b, off, none⟩ m.length cap (byteCells m) hx (by simp [byteCells_length]) ?_ (byteCells_one m) (by unfold maxLen; omega) (by omega) hb.2.size ?_
    · intro j u hj
      have hadd : (⟨b, off, none⟩ : Addr).add j = ⟨b, off + j, none⟩ := by unfold Addr.add; split <;> simp_all
      rw [hadd, hb.2.cell (p := ⟨b, off + j, none⟩) h1]
      exact h4 j u hj
    · intro v' w' h1 h2 _
      refine h v' w' ⟨?_, hb.2.grown h2 hb.2.size (fun k hk => (hb.1.lt k hk).1)⟩
      rw [byteCells_append, List.length_append]
      exact h1

/-- 'make([]byte, 0, n)' -/
theorem buf_make {w : World} (hgd : o.guard = none) (l c : Operand) (ho : o.op = Op.makeSlice 26 l c) (kl kc : IntKind) (C : Int) (n : Nat) (hl : a.eval l = .int kl 0) (hc : a.eval c = .int kc C) (hC : C = (n : Int)) (hn : n ≤ 140737488355328)
    (h : ∀ v' w', Buf w w' v' [] → wpList Tryd.prog ops Q rest (a.put o.dst v') w') : wpList Tryd.prog ops Q (o :: rest) a w := by
  obtain ⟨i, hi, hz0, hz1, hz2⟩ := info_parts info5
  refine wpList_make_own w hgd l c 26 ho w.heap.size 5 i (.int .u8 0) 1 Tryd.underlying26 hi hz0 hz1 kl kc C n hl hc hC (by rw [hz2]; omega) (by unfold maxLen; omega) (Nat.le_refl _) ?_
  intro w' h1 h2
  exact h _ w' ⟨h1, (Below.refl _ _).grown h2 (Nat.le_refl _) (by intro k hk; cases hk)⟩

/-- the library's table of powers, as the contracts want it -/
def Tab (w : World) : Prop := TabBelow Tryd.prog w.heap.size w "internal/strconv.uint64pow10" .u64 pow10Tab
theorem Tab.keep {w w' : World} (h : Tab w) (hb : Below w.heap.size w w') : Tab w' := fun w2 h2 => h w2 (hb.trans (h2.mono hb.size))

theorem buf_int {W0 w : World} {v : Value} {l : List UInt8} (hb : Buf W0 w v l) (ht : Tab W0) (i : Int) (h0 : 0 ≤ i) (h1 : i ≤ 9223372036854775807) (hlen : l.length + 21 ≤ 140737488355328) :
    Calls Tryd.prog 20 #[v, .int .i64 i, .int .i64 10] w fun e w' => ∃ v', e = .returned v' ∧ Buf W0 w' v' (l ++ decDigits i.toNat) := by
  refine (Tryd.strconv_AppendInt_10 W0.heap.size l.length i (by omega) h1 v (byteCells l) w hb.1 hb.2.size hlen (ht.on hb.2)).mono ?_
  rintro e w' ⟨v', rfl, ho, hbl, _⟩
  refine ⟨v', rfl, ?_, hb.2.trans hbl⟩
  obtain ⟨n, rfl⟩ := Int.eq_ofNat_of_zero_le h0
  rw [itoa_nonneg] at ho
  rw [byteCells_append, List.length_append]
  exact ho

end Go.Proofs.Qxb6617796aDoor
