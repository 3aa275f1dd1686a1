/-
  THE ARGUMENT's SHAPE: a message by value is eighteen cells of known kinds.
-/
import Derived.Test.Qxb6617286aRows
import Derived.ProofKit
namespace Go.Proofs.Qxb6617286a
open Go.WideShapes

theorem arr18 (cs : Array Value) (h : cs.size = 18) : ∃ c0 c1 c2 c3 c4 c5 c6 c7 c8 c9 c10 c11 c12 c13 c14 c15 c16 c17 : Value, cs = #[c0, c1, c2, c3, c4, c5, c6, c7, c8, c9, c10, c11, c12, c13, c14, c15, c16, c17] := by
  obtain ⟨l⟩ := cs
  simp at h
  match l, h with
  | [c0, c1, c2, c3, c4, c5, c6, c7, c8, c9, c10, c11, c12, c13, c14, c15, c16, c17], _ => exact ⟨c0, c1, c2, c3, c4, c5, c6, c7, c8, c9, c10, c11, c12, c13, c14, c15, c16, c17, rfl⟩

theorem cellTypes26 : Try.prog.cellTypes Try.prog.depth 26 = some [22, 22, 22, 22, 22, 22, 22, 22, 24, 24, 4, 5, 4, 4, 4, 4, 4, 4] := by kernel_rfl
theorem cells26 : Try.prog.cellsOf 26 = 18 := by kernel_rfl

theorem cell_int {W : World} {base : Nat} {t : TypeId} {kd : IntKind} {v : Value} (hu : Try.prog.underlying t = some (.int kd)) (h : Cell.okWide Try.prog W .any base t v) : ∃ n, v = .int kd n :=
  okWide_int hu (by unfold Value.okWide; rw [hu]; exact h)
theorem cell_bool {W : World} {base : Nat} {t : TypeId} {v : Value} (hu : Try.prog.underlying t = some .bool) (h : Cell.okWide Try.prog W .any base t v) : ∃ b, v = .bool b :=
  okWide_bool hu (by unfold Value.okWide; rw [hu]; exact h)

theorem msg_shape {W : World} {base : Nat} {v : Value} (h : Value.okWide Try.prog W .any base 26 v) :
    ∃ (a0 a1 a2 a3 a4 a5 a6 a7 a8 a9 : Int) (b10 : Bool) (k : Int) (b12 b13 b14 b15 r b17 : Bool), v = .agg #[.int .u64 a0, .int .u64 a1, .int .u64 a2, .int .u64 a3, .int .u64 a4, .int .u64 a5, .int .u64 a6, .int .u64 a7, .int .u32 a8, .int .u32 a9, .bool b10, .int .u8 k, .bool b12, .bool b13, .bool b14, .bool b15, .bool r, .bool b17] := by
  unfold Value.okWide at h
  rw [Try.underlying26] at h
  obtain ⟨cs, rfl, hsz, ts, hts, _, hc⟩ := h
  rw [cells26] at hsz
  rw [cellTypes26] at hts
  obtain rfl := Option.some.inj hts
  obtain ⟨c0, c1, c2, c3, c4, c5, c6, c7, c8, c9, c10, c11, c12, c13, c14, c15, c16, c17, rfl⟩ := arr18 cs hsz
  obtain ⟨u0, e0, o0⟩ := hc 0 c0 rfl
  obtain rfl : 22 = u0 := by simpa using e0
  obtain ⟨a0, rfl⟩ := cell_int Try.underlying22 o0
  obtain ⟨u1, e1, o1⟩ := hc 1 c1 rfl
  obtain rfl : 22 = u1 := by simpa using e1
  obtain ⟨a1, rfl⟩ := cell_int Try.underlying22 o1
  obtain ⟨u2, e2, o2⟩ := hc 2 c2 rfl
  obtain rfl : 22 = u2 := by simpa using e2
  obtain ⟨a2, rfl⟩ := cell_int Try.underlying22 o2
  obtain ⟨u3, e3, o3⟩ := hc 3 c3 rfl
  obtain rfl : 22 = u3 := by simpa using e3
  obtain ⟨a3, rfl⟩ := cell_int Try.underlying22 o3
  obtain ⟨u4, e4, o4⟩ := hc 4 c4 rfl
  obtain rfl : 22 = u4 := by simpa using e4
  obtain ⟨a4, rfl⟩ := cell_int Try.underlying22 o4
  obtain ⟨u5, e5, o5⟩ := hc 5 c5 rfl
  obtain rfl : 22 = u5 := by simpa using e5
  obtain ⟨a5, rfl⟩ := cell_int Try.underlying22 o5
  obtain ⟨u6, e6, o6⟩ := hc 6 c6 rfl
  obtain rfl : 22 = u6 := by simpa using e6
  obtain ⟨a6, rfl⟩ := cell_int Try.underlying22 o6
  obtain ⟨u7, e7, o7⟩ := hc 7 c7 rfl
  obtain rfl : 22 = u7 := by simpa using e7
  obtain ⟨a7, rfl⟩ := cell_int Try.underlying22 o7
  obtain ⟨u8, e8, o8⟩ := hc 8 c8 rfl
  obtain rfl : 24 = u8 := by simpa using e8
  obtain ⟨a8, rfl⟩ := cell_int Try.underlying24 o8
  obtain ⟨u9, e9, o9⟩ := hc 9 c9 rfl
  obtain rfl : 24 = u9 := by simpa using e9
  obtain ⟨a9, rfl⟩ := cell_int Try.underlying24 o9
  obtain ⟨u10, e10, o10⟩ := hc 10 c10 rfl
  obtain rfl : 4 = u10 := by simpa using e10
  obtain ⟨b10, rfl⟩ := cell_bool Try.underlying4 o10
  obtain ⟨u11, e11, o11⟩ := hc 11 c11 rfl
  obtain rfl : 5 = u11 := by simpa using e11
  obtain ⟨k, rfl⟩ := cell_int Try.underlying5 o11
  obtain ⟨u12, e12, o12⟩ := hc 12 c12 rfl
  obtain rfl : 4 = u12 := by simpa using e12
  obtain ⟨b12, rfl⟩ := cell_bool Try.underlying4 o12
  obtain ⟨u13, e13, o13⟩ := hc 13 c13 rfl
  obtain rfl : 4 = u13 := by simpa using e13
  obtain ⟨b13, rfl⟩ := cell_bool Try.underlying4 o13
  obtain ⟨u14, e14, o14⟩ := hc 14 c14 rfl
  obtain rfl : 4 = u14 := by simpa using e14
  obtain ⟨b14, rfl⟩ := cell_bool Try.underlying4 o14
  obtain ⟨u15, e15, o15⟩ := hc 15 c15 rfl
  obtain rfl : 4 = u15 := by simpa using e15
  obtain ⟨b15, rfl⟩ := cell_bool Try.underlying4 o15
  obtain ⟨u16, e16, o16⟩ := hc 16 c16 rfl
  obtain rfl : 4 = u16 := by simpa using e16
  obtain ⟨r, rfl⟩ := cell_bool Try.underlying4 o16
  obtain ⟨u17, e17, o17⟩ := hc 17 c17 rfl
  obtain rfl : 4 = u17 := by simpa using e17
  obtain ⟨b17, rfl⟩ := cell_bool Try.underlying4 o17
  exact ⟨a0, a1, a2, a3, a4, a5, a6, a7, a8, a9, b10, k, b12, b13, b14, b15, r, b17, rfl⟩

end Go.Proofs.Qxb6617286a
