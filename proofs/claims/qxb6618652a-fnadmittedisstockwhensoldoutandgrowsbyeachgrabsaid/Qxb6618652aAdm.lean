/-
  Admitted (10), zzBytes (9): contracts; the plain law of wrapping.
-/
import Derived.Test.Qxb6618652aRows
import Derived.Test.Qxb6618652aLaws
namespace Go.Proofs.Qxb6618652a
open Go.RowKit

/-- int64's wrapping difference -/
def wsub (a b : Int) : Int := wrap64 (a - b)

theorem admitted_any (a0 : ByteArray) (a1 a2 a3 a4 a5 a6 : Int) (w : World) :
    Calls Try.prog 10 #[.agg #[.string a0, .int .i64 a1, .int .i64 a2, .int .u64 0, .int .i64 0, .pointer none, .int .u64 0, .int .i64 0, .pointer none, .int .i64 a3, .int .i64 a4, .int .i64 a5, .int .i64 a6]] w fun e w' => e = .returned (.int .i64 (wsub a1 a2)) ∧ Below w.heap.size w w' := by
  go_enter Try.func10, Try.ntmps10
  go_wp2
  go_ret
  exact ⟨rfl, (Below.refl _ _).alloc (Nat.le_refl _) _⟩

theorem bytes_any (a0 : ByteArray) (a1 a2 a3 a4 a5 a6 a7 : Int) (w : World) (hs : a0.size ≤ maxLen) :
    Calls Try.prog 9 #[.string a0, .int .i64 a1, .int .i64 a2, .int .i64 a3, .int .i64 a4, .int .i64 a5, .int .i64 a6, .int .i64 a7] w fun e w' => e = .returned (.bool (decide (a0.size ≤ 1048576))) ∧ w' = w := by
  unfold maxLen at hs
  by_cases h : a0.size ≤ 1048576
  · rw [decide_eq_true h]
    go_enter Try.func9, Try.ntmps9
    go_wp2
    go_ret
    exact ⟨rfl, rfl⟩
  · rw [decide_eq_false h]
    go_enter Try.func9, Try.ntmps9
    go_wp2
    go_ret
    exact ⟨rfl, rfl⟩

end Go.Proofs.Qxb6618652a
