/-
  Proposer (5), mustBeCommittee (6): contracts.
-/
import Derived.Test.Qxb6617381aRows
import Derived.Test.Qxb6617381aPlain
import Derived.WalkKit
import Derived.WalkSpells
import Derived.Deep.QuietTactic
import Derived.BigQuiet
import Derived.RowKit3
import Derived.Below
namespace Go.Proofs.Qxb6617381a
open Go.RowKit

theorem ret_int {k : IntKind} {a b : Int} (h : a = b) : Ending.returned (.int k a) = .returned (.int k b) := by rw [h]

theorem must_any (n : Int) (hn : 1 ≤ n) (w : World) : Calls Try.prog 6 #[.int .i64 n] w fun e w' => e = .returned (.tuple #[]) ∧ w' = w := by
  go_enter Try.func6, Try.ntmps6
  go_wp2
  go_end0
  exact ⟨rfl, rfl⟩

set_option maxHeartbeats 400000 in
theorem proposer_any (h r n : Int) (h1 : 1 ≤ h) (h2 : h ≤ 18446744073709551615) (r1 : 1 ≤ r) (r2 : r ≤ 18446744073709551615) (n1 : 1 ≤ n) (n2 : n ≤ 9223372036854775807) (w : World) :
    Calls Try.prog 5 #[.int .u64 h, .int .u64 r, .int .i64 n] w fun e w' => e = .returned (.int .i64 (prp h r n)) ∧ ∃ q, w' = w.drewN q := by
  have a1 := Int.emod_nonneg (h - 1) (show n ≠ 0 by omega)
  have a2 := Int.emod_lt_of_pos (h - 1) (show 0 < n by omega)
  have b1 := Int.emod_nonneg (r - 1) (show n ≠ 0 by omega)
  have b2 := Int.emod_lt_of_pos (r - 1) (show 0 < n by omega)
  have c1 := Int.emod_nonneg (h - 1 + (r - 1)) (show n ≠ 0 by omega)
  have c2 := Int.emod_lt_of_pos (h - 1 + (r - 1)) (show 0 < n by omega)
  have e1 : (h == 0) = false := by simp; omega
  have e2 : (r == 0) = false := by simp; omega
  go_enter Try.func5, Try.ntmps5
  go_wp2_with (go_at_call 6; refine (must_any _ n1 _).mono ?_; rintro e w' ⟨rfl, rfl⟩)
  go_quiet (fail)
  go_wp2
  go_ret
  exact ⟨ret_int (prp_eq h r n).symm, _, rfl⟩
end Go.Proofs.Qxb6617381a
