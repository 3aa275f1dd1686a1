/-
  zzRingMessage (20).
-/
import Derived.Test.Qxb6617286aRows
import Derived.Test.Qxb6617286aLaws
namespace Go.Proofs.Qxb6617286a
open Go.RowKit

set_option maxHeartbeats 1000000 in
theorem ringMessage_any (a0 a1 a2 a3 a4 a5 a6 a7 a8 a9 : Int) (b10 : Bool) (k : Int) (b12 b13 b14 b15 r b17 : Bool) (w : World) :
    Calls Try.prog 20 #[.int .u64 a0, .int .u64 a1, .int .u64 a2, .int .u64 a3, .int .u64 a4, .int .u64 a5, .int .u64 a6, .int .u64 a7, .int .u32 a8, .int .u32 a9, .bool b10, .int .u8 k, .bool b12, .bool b13, .bool b14, .bool b15, .bool r, .bool b17] w
      fun e w' => e = .returned (.agg #[.int .u64 a0, .int .u64 a1, .int .u64 a2, .int .u64 a3, .int .u64 a4, .int .u64 a5, .int .u64 a6, .int .u64 a7, .int .u32 a8, .int .u32 a9, .bool b10, .int .u8 k, .bool b12, .bool b13, .bool b14, .bool b15, .bool r, .bool b17]) ∧ Below w.heap.size w w' := by
  go_enter Try.func20, Try.ntmps20
  go_wp2_with (first
    | refine wpList_build_of rfl 58 _ rfl #[.int .u64 a0, .int .u64 a1, .int .u64 a2, .int .u64 a3, .int .u64 a4, .int .u64 a5, .int .u64 a6, .int .u64 a7, .int .u32 a8, .int .u32 a9, .bool b10, .int .u8 k, .bool b12, .bool b13, .bool b14, .bool b15, .bool r, .bool b17] (by kernel_rfl) ?_
    | refine wpList_store_fresh rfl 58 _ _ rfl #[.int .u64 a0, .int .u64 a1, .int .u64 a2, .int .u64 a3, .int .u64 a4, .int .u64 a5, .int .u64 a6, .int .u64 a7, .int .u32 a8, .int .u32 a9, .bool b10, .int .u8 k, .bool b12, .bool b13, .bool b14, .bool b15, .bool r, .bool b17] 58 _ rfl rfl (by kernel_rfl) (by kernel_rfl) (by kernel_rfl) ?_)
  exact bodyPost_ret (v := .agg #[.int .u64 a0, .int .u64 a1, .int .u64 a2, .int .u64 a3, .int .u64 a4, .int .u64 a5, .int .u64 a6, .int .u64 a7, .int .u32 a8, .int .u32 a9, .bool b10, .int .u8 k, .bool b12, .bool b13, .bool b14, .bool b15, .bool r, .bool b17]) (results_cell_row Try.results20 _ _ w.heap.size 58 _ (0, 0) _ rfl (heap_alloc_last _ _) Try.underlying58 rfl (by kernel_rfl)) rfl ⟨rfl, (Below.refl _ _).alloc (Nat.le_refl _) _⟩

end Go.Proofs.Qxb6617286a
