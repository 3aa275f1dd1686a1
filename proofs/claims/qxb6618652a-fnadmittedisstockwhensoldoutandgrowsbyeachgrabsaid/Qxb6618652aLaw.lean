/-
  FnAdmittedIsStockWhenSoldOutAndGrowsByEachGrab (5): the walk.
-/
import Derived.Test.Qxb6618652aAdm
namespace Go.Proofs.Qxb6618652a
open Go.RowKit

theorem w_zero (a : Int) (h1 : -9223372036854775808 ≤ a) (h2 : a ≤ 9223372036854775807) : wsub a 0 = a := by
  unfold wsub wrap64; omega
theorem w_grab (a b k : Int) : wsub a (wrap64 (b - k)) = wrap64 (wsub a b + k) := by
  unfold wsub wrap64; omega
theorem w_stock (a b k : Int) : wsub (wrap64 (a + k)) (wrap64 (b + k)) = wsub a b := by
  unfold wsub wrap64; omega

set_option maxRecDepth 100000 in
set_option maxHeartbeats 2000000 in
theorem law_near (a0 : ByteArray) (a1 a2 a3 a4 a5 a6 a7 : Int) (w : World) (hs : a0.size ≤ 1048576) (h1 : -9223372036854775808 ≤ a1) (h2 : a1 ≤ 9223372036854775807) :
    Calls Try.prog 5 #[.string a0, .int .i64 a1, .int .i64 a2, .int .i64 a3, .int .i64 a4, .int .i64 a5, .int .i64 a6, .int .i64 a7] w fun e w' => e = .returned (.bool true) ∧ Below w.heap.size w w' := by
  have HB := bytes_any a0 a1 a2 a3 a4 a5 a6 a7 w (by unfold maxLen; omega)
  rw [decide_eq_true hs] at HB
  have HZ : Hid (wsub a1 0 = a1) := w_zero a1 h1 h2
  have HG : Hid (wsub a1 (wrap64 (a2 - a7)) = wrap64 (wsub a1 a2 + a7)) := w_grab a1 a2 a7
  have HS : Hid (wsub (wrap64 (a1 + a7)) (wrap64 (a2 + a7)) = wsub a1 a2) := w_stock a1 a2 a7
  clear h1 h2
  go_enter Try.func5, Try.ntmps5
  go_wp2_with fail
  refine HB.mono ?_
  rintro e w' ⟨rfl, hw⟩
  replace hw := hw.symm
  subst hw
  clear HB
  go_wp2_with (first
    | ((with_reducible show wpList _ _ _ (Oper.mk _ (Op.build 35 _) _ _ _ _ :: _) _ _); refine wpList_build_of rfl 35 _ rfl #[.string a0, .int .i64 a1, .int .i64 a2, .int .u64 0, .int .i64 0, .pointer none, .int .u64 0, .int .i64 0, .pointer none, .int .i64 a3, .int .i64 a4, .int .i64 a5, .int .i64 a6] (by kernel_rfl) ?_)
    | ((with_reducible show wpList _ _ _ (Oper.mk _ (Op.load 35 _) _ _ _ _ :: _) _ _); refine wpList_load_row rfl 35 _ rfl w.heap.size rfl 35 #[.string a0, .int .i64 a1, .int .i64 a2, .int .u64 0, .int .i64 0, .pointer none, .int .u64 0, .int .i64 0, .pointer none, .int .i64 a3, .int .i64 a4, .int .i64 a5, .int .i64 a6] (0, 0) _ (by first | exact heap_alloc_last _ _ | exact heap_keep (heap_alloc_last _ _) | exact heap_keep (heap_keep (heap_alloc_last _ _)) | exact heap_keep (heap_keep (heap_keep (heap_alloc_last _ _)))) Try.underlying35 rfl (by kernel_rfl) ?_)
    | ((with_reducible show wpList _ _ _ (Oper.mk _ (Op.store 35 _ _) _ _ _ _ :: _) _ _); refine wpList_store_fresh rfl 35 _ _ rfl #[.string a0, .int .i64 a1, .int .i64 a2, .int .u64 0, .int .i64 0, .pointer none, .int .u64 0, .int .i64 0, .pointer none, .int .i64 a3, .int .i64 a4, .int .i64 a5, .int .i64 a6] 35 _ rfl rfl (by kernel_rfl) (by kernel_rfl) (by kernel_rfl) ?_))
  refine (admitted_any _ _ _ _ _ _ _ _).mono ?_
  rintro e w1 ⟨rfl, hb1⟩
  have hs1 : w.heap.size + 4 ≤ w1.heap.size := by have := hb1.size; simpa using this
  have r1 : w1.heap[w.heap.size + 1]? = some (.cells #[.string a0, .int .i64 a1, .int .i64 0, .int .u64 0, .int .i64 0, .pointer none, .int .u64 0, .int .i64 0, .pointer none, .int .i64 a3, .int .i64 a4, .int .i64 a5, .int .i64 a6] 35 (0, 0)) := by rw [hb1.block _ (by simp)]; exact heap_keep (heap_keep (heap_alloc_at _ _ _ (by simp)))
  have r2 : w1.heap[w.heap.size + 1 + 1]? = some (.cells #[.string a0, .int .i64 a1, .int .i64 (wrap64 (a2 - a7)), .int .u64 0, .int .i64 0, .pointer none, .int .u64 0, .int .i64 0, .pointer none, .int .i64 a3, .int .i64 a4, .int .i64 a5, .int .i64 a6] 35 (0, 0)) := by rw [hb1.block _ (by simp)]; exact heap_keep (heap_alloc_at _ _ _ (by simp))
  have r3 : w1.heap[w.heap.size + 1 + 1 + 1]? = some (.cells #[.string a0, .int .i64 (wrap64 (a1 + a7)), .int .i64 (wrap64 (a2 + a7)), .int .u64 0, .int .i64 0, .pointer none, .int .u64 0, .int .i64 0, .pointer none, .int .i64 a3, .int .i64 a4, .int .i64 a5, .int .i64 a6] 35 (0, 0)) := by rw [hb1.block _ (by simp)]; exact heap_alloc_at _ _ _ (by simp)
  have hbw : Below w.heap.size w w1 := (((((Below.refl _ _).alloc (Nat.le_refl _) _).alloc (by simp) _).alloc (by simp; omega) _).alloc (by simp; omega) _).trans (hb1.mono (by simp; omega))
  clear hb1
  have R1 : Hid (w1.heap[w.heap.size + 1]? = some (.cells #[.string a0, .int .i64 a1, .int .i64 0, .int .u64 0, .int .i64 0, .pointer none, .int .u64 0, .int .i64 0, .pointer none, .int .i64 a3, .int .i64 a4, .int .i64 a5, .int .i64 a6] 35 (0, 0))) := r1
  have R2 : Hid (w1.heap[w.heap.size + 1 + 1]? = some (.cells #[.string a0, .int .i64 a1, .int .i64 (wrap64 (a2 - a7)), .int .u64 0, .int .i64 0, .pointer none, .int .u64 0, .int .i64 0, .pointer none, .int .i64 a3, .int .i64 a4, .int .i64 a5, .int .i64 a6] 35 (0, 0))) := r2
  have R3 : Hid (w1.heap[w.heap.size + 1 + 1 + 1]? = some (.cells #[.string a0, .int .i64 (wrap64 (a1 + a7)), .int .i64 (wrap64 (a2 + a7)), .int .u64 0, .int .i64 0, .pointer none, .int .u64 0, .int .i64 0, .pointer none, .int .i64 a3, .int .i64 a4, .int .i64 a5, .int .i64 a6] 35 (0, 0))) := r3
  clear r1 r2 r3
  go_wp2_with ((with_reducible show wpList _ _ _ (Oper.mk _ (Op.load 35 _) _ _ _ _ :: _) _ _); refine wpList_load_row rfl 35 _ rfl (w.heap.size + 1) rfl 35 #[.string a0, .int .i64 a1, .int .i64 0, .int .u64 0, .int .i64 0, .pointer none, .int .u64 0, .int .i64 0, .pointer none, .int .i64 a3, .int .i64 a4, .int .i64 a5, .int .i64 a6] (0, 0) _ (R1.out) Try.underlying35 rfl (by kernel_rfl) ?_)
  refine (admitted_any _ _ _ _ _ _ _ _).mono ?_
  rintro e w2 ⟨rfl, hb2⟩
  rw [HZ.out]
  have hs2 := hb2.size
  go_wp2_with ((with_reducible show wpList _ _ _ (Oper.mk _ (Op.load 35 _) _ _ _ _ :: _) _ _); refine wpList_load_row rfl 35 _ rfl (w.heap.size + 1 + 1) rfl 35 #[.string a0, .int .i64 a1, .int .i64 (wrap64 (a2 - a7)), .int .u64 0, .int .i64 0, .pointer none, .int .u64 0, .int .i64 0, .pointer none, .int .i64 a3, .int .i64 a4, .int .i64 a5, .int .i64 a6] (0, 0) _ (by rw [hb2.block _ (by omega)]; exact R2.out) Try.underlying35 rfl (by kernel_rfl) ?_)
  refine (admitted_any _ _ _ _ _ _ _ _).mono ?_
  rintro e w3 ⟨rfl, hb3⟩
  rw [HG.out]
  have hs3 := hb3.size
  go_wp2_with ((with_reducible show wpList _ _ _ (Oper.mk _ (Op.load 35 _) _ _ _ _ :: _) _ _); refine wpList_load_row rfl 35 _ rfl (w.heap.size + 1 + 1 + 1) rfl 35 #[.string a0, .int .i64 (wrap64 (a1 + a7)), .int .i64 (wrap64 (a2 + a7)), .int .u64 0, .int .i64 0, .pointer none, .int .u64 0, .int .i64 0, .pointer none, .int .i64 a3, .int .i64 a4, .int .i64 a5, .int .i64 a6] (0, 0) _ (by rw [hb3.block _ (by omega), hb2.block _ (by omega)]; exact R3.out) Try.underlying35 rfl (by kernel_rfl) ?_)
  refine (admitted_any _ _ _ _ _ _ _ _).mono ?_
  rintro e w4 ⟨rfl, hb4⟩
  rw [HS.out]
  go_wp2
  go_ret
  exact ⟨rfl, hbw.trans ((hb2.mono (by omega)).trans ((hb3.mono (by omega)).trans (hb4.mono (by omega))))⟩

end Go.Proofs.Qxb6618652a
