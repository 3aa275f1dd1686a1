/-
  FnUpkeepTaskSortsKindsIntoThreeTasks (4): the walk.
-/
import Derived.Test.Qxb6617286aUpz
namespace Go.Proofs.Qxb6617286a
open Go.RowKit

set_option maxRecDepth 100000 in
set_option maxHeartbeats 2000000 in
theorem upkeepLaw_any (a0 a1 a2 a3 a4 a5 a6 a7 a8 a9 : Int) (b10 : Bool) (k : Int) (b12 b13 b14 b15 r b17 : Bool) (w : World) :
    Calls Try.prog 4 #[.agg #[.int .u64 a0, .int .u64 a1, .int .u64 a2, .int .u64 a3, .int .u64 a4, .int .u64 a5, .int .u64 a6, .int .u64 a7, .int .u32 a8, .int .u32 a9, .bool b10, .int .u8 k, .bool b12, .bool b13, .bool b14, .bool b15, .bool r, .bool b17]] w
      fun e w' => e = .returned (.bool true) ∧ Below w.heap.size w w' := by
  go_enter Try.func4, Try.ntmps4
  go_wp2_with fail
  go_loopw [3, 4, 5, 6, 7] (fun p f c i kk wr => ∃ n : Nat, n ≤ 256 ∧ kk = .int .i64 n ∧ p = .int .i64 (cP n) ∧ f = .int .i64 (cF n) ∧ c = .int .i64 (cC n) ∧ i = .int .i64 (cI n) ∧ Below (w.heap.size + 1) (w.alloc (.cells #[.int .u64 a0, .int .u64 a1, .int .u64 a2, .int .u64 a3, .int .u64 a4, .int .u64 a5, .int .u64 a6, .int .u64 a7, .int .u32 a8, .int .u32 a9, .bool b10, .int .u8 k, .bool b12, .bool b13, .bool b14, .bool b15, .bool r, .bool b17] 26)) wr) (fun _ _ _ _ kk _ => 256 - (intOf kk).toNat)
  case atStart => exact ⟨0, by omega, rfl, rfl, rfl, rfl, rfl, Below.refl _ _⟩
  case round =>
    obtain ⟨n, hn, rfl, rfl, rfl, rfl, rfl, hbw⟩ := hrel
    have hPl := cP_le n
    have hFl := cF_le n
    have hCl := cC_le n
    have hIl := cI_le n
    have hrow : wr.heap[w.heap.size]? = some (.cells #[.int .u64 a0, .int .u64 a1, .int .u64 a2, .int .u64 a3, .int .u64 a4, .int .u64 a5, .int .u64 a6, .int .u64 a7, .int .u32 a8, .int .u32 a9, .bool b10, .int .u8 k, .bool b12, .bool b13, .bool b14, .bool b15, .bool r, .bool b17] 26 (0, 0)) := by rw [hbw.block _ (by omega)]; exact heap_alloc_last _ _
    by_cases hlt : n < 256
    · rcases upk_sorts n with ⟨h12, hF, hT⟩ | ⟨h12, hF, hT⟩ | ⟨h12, hF, hT⟩ | ⟨hF, hT⟩
      · have HF : Hid (upk n false = (0, true)) := hF
        have HT : Hid (upk n true = (0, true)) := hT
        clear hF hT
        go_wp2_with (first
          | ((with_reducible show wpList _ _ _ (Oper.mk _ (Op.load 26 _) _ _ _ _ :: _) _ _); refine wpList_load_row rfl 26 _ rfl w.heap.size rfl 26 _ (0, 0) _ hrow Try.underlying26 rfl (by kernel_rfl) ?_)
          | ((with_reducible show wpList _ _ _ (Oper.mk _ (Op.load 26 _) _ _ _ _ :: _) _ _); refine wpList_load_row rfl 26 _ rfl wr.heap.size rfl 26 _ (0, 0) _ (heap_alloc_last _ _) Try.underlying26 rfl (by kernel_rfl) ?_)
          | ((with_reducible show wpList _ _ _ (Oper.mk _ (Op.store 26 _ _) _ _ _ _ :: _) _ _); refine wpList_store_fresh rfl 26 _ _ rfl #[.int .u64 a0, .int .u64 a1, .int .u64 a2, .int .u64 a3, .int .u64 a4, .int .u64 a5, .int .u64 a6, .int .u64 a7, .int .u32 a8, .int .u32 a9, .bool b10, .int .u8 k, .bool b12, .bool b13, .bool b14, .bool b15, .bool r, .bool b17] 26 _ rfl rfl (by kernel_rfl) (by kernel_rfl) (by kernel_rfl) ?_))
        refine (zzUpkeep_any _ _ _ _ _ _ _ _ _ _ _ _ _ _ _ _ _ _ _ _ HF _).mono ?_
        rintro e w1 ⟨rfl, hb1⟩
        have hr1 : w1.heap[wr.heap.size]? = some (.cells #[.int .u64 a0, .int .u64 a1, .int .u64 a2, .int .u64 a3, .int .u64 a4, .int .u64 a5, .int .u64 a6, .int .u64 a7, .int .u32 a8, .int .u32 a9, .bool b10, .int .u8 n, .bool b12, .bool b13, .bool b14, .bool b15, .bool false, .bool b17] 26 (0, 0)) := by rw [hb1.block _ (by simp)]; exact heap_alloc_last _ _
        have hz1 := frozen_row w1 wr.heap.size 16 _ _ hr1
        have hc1 : w1.cell? ⟨wr.heap.size, 16, none⟩ = some (.bool false) := by rw [cell_of_row _ _ _ _ _ _ hr1]; rfl
        have hr2 : (w1.setCell ⟨wr.heap.size, 16, none⟩ (.bool true)).heap[wr.heap.size]? = some (.cells #[.int .u64 a0, .int .u64 a1, .int .u64 a2, .int .u64 a3, .int .u64 a4, .int .u64 a5, .int .u64 a6, .int .u64 a7, .int .u32 a8, .int .u32 a9, .bool b10, .int .u8 n, .bool b12, .bool b13, .bool b14, .bool b15, .bool true, .bool b17] 26 (0, 0)) := heap_setCell_row w1 _ 16 _ _ _ _ hr1
        have hs1 : wr.heap.size + 1 ≤ w1.heap.size := by have := hb1.size; simpa using this
        have hs0 : w.heap.size + 1 ≤ wr.heap.size := by have := hbw.size; simpa using this
        go_wp2_with (((with_reducible show wpList _ _ _ (Oper.mk _ (Op.load 26 _) _ _ _ _ :: _) _ _); refine wpList_load_row rfl 26 _ rfl wr.heap.size rfl 26 _ (0, 0) _ hr2 Try.underlying26 rfl (by kernel_rfl) ?_))
        refine (zzUpkeep_any _ _ _ _ _ _ _ _ _ _ _ _ _ _ _ _ _ _ _ _ HT _).mono ?_
        rintro e w2 ⟨rfl, hb2⟩
        clear hr1 hr2 hc1 hz1
        go_wp2
        all_goals
          go_roundw
          case rel =>
            have ecP : cP (n + 1) = cP n + 1 := by simp [cP, HT.out]
            have ecF : cF (n + 1) = cF n := by simp [cF, HT.out]
            have ecC : cC (n + 1) = cC n := by simp [cC, HT.out]
            have ecI : cI (n + 1) = cI n := by simp [cI, HT.out]
            exact ⟨n + 1, by omega, by go_num, by rw [ecP]; go_num, by rw [ecF], by rw [ecC], by rw [ecI], (((hbw.alloc (by omega) _).trans (hb1.mono (by simp; omega))).setCell (by simp; omega) _).trans (hb2.mono (by simp; omega))⟩
          case measure => simp [intOf]; omega
      · have HF : Hid (upk n false = (1, true)) := hF
        have HT : Hid (upk n true = (1, true)) := hT
        clear hF hT
        go_wp2_with (first
          | ((with_reducible show wpList _ _ _ (Oper.mk _ (Op.load 26 _) _ _ _ _ :: _) _ _); refine wpList_load_row rfl 26 _ rfl w.heap.size rfl 26 _ (0, 0) _ hrow Try.underlying26 rfl (by kernel_rfl) ?_)
          | ((with_reducible show wpList _ _ _ (Oper.mk _ (Op.load 26 _) _ _ _ _ :: _) _ _); refine wpList_load_row rfl 26 _ rfl wr.heap.size rfl 26 _ (0, 0) _ (heap_alloc_last _ _) Try.underlying26 rfl (by kernel_rfl) ?_)
          | ((with_reducible show wpList _ _ _ (Oper.mk _ (Op.store 26 _ _) _ _ _ _ :: _) _ _); refine wpList_store_fresh rfl 26 _ _ rfl #[.int .u64 a0, .int .u64 a1, .int .u64 a2, .int .u64 a3, .int .u64 a4, .int .u64 a5, .int .u64 a6, .int .u64 a7, .int .u32 a8, .int .u32 a9, .bool b10, .int .u8 k, .bool b12, .bool b13, .bool b14, .bool b15, .bool r, .bool b17] 26 _ rfl rfl (by kernel_rfl) (by kernel_rfl) (by kernel_rfl) ?_))
        refine (zzUpkeep_any _ _ _ _ _ _ _ _ _ _ _ _ _ _ _ _ _ _ _ _ HF _).mono ?_
        rintro e w1 ⟨rfl, hb1⟩
        have hr1 : w1.heap[wr.heap.size]? = some (.cells #[.int .u64 a0, .int .u64 a1, .int .u64 a2, .int .u64 a3, .int .u64 a4, .int .u64 a5, .int .u64 a6, .int .u64 a7, .int .u32 a8, .int .u32 a9, .bool b10, .int .u8 n, .bool b12, .bool b13, .bool b14, .bool b15, .bool false, .bool b17] 26 (0, 0)) := by rw [hb1.block _ (by simp)]; exact heap_alloc_last _ _
        have hz1 := frozen_row w1 wr.heap.size 16 _ _ hr1
        have hc1 : w1.cell? ⟨wr.heap.size, 16, none⟩ = some (.bool false) := by rw [cell_of_row _ _ _ _ _ _ hr1]; rfl
        have hr2 : (w1.setCell ⟨wr.heap.size, 16, none⟩ (.bool true)).heap[wr.heap.size]? = some (.cells #[.int .u64 a0, .int .u64 a1, .int .u64 a2, .int .u64 a3, .int .u64 a4, .int .u64 a5, .int .u64 a6, .int .u64 a7, .int .u32 a8, .int .u32 a9, .bool b10, .int .u8 n, .bool b12, .bool b13, .bool b14, .bool b15, .bool true, .bool b17] 26 (0, 0)) := heap_setCell_row w1 _ 16 _ _ _ _ hr1
        have hs1 : wr.heap.size + 1 ≤ w1.heap.size := by have := hb1.size; simpa using this
        have hs0 : w.heap.size + 1 ≤ wr.heap.size := by have := hbw.size; simpa using this
        go_wp2_with (((with_reducible show wpList _ _ _ (Oper.mk _ (Op.load 26 _) _ _ _ _ :: _) _ _); refine wpList_load_row rfl 26 _ rfl wr.heap.size rfl 26 _ (0, 0) _ hr2 Try.underlying26 rfl (by kernel_rfl) ?_))
        refine (zzUpkeep_any _ _ _ _ _ _ _ _ _ _ _ _ _ _ _ _ _ _ _ _ HT _).mono ?_
        rintro e w2 ⟨rfl, hb2⟩
        clear hr1 hr2 hc1 hz1
        go_wp2
        all_goals
          go_roundw
          case rel =>
            have ecP : cP (n + 1) = cP n := by simp [cP, HT.out]
            have ecF : cF (n + 1) = cF n + 1 := by simp [cF, HT.out]
            have ecC : cC (n + 1) = cC n := by simp [cC, HT.out]
            have ecI : cI (n + 1) = cI n := by simp [cI, HT.out]
            exact ⟨n + 1, by omega, by go_num, by rw [ecP], by rw [ecF]; go_num, by rw [ecC], by rw [ecI], (((hbw.alloc (by omega) _).trans (hb1.mono (by simp; omega))).setCell (by simp; omega) _).trans (hb2.mono (by simp; omega))⟩
          case measure => simp [intOf]; omega
      · have HF : Hid (upk n false = (2, false)) := hF
        have HT : Hid (upk n true = (2, true)) := hT
        clear hF hT
        go_wp2_with (first
          | ((with_reducible show wpList _ _ _ (Oper.mk _ (Op.load 26 _) _ _ _ _ :: _) _ _); refine wpList_load_row rfl 26 _ rfl w.heap.size rfl 26 _ (0, 0) _ hrow Try.underlying26 rfl (by kernel_rfl) ?_)
          | ((with_reducible show wpList _ _ _ (Oper.mk _ (Op.load 26 _) _ _ _ _ :: _) _ _); refine wpList_load_row rfl 26 _ rfl wr.heap.size rfl 26 _ (0, 0) _ (heap_alloc_last _ _) Try.underlying26 rfl (by kernel_rfl) ?_)
          | ((with_reducible show wpList _ _ _ (Oper.mk _ (Op.store 26 _ _) _ _ _ _ :: _) _ _); refine wpList_store_fresh rfl 26 _ _ rfl #[.int .u64 a0, .int .u64 a1, .int .u64 a2, .int .u64 a3, .int .u64 a4, .int .u64 a5, .int .u64 a6, .int .u64 a7, .int .u32 a8, .int .u32 a9, .bool b10, .int .u8 k, .bool b12, .bool b13, .bool b14, .bool b15, .bool r, .bool b17] 26 _ rfl rfl (by kernel_rfl) (by kernel_rfl) (by kernel_rfl) ?_))
        refine (zzUpkeep_any _ _ _ _ _ _ _ _ _ _ _ _ _ _ _ _ _ _ _ _ HF _).mono ?_
        rintro e w1 ⟨rfl, hb1⟩
        have hr1 : w1.heap[wr.heap.size]? = some (.cells #[.int .u64 a0, .int .u64 a1, .int .u64 a2, .int .u64 a3, .int .u64 a4, .int .u64 a5, .int .u64 a6, .int .u64 a7, .int .u32 a8, .int .u32 a9, .bool b10, .int .u8 n, .bool b12, .bool b13, .bool b14, .bool b15, .bool false, .bool b17] 26 (0, 0)) := by rw [hb1.block _ (by simp)]; exact heap_alloc_last _ _
        have hz1 := frozen_row w1 wr.heap.size 16 _ _ hr1
        have hc1 : w1.cell? ⟨wr.heap.size, 16, none⟩ = some (.bool false) := by rw [cell_of_row _ _ _ _ _ _ hr1]; rfl
        have hr2 : (w1.setCell ⟨wr.heap.size, 16, none⟩ (.bool true)).heap[wr.heap.size]? = some (.cells #[.int .u64 a0, .int .u64 a1, .int .u64 a2, .int .u64 a3, .int .u64 a4, .int .u64 a5, .int .u64 a6, .int .u64 a7, .int .u32 a8, .int .u32 a9, .bool b10, .int .u8 n, .bool b12, .bool b13, .bool b14, .bool b15, .bool true, .bool b17] 26 (0, 0)) := heap_setCell_row w1 _ 16 _ _ _ _ hr1
        have hs1 : wr.heap.size + 1 ≤ w1.heap.size := by have := hb1.size; simpa using this
        have hs0 : w.heap.size + 1 ≤ wr.heap.size := by have := hbw.size; simpa using this
        go_wp2_with (((with_reducible show wpList _ _ _ (Oper.mk _ (Op.load 26 _) _ _ _ _ :: _) _ _); refine wpList_load_row rfl 26 _ rfl wr.heap.size rfl 26 _ (0, 0) _ hr2 Try.underlying26 rfl (by kernel_rfl) ?_))
        refine (zzUpkeep_any _ _ _ _ _ _ _ _ _ _ _ _ _ _ _ _ _ _ _ _ HT _).mono ?_
        rintro e w2 ⟨rfl, hb2⟩
        clear hr1 hr2 hc1 hz1
        go_wp2
        all_goals
          go_roundw
          case rel =>
            have ecP : cP (n + 1) = cP n := by simp [cP, HT.out]
            have ecF : cF (n + 1) = cF n := by simp [cF, HT.out]
            have ecC : cC (n + 1) = cC n + 1 := by simp [cC, HT.out]
            have ecI : cI (n + 1) = cI n := by simp [cI, HT.out]
            exact ⟨n + 1, by omega, by go_num, by rw [ecP], by rw [ecF], by rw [ecC]; go_num, by rw [ecI], (((hbw.alloc (by omega) _).trans (hb1.mono (by simp; omega))).setCell (by simp; omega) _).trans (hb2.mono (by simp; omega))⟩
          case measure => simp [intOf]; omega
      · have HF : Hid (upk n false = (0, false)) := hF
        have HT : Hid (upk n true = (0, false)) := hT
        clear hF hT
        go_wp2_with (first
          | ((with_reducible show wpList _ _ _ (Oper.mk _ (Op.load 26 _) _ _ _ _ :: _) _ _); refine wpList_load_row rfl 26 _ rfl w.heap.size rfl 26 _ (0, 0) _ hrow Try.underlying26 rfl (by kernel_rfl) ?_)
          | ((with_reducible show wpList _ _ _ (Oper.mk _ (Op.load 26 _) _ _ _ _ :: _) _ _); refine wpList_load_row rfl 26 _ rfl wr.heap.size rfl 26 _ (0, 0) _ (heap_alloc_last _ _) Try.underlying26 rfl (by kernel_rfl) ?_)
          | ((with_reducible show wpList _ _ _ (Oper.mk _ (Op.store 26 _ _) _ _ _ _ :: _) _ _); refine wpList_store_fresh rfl 26 _ _ rfl #[.int .u64 a0, .int .u64 a1, .int .u64 a2, .int .u64 a3, .int .u64 a4, .int .u64 a5, .int .u64 a6, .int .u64 a7, .int .u32 a8, .int .u32 a9, .bool b10, .int .u8 k, .bool b12, .bool b13, .bool b14, .bool b15, .bool r, .bool b17] 26 _ rfl rfl (by kernel_rfl) (by kernel_rfl) (by kernel_rfl) ?_))
        refine (zzUpkeep_any _ _ _ _ _ _ _ _ _ _ _ _ _ _ _ _ _ _ _ _ HF _).mono ?_
        rintro e w1 ⟨rfl, hb1⟩
        have hr1 : w1.heap[wr.heap.size]? = some (.cells #[.int .u64 a0, .int .u64 a1, .int .u64 a2, .int .u64 a3, .int .u64 a4, .int .u64 a5, .int .u64 a6, .int .u64 a7, .int .u32 a8, .int .u32 a9, .bool b10, .int .u8 n, .bool b12, .bool b13, .bool b14, .bool b15, .bool false, .bool b17] 26 (0, 0)) := by rw [hb1.block _ (by simp)]; exact heap_alloc_last _ _
        have hz1 := frozen_row w1 wr.heap.size 16 _ _ hr1
        have hc1 : w1.cell? ⟨wr.heap.size, 16, none⟩ = some (.bool false) := by rw [cell_of_row _ _ _ _ _ _ hr1]; rfl
        have hr2 : (w1.setCell ⟨wr.heap.size, 16, none⟩ (.bool true)).heap[wr.heap.size]? = some (.cells #[.int .u64 a0, .int .u64 a1, .int .u64 a2, .int .u64 a3, .int .u64 a4, .int .u64 a5, .int .u64 a6, .int .u64 a7, .int .u32 a8, .int .u32 a9, .bool b10, .int .u8 n, .bool b12, .bool b13, .bool b14, .bool b15, .bool true, .bool b17] 26 (0, 0)) := heap_setCell_row w1 _ 16 _ _ _ _ hr1
        have hs1 : wr.heap.size + 1 ≤ w1.heap.size := by have := hb1.size; simpa using this
        have hs0 : w.heap.size + 1 ≤ wr.heap.size := by have := hbw.size; simpa using this
        go_wp2_with (((with_reducible show wpList _ _ _ (Oper.mk _ (Op.load 26 _) _ _ _ _ :: _) _ _); refine wpList_load_row rfl 26 _ rfl wr.heap.size rfl 26 _ (0, 0) _ hr2 Try.underlying26 rfl (by kernel_rfl) ?_))
        refine (zzUpkeep_any _ _ _ _ _ _ _ _ _ _ _ _ _ _ _ _ _ _ _ _ HT _).mono ?_
        rintro e w2 ⟨rfl, hb2⟩
        clear hr1 hr2 hc1 hz1
        go_wp2
        all_goals
          go_roundw
          case rel =>
            have ecP : cP (n + 1) = cP n := by simp [cP, HT.out]
            have ecF : cF (n + 1) = cF n := by simp [cF, HT.out]
            have ecC : cC (n + 1) = cC n := by simp [cC, HT.out]
            have ecI : cI (n + 1) = cI n + 1 := by simp [cI, HT.out]
            exact ⟨n + 1, by omega, by go_num, by rw [ecP], by rw [ecF], by rw [ecC], by rw [ecI]; go_num, (((hbw.alloc (by omega) _).trans (hb1.mono (by simp; omega))).setCell (by simp; omega) _).trans (hb2.mono (by simp; omega))⟩
          case measure => simp [intOf]; omega
    · obtain rfl : n = 256 := by omega
      clear hPl hFl hCl hIl
      rcases hu : upk k r with ⟨t, ok⟩
      have HU : Hid (upk k r = (t, ok)) := hu
      clear hu
      rw [cP_end, cF_end, cC_end, cI_end]
      go_wp2_with (((with_reducible show wpList _ _ _ (Oper.mk _ (Op.load 26 _) _ _ _ _ :: _) _ _); refine wpList_load_row rfl 26 _ rfl w.heap.size rfl 26 _ (0, 0) _ hrow Try.underlying26 rfl (by kernel_rfl) ?_))
      refine (zzUpkeep_any _ _ _ _ _ _ _ _ _ _ _ _ _ _ _ _ _ _ _ _ HU _).mono ?_
      rintro e w1 ⟨rfl, hb1⟩
      have hs0 : w.heap.size + 1 ≤ wr.heap.size := by have := hbw.size; simpa using this
      have hr1 : w1.heap[w.heap.size]? = some (.cells #[.int .u64 a0, .int .u64 a1, .int .u64 a2, .int .u64 a3, .int .u64 a4, .int .u64 a5, .int .u64 a6, .int .u64 a7, .int .u32 a8, .int .u32 a9, .bool b10, .int .u8 k, .bool b12, .bool b13, .bool b14, .bool b15, .bool r, .bool b17] 26 (0, 0)) := by rw [hb1.block _ (by omega)]; exact hrow
      have hc11 : w1.cell? ⟨w.heap.size, 11, none⟩ = some (.int .u8 k) := by rw [cell_of_row _ _ _ _ _ _ hr1]; rfl
      have hc16 : w1.cell? ⟨w.heap.size, 16, none⟩ = some (.bool r) := by rw [cell_of_row _ _ _ _ _ _ hr1]; rfl
      clear hr1 hrow
      go_wp2_with ((with_reducible show wpList _ _ _ (Oper.mk _ (Op.build 26 _) _ _ _ _ :: _) _ _); refine wpList_build_of rfl 26 _ rfl #[.int .u64 0, .int .u64 0, .int .u64 0, .int .u64 0, .int .u64 0, .int .u64 0, .int .u64 0, .int .u64 0, .int .u32 0, .int .u32 0, .bool false, .int .u8 k, .bool false, .bool false, .bool false, .bool false, .bool r, .bool false] (by kernel_rfl) ?_)
      refine (zzUpkeep_any _ _ _ _ _ _ _ _ _ _ _ _ _ _ _ _ _ _ _ _ HU _).mono ?_
      rintro e w2 ⟨rfl, hb2⟩
      go_wp2
      go_ret
      exact ⟨rfl, (((Below.refl _ _).alloc (Nat.le_refl _) _).trans (hbw.mono (by omega))).trans ((hb1.mono (by omega)).trans (hb2.mono (by have := hb1.size; omega)))⟩

end Go.Proofs.Qxb6617286a
