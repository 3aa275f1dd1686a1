/-
  FnNamedNamesTheCarriedPeers (3): the walk.
-/
import Derived.Test.Qxb6617286aNmz
import Derived.WalkSmall
import Derived.Deep.QuietTactic
import Derived.BigQuiet
import Derived.Lib.SliceRun
namespace Go.Proofs.Qxb6617286a
open Go.RowKit

/-- how many ids a kind names -/
def cls (k : Int) : Nat := if k = 2 ∨ k = 7 ∨ k = 10 then 1 else if k = 3 then 2 else if k = 9 then 4 else 0
/-- how many kinds below n name c ids -/
def nc (c : Nat) : Nat → Nat | 0 => 0 | n + 1 => nc c n + if cls n = c then 1 else 0
theorem nc_le (c n : Nat) : nc c n ≤ n := by
  induction n with
  | zero => simp [nc]
  | succ n ih => simp only [nc]; split <;> omega
theorem nc0_end : nc 0 256 = 251 := by kernel_rfl
theorem nc1_end : nc 1 256 = 3 := by kernel_rfl
theorem nc2_end : nc 2 256 = 1 := by kernel_rfl
theorem nc4_end : nc 4 256 = 1 := by kernel_rfl
theorem nm_len (k a2 a3 a5 a6 a7 : Int) : (nm k a2 a3 a5 a6 a7).length ≤ 4 := by
  unfold nm; split
  · simp
  · split
    · simp
    · split <;> simp
theorem nm_sorts (n : Nat) (a2 a3 a5 a6 a7 : Int) :
    (n < 12 ∧ cls n = 1 ∧ nm n a2 a3 a5 a6 a7 = [a5]) ∨ (n < 12 ∧ cls n = 2 ∧ nm n a2 a3 a5 a6 a7 = [a6, a7]) ∨
    (n < 12 ∧ cls n = 4 ∧ nm n a2 a3 a5 a6 a7 = [a2, a3, a6, a7]) ∨ (cls n = 0 ∧ nm n a2 a3 a5 a6 a7 = []) := by
  unfold nm cls
  split
  · left; exact ⟨by omega, rfl, rfl⟩
  · split
    · right; left; exact ⟨by omega, rfl, rfl⟩
    · split
      · right; right; left; exact ⟨by omega, rfl, rfl⟩
      · right; right; right; exact ⟨rfl, rfl⟩

set_option maxRecDepth 100000 in
set_option maxHeartbeats 4000000 in
theorem namedLaw_any (a0 a1 a2 a3 a4 a5 a6 a7 a8 a9 : Int) (b10 : Bool) (k : Int) (b12 b13 b14 b15 r b17 : Bool) (w : World) :
    Calls Try.prog 3 #[.agg #[.int .u64 a0, .int .u64 a1, .int .u64 a2, .int .u64 a3, .int .u64 a4, .int .u64 a5, .int .u64 a6, .int .u64 a7, .int .u32 a8, .int .u32 a9, .bool b10, .int .u8 k, .bool b12, .bool b13, .bool b14, .bool b15, .bool r, .bool b17]] w
      fun e w' => e = .returned (.bool true) ∧ Below w.heap.size w w' := by
  have qE : ∀ (w : World) (a : Option Addr) (n c n' c' : Nat), (binOp .eql 27 (.slice a n c) (.slice none n' c')).run Try.prog w = .ok (.bool a.isNone) w := fun w a n c n' c' => Lib.run_eql_slice_nil w _ _ a n c n' c' Try.underlying27
  have qN : ∀ (w : World) (a : Option Addr) (n c n' c' : Nat), (binOp .neq 27 (.slice a n c) (.slice none n' c')).run Try.prog w = .ok (.bool (!a.isNone)) w := fun w a n c n' c' => run_neq_slice_nil_any w _ _ a n c n' c' Try.underlying27
  go_enter Try.func3, Try.ntmps3
  go_wp2_with fail
  go_loopw [3, 4, 5, 6, 7] (fun c0 c1 c2 c4 kk wr => ∃ n : Nat, n ≤ 256 ∧ kk = .int .i64 n ∧ c0 = .int .i64 (nc 0 n) ∧ c1 = .int .i64 (nc 1 n) ∧ c2 = .int .i64 (nc 2 n) ∧ c4 = .int .i64 (nc 4 n) ∧ Below (w.heap.size + 1) (w.alloc (.cells #[.int .u64 a0, .int .u64 a1, .int .u64 a2, .int .u64 a3, .int .u64 a4, .int .u64 a5, .int .u64 a6, .int .u64 a7, .int .u32 a8, .int .u32 a9, .bool b10, .int .u8 k, .bool b12, .bool b13, .bool b14, .bool b15, .bool r, .bool b17] 26)) wr) (fun _ _ _ _ kk _ => 256 - (intOf kk).toNat)
  case atStart => exact ⟨0, by omega, rfl, rfl, rfl, rfl, rfl, Below.refl _ _⟩
  case round =>
    obtain ⟨n, hn, rfl, rfl, rfl, rfl, rfl, hbw⟩ := hrel
    have h0l := nc_le 0 n
    have h1l := nc_le 1 n
    have h2l := nc_le 2 n
    have h4l := nc_le 4 n
    have hrow : wr.heap[w.heap.size]? = some (.cells #[.int .u64 a0, .int .u64 a1, .int .u64 a2, .int .u64 a3, .int .u64 a4, .int .u64 a5, .int .u64 a6, .int .u64 a7, .int .u32 a8, .int .u32 a9, .bool b10, .int .u8 k, .bool b12, .bool b13, .bool b14, .bool b15, .bool r, .bool b17] 26 (0, 0)) := by rw [hbw.block _ (by omega)]; exact heap_alloc_last _ _
    by_cases hlt : n < 256
    · rcases nm_sorts n a2 a3 a5 a6 a7 with ⟨h12, hC, hN⟩ | ⟨h12, hC, hN⟩ | ⟨h12, hC, hN⟩ | ⟨hC, hN⟩
      · have HC : Hid (cls n = 1) := hC
        have HN : Hid (nm n a2 a3 a5 a6 a7 = [a5]) := hN
        clear hC hN
        have hs0 : w.heap.size + 1 ≤ wr.heap.size := by have := hbw.size; simpa using this
        go_wp2_with (first
          | ((with_reducible show wpList _ _ _ (Oper.mk _ (Op.load 26 _) _ _ _ _ :: _) _ _); refine wpList_load_row rfl 26 _ rfl w.heap.size rfl 26 _ (0, 0) _ hrow Try.underlying26 rfl (by kernel_rfl) ?_)
          | ((with_reducible show wpList _ _ _ (Oper.mk _ (Op.load 26 _) _ _ _ _ :: _) _ _); refine wpList_load_row rfl 26 _ rfl wr.heap.size rfl 26 _ (0, 0) _ (heap_alloc_last _ _) Try.underlying26 rfl (by kernel_rfl) ?_)
          | ((with_reducible show wpList _ _ _ (Oper.mk _ (Op.store 26 _ _) _ _ _ _ :: _) _ _); refine wpList_store_fresh rfl 26 _ _ rfl #[.int .u64 a0, .int .u64 a1, .int .u64 a2, .int .u64 a3, .int .u64 a4, .int .u64 a5, .int .u64 a6, .int .u64 a7, .int .u32 a8, .int .u32 a9, .bool b10, .int .u8 k, .bool b12, .bool b13, .bool b14, .bool b15, .bool r, .bool b17] 26 _ rfl rfl (by kernel_rfl) (by kernel_rfl) (by kernel_rfl) ?_))
        refine (zzNamed_any _ _ _ _ _ _ _ _ _ _ _ _ _ _ _ _ _ _  _).mono ?_
        intro e w1 hr
        rw [HN.out] at hr
        obtain ⟨hb1, ⟨hl, he⟩ | ⟨hl, b, off, hbb, hlt1, he, hc, hf⟩⟩ := hr
        · simp at hl
        · subst he
          have f0 : w1.cell? ⟨b, off, none⟩ = some (.int .u64 a5) := by simpa using hc 0 (by simp)
          have hr1 : w1.heap[w.heap.size]? = some (.cells #[.int .u64 a0, .int .u64 a1, .int .u64 a2, .int .u64 a3, .int .u64 a4, .int .u64 a5, .int .u64 a6, .int .u64 a7, .int .u32 a8, .int .u32 a9, .bool b10, .int .u8 k, .bool b12, .bool b13, .bool b14, .bool b15, .bool r, .bool b17] 26 (0, 0)) := by rw [hb1.block _ (by simp; omega), Below.heap_alloc _ _ _ (by omega)]; exact hrow
          have g5 : w1.cell? ⟨w.heap.size, 5, none⟩ = some (.int .u64 a5) := by rw [cell_of_row _ _ _ _ _ _ hr1]; rfl
          clear hr1 hrow hc hf hl
          simp only [List.length_cons, List.length_nil, Nat.zero_add]
          go_wp2_with fail
          go_quiet (fail)
          go_wp2
          all_goals
            go_roundw
            case rel =>
              have e0 : nc 0 (n + 1) = nc 0 n := by simp [nc, HC.out]
              have e1 : nc 1 (n + 1) = nc 1 n + 1 := by simp [nc, HC.out]
              have e2 : nc 2 (n + 1) = nc 2 n := by simp [nc, HC.out]
              have e4 : nc 4 (n + 1) = nc 4 n := by simp [nc, HC.out]
              exact ⟨n + 1, by omega, by go_num, by rw [e0], by rw [e1]; go_num, by rw [e2], by rw [e4], below_drewN ((hbw.alloc (by omega) _).trans (hb1.mono (by simp; omega))) _⟩
            case measure => simp [intOf]; omega
      · have HC : Hid (cls n = 2) := hC
        have HN : Hid (nm n a2 a3 a5 a6 a7 = [a6, a7]) := hN
        clear hC hN
        have hs0 : w.heap.size + 1 ≤ wr.heap.size := by have := hbw.size; simpa using this
        go_wp2_with (first
          | ((with_reducible show wpList _ _ _ (Oper.mk _ (Op.load 26 _) _ _ _ _ :: _) _ _); refine wpList_load_row rfl 26 _ rfl w.heap.size rfl 26 _ (0, 0) _ hrow Try.underlying26 rfl (by kernel_rfl) ?_)
          | ((with_reducible show wpList _ _ _ (Oper.mk _ (Op.load 26 _) _ _ _ _ :: _) _ _); refine wpList_load_row rfl 26 _ rfl wr.heap.size rfl 26 _ (0, 0) _ (heap_alloc_last _ _) Try.underlying26 rfl (by kernel_rfl) ?_)
          | ((with_reducible show wpList _ _ _ (Oper.mk _ (Op.store 26 _ _) _ _ _ _ :: _) _ _); refine wpList_store_fresh rfl 26 _ _ rfl #[.int .u64 a0, .int .u64 a1, .int .u64 a2, .int .u64 a3, .int .u64 a4, .int .u64 a5, .int .u64 a6, .int .u64 a7, .int .u32 a8, .int .u32 a9, .bool b10, .int .u8 k, .bool b12, .bool b13, .bool b14, .bool b15, .bool r, .bool b17] 26 _ rfl rfl (by kernel_rfl) (by kernel_rfl) (by kernel_rfl) ?_))
        refine (zzNamed_any _ _ _ _ _ _ _ _ _ _ _ _ _ _ _ _ _ _  _).mono ?_
        intro e w1 hr
        rw [HN.out] at hr
        obtain ⟨hb1, ⟨hl, he⟩ | ⟨hl, b, off, hbb, hlt1, he, hc, hf⟩⟩ := hr
        · simp at hl
        · subst he
          have f0 : w1.cell? ⟨b, off, none⟩ = some (.int .u64 a6) := by simpa using hc 0 (by simp)
          have f1 : w1.cell? ⟨b, off + 1, none⟩ = some (.int .u64 a7) := by simpa using hc 1 (by simp)
          have hr1 : w1.heap[w.heap.size]? = some (.cells #[.int .u64 a0, .int .u64 a1, .int .u64 a2, .int .u64 a3, .int .u64 a4, .int .u64 a5, .int .u64 a6, .int .u64 a7, .int .u32 a8, .int .u32 a9, .bool b10, .int .u8 k, .bool b12, .bool b13, .bool b14, .bool b15, .bool r, .bool b17] 26 (0, 0)) := by rw [hb1.block _ (by simp; omega), Below.heap_alloc _ _ _ (by omega)]; exact hrow
          have g6 : w1.cell? ⟨w.heap.size, 6, none⟩ = some (.int .u64 a6) := by rw [cell_of_row _ _ _ _ _ _ hr1]; rfl
          have g7 : w1.cell? ⟨w.heap.size, 7, none⟩ = some (.int .u64 a7) := by rw [cell_of_row _ _ _ _ _ _ hr1]; rfl
          clear hr1 hrow hc hf hl
          simp only [List.length_cons, List.length_nil, Nat.zero_add, Nat.reduceAdd]
          go_wp2_with fail
          go_quiet (fail)
          go_wp2
          all_goals
            go_roundw
            case rel =>
              have e0 : nc 0 (n + 1) = nc 0 n := by simp [nc, HC.out]
              have e1 : nc 1 (n + 1) = nc 1 n := by simp [nc, HC.out]
              have e2 : nc 2 (n + 1) = nc 2 n + 1 := by simp [nc, HC.out]
              have e4 : nc 4 (n + 1) = nc 4 n := by simp [nc, HC.out]
              exact ⟨n + 1, by omega, by go_num, by rw [e0], by rw [e1], by rw [e2]; go_num, by rw [e4], below_drewN ((hbw.alloc (by omega) _).trans (hb1.mono (by simp; omega))) _⟩
            case measure => simp [intOf]; omega
      · have HC : Hid (cls n = 4) := hC
        have HN : Hid (nm n a2 a3 a5 a6 a7 = [a2, a3, a6, a7]) := hN
        clear hC hN
        have hs0 : w.heap.size + 1 ≤ wr.heap.size := by have := hbw.size; simpa using this
        go_wp2_with (first
          | ((with_reducible show wpList _ _ _ (Oper.mk _ (Op.load 26 _) _ _ _ _ :: _) _ _); refine wpList_load_row rfl 26 _ rfl w.heap.size rfl 26 _ (0, 0) _ hrow Try.underlying26 rfl (by kernel_rfl) ?_)
          | ((with_reducible show wpList _ _ _ (Oper.mk _ (Op.load 26 _) _ _ _ _ :: _) _ _); refine wpList_load_row rfl 26 _ rfl wr.heap.size rfl 26 _ (0, 0) _ (heap_alloc_last _ _) Try.underlying26 rfl (by kernel_rfl) ?_)
          | ((with_reducible show wpList _ _ _ (Oper.mk _ (Op.store 26 _ _) _ _ _ _ :: _) _ _); refine wpList_store_fresh rfl 26 _ _ rfl #[.int .u64 a0, .int .u64 a1, .int .u64 a2, .int .u64 a3, .int .u64 a4, .int .u64 a5, .int .u64 a6, .int .u64 a7, .int .u32 a8, .int .u32 a9, .bool b10, .int .u8 k, .bool b12, .bool b13, .bool b14, .bool b15, .bool r, .bool b17] 26 _ rfl rfl (by kernel_rfl) (by kernel_rfl) (by kernel_rfl) ?_))
        refine (zzNamed_any _ _ _ _ _ _ _ _ _ _ _ _ _ _ _ _ _ _  _).mono ?_
        intro e w1 hr
        rw [HN.out] at hr
        obtain ⟨hb1, ⟨hl, he⟩ | ⟨hl, b, off, hbb, hlt1, he, hc, hf⟩⟩ := hr
        · simp at hl
        · subst he
          have f0 : w1.cell? ⟨b, off, none⟩ = some (.int .u64 a2) := by simpa using hc 0 (by simp)
          have f1 : w1.cell? ⟨b, off + 1, none⟩ = some (.int .u64 a3) := by simpa using hc 1 (by simp)
          have f2 : w1.cell? ⟨b, off + 2, none⟩ = some (.int .u64 a6) := by simpa using hc 2 (by simp)
          have f3 : w1.cell? ⟨b, off + 3, none⟩ = some (.int .u64 a7) := by simpa using hc 3 (by simp)
          have hr1 : w1.heap[w.heap.size]? = some (.cells #[.int .u64 a0, .int .u64 a1, .int .u64 a2, .int .u64 a3, .int .u64 a4, .int .u64 a5, .int .u64 a6, .int .u64 a7, .int .u32 a8, .int .u32 a9, .bool b10, .int .u8 k, .bool b12, .bool b13, .bool b14, .bool b15, .bool r, .bool b17] 26 (0, 0)) := by rw [hb1.block _ (by simp; omega), Below.heap_alloc _ _ _ (by omega)]; exact hrow
          have g2 : w1.cell? ⟨w.heap.size, 2, none⟩ = some (.int .u64 a2) := by rw [cell_of_row _ _ _ _ _ _ hr1]; rfl
          have g3 : w1.cell? ⟨w.heap.size, 3, none⟩ = some (.int .u64 a3) := by rw [cell_of_row _ _ _ _ _ _ hr1]; rfl
          have g6 : w1.cell? ⟨w.heap.size, 6, none⟩ = some (.int .u64 a6) := by rw [cell_of_row _ _ _ _ _ _ hr1]; rfl
          have g7 : w1.cell? ⟨w.heap.size, 7, none⟩ = some (.int .u64 a7) := by rw [cell_of_row _ _ _ _ _ _ hr1]; rfl
          clear hr1 hrow hc hf hl
          simp only [List.length_cons, List.length_nil, Nat.zero_add, Nat.reduceAdd]
          go_wp2_with fail
          go_quiet (fail)
          go_wp2
          all_goals
            go_roundw
            case rel =>
              have e0 : nc 0 (n + 1) = nc 0 n := by simp [nc, HC.out]
              have e1 : nc 1 (n + 1) = nc 1 n := by simp [nc, HC.out]
              have e2 : nc 2 (n + 1) = nc 2 n := by simp [nc, HC.out]
              have e4 : nc 4 (n + 1) = nc 4 n + 1 := by simp [nc, HC.out]
              exact ⟨n + 1, by omega, by go_num, by rw [e0], by rw [e1], by rw [e2], by rw [e4]; go_num, below_drewN ((hbw.alloc (by omega) _).trans (hb1.mono (by simp; omega))) _⟩
            case measure => simp [intOf]; omega
      · have HC : Hid (cls n = 0) := hC
        have HN : Hid (nm n a2 a3 a5 a6 a7 = []) := hN
        clear hC hN
        have hs0 : w.heap.size + 1 ≤ wr.heap.size := by have := hbw.size; simpa using this
        go_wp2_with (first
          | ((with_reducible show wpList _ _ _ (Oper.mk _ (Op.load 26 _) _ _ _ _ :: _) _ _); refine wpList_load_row rfl 26 _ rfl w.heap.size rfl 26 _ (0, 0) _ hrow Try.underlying26 rfl (by kernel_rfl) ?_)
          | ((with_reducible show wpList _ _ _ (Oper.mk _ (Op.load 26 _) _ _ _ _ :: _) _ _); refine wpList_load_row rfl 26 _ rfl wr.heap.size rfl 26 _ (0, 0) _ (heap_alloc_last _ _) Try.underlying26 rfl (by kernel_rfl) ?_)
          | ((with_reducible show wpList _ _ _ (Oper.mk _ (Op.store 26 _ _) _ _ _ _ :: _) _ _); refine wpList_store_fresh rfl 26 _ _ rfl #[.int .u64 a0, .int .u64 a1, .int .u64 a2, .int .u64 a3, .int .u64 a4, .int .u64 a5, .int .u64 a6, .int .u64 a7, .int .u32 a8, .int .u32 a9, .bool b10, .int .u8 k, .bool b12, .bool b13, .bool b14, .bool b15, .bool r, .bool b17] 26 _ rfl rfl (by kernel_rfl) (by kernel_rfl) (by kernel_rfl) ?_))
        refine (zzNamed_any _ _ _ _ _ _ _ _ _ _ _ _ _ _ _ _ _ _  _).mono ?_
        intro e w1 hr
        rw [HN.out] at hr
        obtain ⟨hb1, ⟨hl, he⟩ | ⟨hl, b, off, hbb, hlt1, he, hc, hf⟩⟩ := hr
        · subst he
          go_wp2
          all_goals
            go_roundw
            case rel =>
              have e0 : nc 0 (n + 1) = nc 0 n + 1 := by simp [nc, HC.out]
              have e1 : nc 1 (n + 1) = nc 1 n := by simp [nc, HC.out]
              have e2 : nc 2 (n + 1) = nc 2 n := by simp [nc, HC.out]
              have e4 : nc 4 (n + 1) = nc 4 n := by simp [nc, HC.out]
              exact ⟨n + 1, by omega, by go_num, by rw [e0]; go_num, by rw [e1], by rw [e2], by rw [e4], (hbw.alloc (by omega) _).trans (hb1.mono (by simp; omega))⟩
            case measure => simp [intOf]; omega
        · exact absurd rfl hl
    · obtain rfl : n = 256 := by omega
      clear h0l h1l h2l h4l
      obtain ⟨l, hl⟩ : ∃ l, nm k a2 a3 a5 a6 a7 = l := ⟨_, rfl⟩
      have HL : Hid (nm k a2 a3 a5 a6 a7 = l) := hl
      have hl4 : l.length ≤ 4 := by rw [← hl]; exact nm_len _ _ _ _ _ _
      clear hl
      have hs0 : w.heap.size + 1 ≤ wr.heap.size := by have := hbw.size; simpa using this
      have k2 : wr.cell? ⟨w.heap.size, 2, none⟩ = some (.int .u64 a2) := by rw [cell_of_row _ _ _ _ _ _ hrow]; rfl
      have k3 : wr.cell? ⟨w.heap.size, 3, none⟩ = some (.int .u64 a3) := by rw [cell_of_row _ _ _ _ _ _ hrow]; rfl
      have k5 : wr.cell? ⟨w.heap.size, 5, none⟩ = some (.int .u64 a5) := by rw [cell_of_row _ _ _ _ _ _ hrow]; rfl
      have k6 : wr.cell? ⟨w.heap.size, 6, none⟩ = some (.int .u64 a6) := by rw [cell_of_row _ _ _ _ _ _ hrow]; rfl
      have k7 : wr.cell? ⟨w.heap.size, 7, none⟩ = some (.int .u64 a7) := by rw [cell_of_row _ _ _ _ _ _ hrow]; rfl
      have k11 : wr.cell? ⟨w.heap.size, 11, none⟩ = some (.int .u8 k) := by rw [cell_of_row _ _ _ _ _ _ hrow]; rfl
      have hrow' : (wr.alloc (.cells #[.int .u64 0, .int .u64 0, .int .u64 a2, .int .u64 a3, .int .u64 0, .int .u64 a5, .int .u64 a6, .int .u64 a7, .int .u32 0, .int .u32 0, .bool false, .int .u8 k, .bool false, .bool false, .bool false, .bool false, .bool false, .bool false] 26)).heap[w.heap.size]? = some (.cells #[.int .u64 a0, .int .u64 a1, .int .u64 a2, .int .u64 a3, .int .u64 a4, .int .u64 a5, .int .u64 a6, .int .u64 a7, .int .u32 a8, .int .u32 a9, .bool b10, .int .u8 k, .bool b12, .bool b13, .bool b14, .bool b15, .bool r, .bool b17] 26 (0, 0)) := by rw [Below.heap_alloc _ _ _ (by omega)]; exact hrow
      rw [nc0_end, nc1_end, nc2_end, nc4_end]
      go_wp2_with (first
        | ((with_reducible show wpList _ _ _ (Oper.mk _ (Op.build 26 _) _ _ _ _ :: _) _ _); refine wpList_build_of rfl 26 _ rfl #[.int .u64 0, .int .u64 0, .int .u64 a2, .int .u64 a3, .int .u64 0, .int .u64 a5, .int .u64 a6, .int .u64 a7, .int .u32 0, .int .u32 0, .bool false, .int .u8 k, .bool false, .bool false, .bool false, .bool false, .bool false, .bool false] (by kernel_rfl) ?_)
        | ((with_reducible show wpList _ _ _ (Oper.mk _ (Op.store 26 _ _) _ _ _ _ :: _) _ _); refine wpList_store_fresh rfl 26 _ _ rfl #[.int .u64 0, .int .u64 0, .int .u64 a2, .int .u64 a3, .int .u64 0, .int .u64 a5, .int .u64 a6, .int .u64 a7, .int .u32 0, .int .u32 0, .bool false, .int .u8 k, .bool false, .bool false, .bool false, .bool false, .bool false, .bool false] 26 _ rfl rfl (by kernel_rfl) (by kernel_rfl) (by kernel_rfl) ?_)
        | ((with_reducible show wpList _ _ _ (Oper.mk _ (Op.load 26 _) _ _ _ _ :: _) _ _); refine wpList_load_row rfl 26 _ rfl w.heap.size rfl 26 _ (0, 0) _ hrow' Try.underlying26 rfl (by kernel_rfl) ?_))
      refine (zzNamed_any _ _ _ _ _ _ _ _ _ _ _ _ _ _ _ _ _ _  _).mono ?_
      intro e w1 hr1
      rw [HL.out] at hr1
      clear k2 k3 k5 k6 k7 k11
      have hb1 := hr1.1
      have hs1 : wr.heap.size + 1 ≤ w1.heap.size := by have := hb1.size; simpa using this
      have hrb : w1.heap[wr.heap.size]? = some (.cells #[.int .u64 0, .int .u64 0, .int .u64 a2, .int .u64 a3, .int .u64 0, .int .u64 a5, .int .u64 a6, .int .u64 a7, .int .u32 0, .int .u32 0, .bool false, .int .u8 k, .bool false, .bool false, .bool false, .bool false, .bool false, .bool false] 26 (0, 0)) := by rw [hb1.block _ (by simp)]; exact heap_alloc_last _ _
      have hrm : w1.heap[w.heap.size]? = some (.cells #[.int .u64 a0, .int .u64 a1, .int .u64 a2, .int .u64 a3, .int .u64 a4, .int .u64 a5, .int .u64 a6, .int .u64 a7, .int .u32 a8, .int .u32 a9, .bool b10, .int .u8 k, .bool b12, .bool b13, .bool b14, .bool b15, .bool r, .bool b17] 26 (0, 0)) := by rw [hb1.block _ (by simp; omega)]; exact hrow'
      clear hrow hrow'
      obtain ⟨_, ⟨hnil, rfl⟩ | ⟨hne, b1, off1, hbb1, hlt1, rfl, hc1, hf1⟩⟩ := hr1
      · go_wp2_with ((with_reducible show wpList _ _ _ (Oper.mk _ (Op.load 26 _) _ _ _ _ :: _) _ _); refine wpList_load_row rfl 26 _ rfl wr.heap.size rfl 26 _ (0, 0) _ hrb Try.underlying26 rfl (by kernel_rfl) ?_)
        refine (zzNamed_any _ _ _ _ _ _ _ _ _ _ _ _ _ _ _ _ _ _  _).mono ?_
        intro e w2 hr2
        rw [HL.out] at hr2
        obtain ⟨hb2, ⟨_, rfl⟩ | ⟨hne, _⟩⟩ := hr2
        · clear hrb hrm HL hnil
          go_wp2_with fail
          go_loopw [13] (fun i wr' => i = .int .i64 0 ∧ wr' = w2) (fun _ _ => 0)
          case atStart => exact ⟨rfl, rfl⟩
          case round =>
            obtain ⟨rfl, rfl⟩ := hrel
            go_wp2
            go_ret
            exact ⟨rfl, ((((Below.refl _ _).alloc (Nat.le_refl _) _).trans (hbw.mono (by omega))).alloc (by omega) _).trans ((hb1.mono (by simp; omega)).trans (hb2.mono (by omega)))⟩
        · exact absurd hnil hne
      · have hbb1' : wr.heap.size + 1 ≤ b1 := by simpa using hbb1
        go_wp2_with ((with_reducible show wpList _ _ _ (Oper.mk _ (Op.load 26 _) _ _ _ _ :: _) _ _); refine wpList_load_row rfl 26 _ rfl wr.heap.size rfl 26 _ (0, 0) _ hrb Try.underlying26 rfl (by kernel_rfl) ?_)
        refine (zzNamed_any _ _ _ _ _ _ _ _ _ _ _ _ _ _ _ _ _ _  _).mono ?_
        intro e w2 hr2
        rw [HL.out] at hr2
        obtain ⟨hb2, ⟨hnil, _⟩ | ⟨_, b2, off2, hbb2, hlt2, rfl, hc2, hf2⟩⟩ := hr2
        · exact absurd hnil hne
        · have hrm2 : w2.heap[w.heap.size]? = some (.cells #[.int .u64 a0, .int .u64 a1, .int .u64 a2, .int .u64 a3, .int .u64 a4, .int .u64 a5, .int .u64 a6, .int .u64 a7, .int .u32 a8, .int .u32 a9, .bool b10, .int .u8 k, .bool b12, .bool b13, .bool b14, .bool b15, .bool r, .bool b17] 26 (0, 0)) := by rw [hb2.block _ (by omega)]; exact hrm
          have hs2 := hb2.size
          have hL1 : 1 ≤ l.length := by cases l with | nil => exact absurd rfl hne | cons => simp
          have hc1' : ∀ j, j < l.length → w2.cell? ⟨b1, off1 + j, none⟩ = some (.int .u64 (l.getD j 0)) := fun j hj => by rw [hb2.cell (p := ⟨b1, off1 + j, none⟩) hlt1]; exact hc1 j hj
          have hf1' : w2.frozen? ⟨b1, off1, none⟩ = false := by rw [hb2.frozen (p := ⟨b1, off1, none⟩) hlt1]; simpa using hf1 0
          clear hrb hrm hc1 hf1 hf2
          obtain ⟨L, hL⟩ : ∃ L, l.length = L := ⟨_, rfl⟩
          have HLn : Hid (l.length = L) := hL
          rw [hL] at hc1' hc2 hL1 hl4
          simp only [hL]
          clear hL hne
          have HC1 : Hid (∀ j, j < L → w2.cell? ⟨b1, off1 + j, none⟩ = some (.int .u64 (l.getD j 0))) := hc1'
          have HC2 : Hid (∀ j, j < L → w2.cell? ⟨b2, off2 + j, none⟩ = some (.int .u64 (l.getD j 0))) := hc2
          clear hc1' hc2
          go_wp2_with fail
          go_loopw [13] (fun i wr' => ∃ j : Nat, j ≤ L ∧ i = .int .i64 j ∧ ∃ q, wr' = w2.drewN q) (fun i _ => L - (intOf i).toNat)
          case atStart => exact ⟨0, by omega, rfl, 0, rfl⟩
          case round =>
            obtain ⟨j, hj, rfl, q, rfl⟩ := hrel
            by_cases hjl : j < L
            · have d1 := HC1.out j hjl
              have d2 := HC2.out j hjl
              have hjL : (j : Int) < (L : Int) := by omega
              go_wp2_with fail
              go_quiet (fail)
              go_wp2
              go_roundw
              case rel => exact ⟨j + 1, by omega, by go_num, _, rfl⟩
              case measure => simp [intOf]; omega
            · have hLi : (0 : Int) < (L : Int) := by omega
              have d1 : w2.cell? ⟨b1, off1, none⟩ = some (.int .u64 (l.getD 0 0)) := by simpa using HC1.out 0 (by omega)
              have hrm3 : ∀ v, ((w2.drewN q).setCell ⟨b1, off1, none⟩ v).heap[w.heap.size]? = some (.cells #[.int .u64 a0, .int .u64 a1, .int .u64 a2, .int .u64 a3, .int .u64 a4, .int .u64 a5, .int .u64 a6, .int .u64 a7, .int .u32 a8, .int .u32 a9, .bool b10, .int .u8 k, .bool b12, .bool b13, .bool b14, .bool b15, .bool r, .bool b17] 26 (0, 0)) := fun v => by rw [Below.heap_setCell _ _ _ _ (by simp; omega)]; exact hrm2
              go_wp2_with ((with_reducible show wpList _ _ _ (Oper.mk _ (Op.load 26 _) _ _ _ _ :: _) _ _); refine wpList_load_row rfl 26 _ rfl w.heap.size rfl 26 _ (0, 0) _ (hrm3 _) Try.underlying26 rfl (by kernel_rfl) ?_)
              refine (zzNamed_any _ _ _ _ _ _ _ _ _ _ _ _ _ _ _ _ _ _  _).mono ?_
              intro e w3 hr3
              rw [HL.out] at hr3
              obtain ⟨hb3, ⟨hnil, _⟩ | ⟨_, b3, off3, hbb3, hlt3, rfl, hc3, hf3⟩⟩ := hr3
              · exact absurd hnil (by intro h; have hL := HLn.out; rw [h] at hL; simp at hL; omega)
              · rw [HLn.out] at hc3
                simp only [HLn.out]
                have hc2' : ∀ j, j < L → w3.cell? ⟨b2, off2 + j, none⟩ = some (.int .u64 (l.getD j 0)) := fun j hj => by
                  rw [hb3.cell (p := ⟨b2, off2 + j, none⟩) (by simp; omega), World.cell?_setCell_other _ _ _ _ (by intro h; cases h; omega)]
                  exact HC2.out j hj
                have HC3 : Hid (∀ j, j < L → w3.cell? ⟨b3, off3 + j, none⟩ = some (.int .u64 (l.getD j 0))) := hc3
                have HC4 : Hid (∀ j, j < L → w3.cell? ⟨b2, off2 + j, none⟩ = some (.int .u64 (l.getD j 0))) := hc2'
                clear hc3 hf3 hc2' hrm3 d1
                have hb3' : Below w.heap.size w w3 := (below_drewN ((((((Below.refl _ _).alloc (Nat.le_refl _) _).trans (hbw.mono (by omega))).alloc (by omega) _).trans ((hb1.mono (by simp; omega)).trans (hb2.mono (by omega))))) q).setCell (by show w.heap.size ≤ b1; omega) _ |>.trans (hb3.mono (by simp; omega))
                go_wp2_with fail
                go_loopw [15] (fun i wr' => ∃ j : Nat, j ≤ L ∧ i = .int .i64 j ∧ ∃ q, wr' = w3.drewN q) (fun i _ => L - (intOf i).toNat)
                case atStart => exact ⟨0, by omega, rfl, 0, rfl⟩
                case round =>
                  obtain ⟨j, hj, rfl, q, rfl⟩ := hrel
                  by_cases hjl : j < L
                  · have d1 := HC3.out j hjl
                    have d2 := HC4.out j hjl
                    have hjL : (j : Int) < (L : Int) := by omega
                    go_wp2_with fail
                    go_quiet (fail)
                    go_wp2
                    go_roundw
                    case rel => exact ⟨j + 1, by omega, by go_num, _, rfl⟩
                    case measure => simp [intOf]; omega
                  · go_wp2
                    go_ret
                    exact ⟨rfl, below_drewN hb3' _⟩

end Go.Proofs.Qxb6617286a
