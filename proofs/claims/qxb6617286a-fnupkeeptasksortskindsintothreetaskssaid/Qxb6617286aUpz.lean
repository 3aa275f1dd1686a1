/-
  ZZUpkeepTask (17), zzUpkeep (8).
-/
import Derived.Test.Qxb6617286aUpk
import Derived.Test.Qxb6617286aRing
namespace Go.Proofs.Qxb6617286a
open Go.RowKit

set_option maxHeartbeats 1000000 in
theorem ZZUpkeepTask_any (a0 a1 a2 a3 a4 a5 a6 a7 a8 a9 : Int) (b10 : Bool) (k : Int) (b12 b13 b14 b15 r b17 : Bool) (t : Int) (ok : Bool) (ht : Hid (upk k r = (t, ok))) (w : World) :
    Calls Try.prog 17 #[.int .u64 a0, .int .u64 a1, .int .u64 a2, .int .u64 a3, .int .u64 a4, .int .u64 a5, .int .u64 a6, .int .u64 a7, .int .u32 a8, .int .u32 a9, .bool b10, .int .u8 k, .bool b12, .bool b13, .bool b14, .bool b15, .bool r, .bool b17] w
      fun e w' => e = .returned (.tuple #[.int .u8 t, .bool ok]) ∧ Below w.heap.size w w' := by
  go_enter Try.func17, Try.ntmps17
  go_wp2_with (first
    | (go_at_call 20; refine (ringMessage_any _ _ _ _ _ _ _ _ _ _ _ _ _ _ _ _ _ _ _).mono ?_; rintro e w1 ⟨rfl, hb1⟩)
    | (go_at_call 22; refine (upkeepTask_any _ _ _ _ _ _ _ _ _ _ _ _ _ _ _ _ _ _ t ok ht.out _).mono ?_; rintro e w2 ⟨rfl, hb2⟩))
  go_ret2
  exact ⟨rfl, hb1.trans (hb2.mono hb1.size)⟩

set_option maxHeartbeats 1000000 in
theorem zzUpkeep_any (a0 a1 a2 a3 a4 a5 a6 a7 a8 a9 : Int) (b10 : Bool) (k : Int) (b12 b13 b14 b15 r b17 : Bool) (t : Int) (ok : Bool) (ht : Hid (upk k r = (t, ok))) (w : World) :
    Calls Try.prog 8 #[.agg #[.int .u64 a0, .int .u64 a1, .int .u64 a2, .int .u64 a3, .int .u64 a4, .int .u64 a5, .int .u64 a6, .int .u64 a7, .int .u32 a8, .int .u32 a9, .bool b10, .int .u8 k, .bool b12, .bool b13, .bool b14, .bool b15, .bool r, .bool b17]] w
      fun e w' => e = .returned (.tuple #[.int .u8 t, .bool ok]) ∧ Below w.heap.size w w' := by
  go_enter Try.func8, Try.ntmps8
  go_wp2_with (go_at_call 17; refine (ZZUpkeepTask_any _ _ _ _ _ _ _ _ _ _ _ _ _ _ _ _ _ _ t ok ht _).mono ?_; rintro e w1 ⟨rfl, hb1⟩)
  go_ret2
  exact ⟨rfl, ((Below.refl _ _).alloc (Nat.le_refl _) _).trans (hb1.mono (by simp))⟩

/-- the plain count of the kinds below n of each sort -/
def cP : Nat → Nat | 0 => 0 | n + 1 => cP n + if upk n true = (0, true) then 1 else 0
def cF : Nat → Nat | 0 => 0 | n + 1 => cF n + if upk n true = (1, true) then 1 else 0
def cC : Nat → Nat | 0 => 0 | n + 1 => cC n + if upk n true = (2, true) then 1 else 0
def cI : Nat → Nat | 0 => 0 | n + 1 => cI n + if (upk n true).2 = false then 1 else 0
theorem cP_end : cP 256 = 2 := by kernel_rfl
theorem cF_end : cF 256 = 2 := by kernel_rfl
theorem cC_end : cC 256 = 3 := by kernel_rfl
theorem cI_end : cI 256 = 249 := by kernel_rfl
theorem cP_le (n : Nat) : cP n ≤ n := by
  induction n with
  | zero => simp [cP]
  | succ n ih => simp only [cP]; split <;> omega
theorem cF_le (n : Nat) : cF n ≤ n := by
  induction n with
  | zero => simp [cF]
  | succ n ih => simp only [cF]; split <;> omega
theorem cC_le (n : Nat) : cC n ≤ n := by
  induction n with
  | zero => simp [cC]
  | succ n ih => simp only [cC]; split <;> omega
theorem cI_le (n : Nat) : cI n ≤ n := by
  induction n with
  | zero => simp [cI]
  | succ n ih => simp only [cI]; split <;> omega

/-- the four sorts of kinds -/
theorem upk_sorts (n : Nat) :
    (n < 12 ∧ upk n false = (0, true) ∧ upk n true = (0, true)) ∨ (n < 12 ∧ upk n false = (1, true) ∧ upk n true = (1, true)) ∨
    (n < 12 ∧ upk n false = (2, false) ∧ upk n true = (2, true)) ∨ (upk n false = (0, false) ∧ upk n true = (0, false)) := by
  unfold upk
  split
  · left; exact ⟨by omega, rfl, rfl⟩
  · split
    · right; left; exact ⟨by omega, rfl, rfl⟩
    · split
      · right; right; left; exact ⟨by omega, rfl, rfl⟩
      · right; right; right; exact ⟨rfl, rfl⟩

end Go.Proofs.Qxb6617286a
