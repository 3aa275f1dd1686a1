/-
  THE ROAD OF zzUpkeep: contracts of upkeepTask (22), zzRingMessage (20), ZZUpkeepTask (17), zzUpkeep (8).
-/
import Derived.Test.Qxb6617286aRows
import Derived.WalkKit
import Derived.WalkSpells
import Derived.Deep.QuietTactic
import Derived.BigQuiet
import Derived.RowKit3
import Derived.Below
namespace Go.Proofs.Qxb6617286a
open Go.RowKit

/-- what upkeepTask answers, by the kind and the mark 'refill' -/
def upk (k : Int) (r : Bool) : Int × Bool :=
  if k = 5 ∨ k = 6 then (0, true) else if k = 7 ∨ k = 8 then (1, true) else if k = 2 ∨ k = 3 ∨ k = 4 then (2, r) else (0, false)

set_option maxHeartbeats 1000000 in
theorem upkeepTask_any (a0 a1 a2 a3 a4 a5 a6 a7 a8 a9 : Int) (b10 : Bool) (k : Int) (b12 b13 b14 b15 r b17 : Bool) (t : Int) (ok : Bool) (ht : upk k r = (t, ok)) (w : World) :
    Calls Try.prog 22 #[.agg #[.int .u64 a0, .int .u64 a1, .int .u64 a2, .int .u64 a3, .int .u64 a4, .int .u64 a5, .int .u64 a6, .int .u64 a7, .int .u32 a8, .int .u32 a9, .bool b10, .int .u8 k, .bool b12, .bool b13, .bool b14, .bool b15, .bool r, .bool b17]] w
      fun e w' => e = .returned (.tuple #[.int .u8 t, .bool ok]) ∧ Below w.heap.size w w' := by
  have key : (k = 5 ∧ t = 0 ∧ ok = true) ∨ (k = 6 ∧ t = 0 ∧ ok = true) ∨ (k = 7 ∧ t = 1 ∧ ok = true) ∨ (k = 8 ∧ t = 1 ∧ ok = true) ∨ (k = 2 ∧ t = 2 ∧ ok = r) ∨ (k = 3 ∧ t = 2 ∧ ok = r) ∨ (k = 4 ∧ t = 2 ∧ ok = r) ∨ ((k == 5) = false ∧ (k == 6) = false ∧ (k == 7) = false ∧ (k == 8) = false ∧ (k == 2) = false ∧ (k == 3) = false ∧ (k == 4) = false ∧ t = 0 ∧ ok = false) := by
    simp only [beq_eq_false_iff_ne]
    unfold upk at ht
    split at ht
    · simp only [Prod.mk.injEq] at ht; obtain ⟨rfl, rfl⟩ := ht; rename_i h; rcases h with rfl | rfl <;> simp
    · split at ht
      · simp only [Prod.mk.injEq] at ht; obtain ⟨rfl, rfl⟩ := ht; rename_i h; rcases h with rfl | rfl <;> simp
      · split at ht
        · simp only [Prod.mk.injEq] at ht; obtain ⟨rfl, rfl⟩ := ht; rename_i h; rcases h with rfl | rfl | rfl <;> simp
        · simp only [Prod.mk.injEq] at ht; obtain ⟨rfl, rfl⟩ := ht
          refine Or.inr (Or.inr (Or.inr (Or.inr (Or.inr (Or.inr (Or.inr ⟨by omega, by omega, by omega, by omega, by omega, by omega, by omega, rfl, rfl⟩))))))
  clear ht
  rcases key with ⟨rfl, rfl, rfl⟩ | ⟨rfl, rfl, rfl⟩ | ⟨rfl, rfl, rfl⟩ | ⟨rfl, rfl, rfl⟩ | ⟨rfl, rfl, rfl⟩ | ⟨rfl, rfl, rfl⟩ | ⟨rfl, rfl, rfl⟩ | ⟨h5, h6, h7, h8, h2, h3, h4, rfl, rfl⟩
  · go_enter Try.func22, Try.ntmps22
    go_wp2
    go_ret2
    exact ⟨rfl, (Below.refl _ _).alloc (Nat.le_refl _) _⟩
  · go_enter Try.func22, Try.ntmps22
    go_wp2
    go_ret2
    exact ⟨rfl, (Below.refl _ _).alloc (Nat.le_refl _) _⟩
  · go_enter Try.func22, Try.ntmps22
    go_wp2
    go_ret2
    exact ⟨rfl, (Below.refl _ _).alloc (Nat.le_refl _) _⟩
  · go_enter Try.func22, Try.ntmps22
    go_wp2
    go_ret2
    exact ⟨rfl, (Below.refl _ _).alloc (Nat.le_refl _) _⟩
  · go_enter Try.func22, Try.ntmps22
    go_wp2
    go_region
    all_goals (go_wp2; go_ret2; exact ⟨rfl, ((Below.refl _ _).alloc (Nat.le_refl _) _).drew⟩)
  · go_enter Try.func22, Try.ntmps22
    go_wp2
    go_region
    all_goals (go_wp2; go_ret2; exact ⟨rfl, ((Below.refl _ _).alloc (Nat.le_refl _) _).drew⟩)
  · go_enter Try.func22, Try.ntmps22
    go_wp2
    go_region
    all_goals (go_wp2; go_ret2; exact ⟨rfl, ((Below.refl _ _).alloc (Nat.le_refl _) _).drew⟩)
  · go_enter Try.func22, Try.ntmps22
    go_wp2
    go_ret2
    exact ⟨rfl, (Below.refl _ _).alloc (Nat.le_refl _) _⟩

end Go.Proofs.Qxb6617286a
