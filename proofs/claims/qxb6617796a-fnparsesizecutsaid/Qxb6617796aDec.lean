/-
  zzDecimalCapped (8), zzPow10Sat (10), the two zzBytes (5, 9): contracts.
-/
import Derived.Test.Qxb6617796aPs
namespace Go.Proofs.Qxb6617796a
open Go.RowKit

theorem bytes5_any (s : ByteArray) (w : World) (hs : s.size ≤ maxLen) :
    Calls Try.prog 5 #[.string s] w fun e w' => e = .returned (.bool (decide (s.size ≤ 1048576))) ∧ w' = w := by
  unfold maxLen at hs
  by_cases h : s.size ≤ 1048576
  · rw [decide_eq_true h]
    go_enter Try.func5, Try.ntmps5
    go_wp2
    go_ret
    exact ⟨rfl, rfl⟩
  · rw [decide_eq_false h]
    go_enter Try.func5, Try.ntmps5
    go_wp2
    go_ret
    exact ⟨rfl, rfl⟩

theorem bytes9_any (s : ByteArray) (k : Int) (w : World) (hs : s.size ≤ maxLen) :
    Calls Try.prog 9 #[.string s, .int .i64 k] w fun e w' => e = .returned (.bool (decide (s.size ≤ 1048576))) ∧ w' = w := by
  unfold maxLen at hs
  by_cases h : s.size ≤ 1048576
  · rw [decide_eq_true h]
    go_enter Try.func9, Try.ntmps9
    go_wp2
    go_ret
    exact ⟨rfl, rfl⟩
  · rw [decide_eq_false h]
    go_enter Try.func9, Try.ntmps9
    go_wp2
    go_ret
    exact ⟨rfl, rfl⟩

theorem ret_u64 {a b : Int} (h : a = b) : Ending.returned (.int .u64 a) = .returned (.int .u64 b) := by rw [h]

theorem p10_le (m : Nat) : p10 m ≤ 2147483648 := by unfold p10; omega
theorem pow_pos10 (m : Nat) : 1 ≤ 10 ^ m := Nat.one_le_pow _ _ (by omega)
theorem pow_le10 {a b : Nat} (h : a ≤ b) : 10 ^ a ≤ 10 ^ b := Nat.pow_le_pow_right (by omega) h

set_option maxHeartbeats 400000 in
theorem pow10_any (m : Nat) (w : World) (hm : m ≤ 65536) :
    Calls Try.prog 10 #[.int .i64 m] w fun e w' => e = .returned (.int .u64 (p10 m)) ∧ w' = w := by
  go_enter Try.func10, Try.ntmps10
  go_wp2
  go_loop [3, 4] (fun p i => ∃ j q : Nat, j ≤ m ∧ i = .int .i64 j ∧ p = .int .u64 q ∧ q = 10 ^ j ∧ q ≤ 2147483648) (fun _ i => m - (intOf i).toNat)
  case atStart => exact ⟨0, 1, Nat.zero_le _, rfl, rfl, rfl, by omega⟩
  case round =>
    obtain ⟨j, q, hj, rfl, rfl, hq, hql⟩ := hrel
    have HQ : Hid (q = 10 ^ j) := hq
    clear hq
    by_cases hlt : j < m
    · by_cases hbig : 2147483648 < q * 10
      · have hp : p10 m = 2147483648 := by
          have h1 := HQ.out
          have h2 := pow_le10 (show j + 1 ≤ m by omega)
          rw [Nat.pow_succ, ← h1] at h2
          unfold p10; omega
        have HP : Hid (p10 m = 2147483648) := hp
        clear hp
        go_wp2
        go_ret
        exact ⟨ret_u64 (by rw [HP.out]; rfl), rfl⟩
      · go_wp2
        go_round
        case rel => exact ⟨j + 1, q * 10, by omega, by go_num, by go_num, by rw [Nat.pow_succ, ← HQ.out], by omega⟩
        case measure => simp [intOf]; omega
    · have hp : p10 m = q := by
        have h1 := HQ.out
        rw [show j = m by omega] at h1
        unfold p10; omega
      have HP : Hid (p10 m = q) := hp
      clear hp
      go_wp2
      go_ret
      exact ⟨ret_u64 (by rw [HP.out]), rfl⟩

end Go.Proofs.Qxb6617796a
