/-
  THE PLAIN LAW: decimal texts, their value, the cap. No Go text in sight.
-/
namespace Go.Proofs.Qxb6617796a

/-- an ASCII digit -/
def dg (c : UInt8) : Bool := decide (48 ≤ c.toNat ∧ c.toNat ≤ 57)
/-- the exact decimal value -/
def val (l : List UInt8) : Nat := l.foldl (fun v c => v * 10 + (c.toNat - 48)) 0
/-- capped at 1 shl 30 -/
def cp (n : Nat) : Nat := min n 1073741824
/-- not empty, digits alone -/
def good (l : List UInt8) : Bool := !l.isEmpty && l.all dg

theorem val_nil : val [] = 0 := rfl
theorem val_snoc (l : List UInt8) (c : UInt8) : val (l ++ [c]) = val l * 10 + (c.toNat - 48) := by
  unfold val; rw [List.foldl_append]; rfl
theorem cp_snoc (l : List UInt8) (c : UInt8) : cp (val (l ++ [c])) = cp (cp (val l) * 10 + (c.toNat - 48)) := by
  rw [val_snoc]; unfold cp; omega
theorem cp_le (n : Nat) : cp n ≤ 1073741824 := by unfold cp; omega

theorem foldl_from (l : List UInt8) (v : Nat) : l.foldl (fun v c => v * 10 + (c.toNat - 48)) v = v * 10 ^ l.length + val l := by
  induction l generalizing v with
  | nil => simp [val]
  | cons c l ih =>
    unfold val
    simp only [List.foldl_cons, List.length_cons]
    rw [ih, ih (0 * 10 + (c.toNat - 48)), Nat.pow_succ]
    rw [Nat.add_mul, Nat.add_mul]
    simp only [Nat.zero_mul, Nat.zero_add, Nat.mul_assoc]
    rw [Nat.mul_comm 10 (10 ^ l.length)]
    omega

theorem val_append (a b : List UInt8) : val (a ++ b) = val a * 10 ^ b.length + val b := by
  have h := foldl_from b (val a)
  rw [← h]
  unfold val; rw [List.foldl_append]

theorem val_cons (c : UInt8) (l : List UInt8) : val (c :: l) = (c.toNat - 48) * 10 ^ l.length + val l := by
  have h := val_append [c] l
  simpa [val] using h

theorem good_append (a b : List UInt8) (ha : a ≠ []) (hb : b ≠ []) : good (a ++ b) = (good a && good b) := by
  unfold good
  rw [List.all_append]
  cases a <;> cases b <;> simp_all

/-- 10 to the m, or 1 shl 31 once it passes that -/
def p10 (m : Nat) : Nat := min (10 ^ m) 2147483648

theorem cut_law (H T m : Nat) : cp (H * 10 ^ m + T) = cp (cp H * p10 m + cp T) := by
  have h1 : 1 ≤ 10 ^ m := Nat.one_le_pow _ _ (by omega)
  by_cases hp : 10 ^ m ≤ 2147483648
  · have hq : p10 m = 10 ^ m := by unfold p10; omega
    rw [hq]
    by_cases hH : H ≤ 1073741824
    · have hc : cp H = H := by unfold cp; omega
      rw [hc]
      unfold cp; omega
    · have hc : cp H = 1073741824 := by unfold cp; omega
      rw [hc]
      have g1 : 1073741824 * 1 ≤ 1073741824 * 10 ^ m := Nat.mul_le_mul_left _ h1
      have g2 : 1073741824 * 10 ^ m ≤ H * 10 ^ m := Nat.mul_le_mul_right _ (by omega)
      unfold cp; omega
  · have hq : p10 m = 2147483648 := by unfold p10; omega
    rw [hq]
    by_cases hH : H = 0
    · subst hH; simp [cp]
    · have g1 : 1 * 10 ^ m ≤ H * 10 ^ m := Nat.mul_le_mul_right _ (by omega)
      have g2 : 1 ≤ cp H := by unfold cp; omega
      have g3 : 1 * 2147483648 ≤ cp H * 2147483648 := Nat.mul_le_mul_right _ g2
      unfold cp at *; omega

/-- the value of k digits -/
theorem val_lt (l : List UInt8) (h : l.all dg = true) : val l < 10 ^ l.length := by
  induction l with
  | nil => simp [val]
  | cons c l ih =>
    simp only [List.all_cons, Bool.and_eq_true] at h
    have h1 := ih h.2
    have h2 : 48 ≤ c.toNat ∧ c.toNat ≤ 57 := by simpa [dg] using h.1
    rw [val_cons, List.length_cons, Nat.pow_succ]
    have g1 : (c.toNat - 48) * 10 ^ l.length ≤ 9 * 10 ^ l.length := Nat.mul_le_mul_right _ (by omega)
    omega

/-- more than ten digits, the first not 0: past the cap -/
theorem val_big (c : UInt8) (l : List UInt8) (h1 : 49 ≤ c.toNat) (h2 : 10 ≤ l.length) : 1073741824 ≤ val (c :: l) := by
  rw [val_cons]
  have g1 : 1 * 10 ^ l.length ≤ (c.toNat - 48) * 10 ^ l.length := Nat.mul_le_mul_right _ (by omega)
  have g2 : 10 ^ 10 ≤ 10 ^ l.length := Nat.pow_le_pow_right (by omega) h2
  omega

end Go.Proofs.Qxb6617796a
