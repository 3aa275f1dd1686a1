/-
  THE PLAIN LAW: who proposes; no Go text in sight.
-/
namespace Go.Proofs.Qxb6617381a

/-- the proposer's index -/
def prp (h r n : Int) : Int := ((h - 1) % n + (r - 1) % n) % n

theorem prp_eq (h r n : Int) : prp h r n = (h - 1 + (r - 1)) % n := by
  unfold prp; rw [← Int.add_emod]
theorem prp_lo (h r n : Int) (hn : 1 ≤ n) : 0 ≤ prp h r n := Int.emod_nonneg _ (by omega)
theorem prp_hi (h r n : Int) (hn : 1 ≤ n) : prp h r n < n := Int.emod_lt_of_pos _ (by omega)

theorem succ_mod (x n : Int) (hn : 1 ≤ n) : (x + 1) % n = if x % n + 1 = n then 0 else x % n + 1 := by
  have h0 := Int.emod_nonneg x (show n ≠ 0 by omega)
  have h1 := Int.emod_lt_of_pos x (show 0 < n by omega)
  rw [← Int.emod_add_emod]
  split
  · rename_i h; rw [h]; exact Int.emod_self
  · exact Int.emod_eq_of_lt (by omega) (by omega)

theorem prp_round (h r n : Int) (hn : 1 ≤ n) : prp h (r + 1) n = if prp h r n + 1 = n then 0 else prp h r n + 1 := by
  rw [prp_eq, prp_eq, ← succ_mod _ _ hn]; congr 1; omega
theorem prp_height (h r n : Int) (hn : 1 ≤ n) : prp (h + 1) r n = if prp h r n + 1 = n then 0 else prp h r n + 1 := by
  rw [prp_eq, prp_eq, ← succ_mod _ _ hn]; congr 1; omega

/-- two rounds of a window of n hand the proposal to two validators -/
theorem prp_inj (h r n i j : Int) (hi : 0 ≤ i) (hij : i < j) (hj : j < n) : prp h (r + i) n ≠ prp h (r + j) n := by
  intro e
  rw [prp_eq, prp_eq] at e
  have d : n ∣ (h - 1 + (r + j - 1) - (h - 1 + (r + i - 1))) := Int.dvd_of_emod_eq_zero (Int.emod_eq_emod_iff_emod_sub_eq_zero.1 e.symm)
  have hd : h - 1 + (r + j - 1) - (h - 1 + (r + i - 1)) = j - i := by omega
  rw [hd] at d
  have := Int.le_of_dvd (by omega) d
  omega

end Go.Proofs.Qxb6617381a
