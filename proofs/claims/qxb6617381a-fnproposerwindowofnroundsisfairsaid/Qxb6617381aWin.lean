/-
  FnProposerWindowOfNRoundsIsFair (4): the walk.
-/
import Derived.Test.Qxb6617381aProp
import Derived.WalkSmall
import Derived.OpenShut
namespace Go.Proofs.Qxb6617381a
open Go.RowKit

theorem info4 : (Try.prog.info? 4).map (fun i => (i.zero, i.size, i.bytes)) = some (some (.bool false), 1, 1) := by kernel_rfl

/-- a made row: each cell the zero value, none frozen -/
theorem made_cells {w : World} {base g n : Nat} {e : TypeId} {z : Value} (hz : z.cells = #[z]) (h : w.ownsRow base e 1 (.slice (some ⟨g, 0, none⟩) n n) n (madeCells z.cells (n * 1)).toList) :
    (∀ j, j < n → w.cell? ⟨g, j, none⟩ = some z) ∧ ∀ j, w.frozen? ⟨g, j, none⟩ = false := by
  obtain ⟨_, ⟨hv, _⟩ | ⟨g', cap, cur, hv, _, hg, _, _, hsz, htake⟩⟩ := h
  · simp at hv
  · simp only [Value.slice.injEq, Option.some.injEq, Addr.mk.injEq, and_true, true_and] at hv
    obtain ⟨rfl, rfl⟩ := hv
    refine ⟨fun j hj => ?_, fun j => by simp [World.frozen?, hg]⟩
    rw [cell_of_row w g j cur e (0, 0) hg]
    rw [List.take_of_length_le (by simp; omega)] at htake
    have hc : cur = madeCells z.cells (n * 1) := Array.toList_inj.1 htake
    subst hc
    simp [madeCells, hz, hj, Nat.mod_one]

/-- has validator j proposed in the first k rounds of the window? -/
def sn (h r n : Int) (k : Nat) (j : Nat) : Bool := (List.range k).any fun i => prp h (r + (i : Int)) n == (j : Int)
theorem sn_zero (h r n : Int) (j : Nat) : sn h r n 0 j = false := rfl
theorem sn_succ (h r n : Int) (k j : Nat) : sn h r n (k + 1) j = (sn h r n k j || prp h (r + (k : Int)) n == (j : Int)) := by
  simp [sn, List.range_succ]
theorem sn_new (h r n : Int) (k p : Nat) (hp : prp h (r + (k : Int)) n = (p : Int)) (hk : (k : Int) < n) : sn h r n k p = false := by
  simp only [sn, List.any_eq_false, List.mem_range]
  intro i hi
  have := prp_inj h r n i k (by omega) (by omega) hk
  rw [hp] at this
  simpa using this

theorem win_true (a0 a1 a2 : Int) (w : World) (h : a0 = 0 ∨ a1 = 0 ∨ a2 < 1 ∨ 65536 < a2) :
    Calls Try.prog 4 #[.int .u64 a0, .int .u64 a1, .int .i64 a2] w fun e w' => e = .returned (.bool true) ∧ Below w.heap.size w w' := by
  by_cases c0 : a0 = 0
  · subst c0
    go_enter Try.func4, Try.ntmps4
    go_wp2
    go_ret
    exact ⟨rfl, Below.refl _ _⟩
  have e0 : (a0 == 0) = false := by simpa using c0
  by_cases c1 : a1 = 0
  · subst c1
    go_enter Try.func4, Try.ntmps4
    go_wp2
    go_ret
    exact ⟨rfl, Below.refl _ _⟩
  have e1 : (a1 == 0) = false := by simpa using c1
  by_cases c2 : a2 < 1
  · go_enter Try.func4, Try.ntmps4
    go_wp2
    go_ret
    exact ⟨rfl, Below.refl _ _⟩
  · have c3 : 65536 < a2 := by omega
    clear h c0 c1
    go_enter Try.func4, Try.ntmps4
    go_wp2
    go_ret
    exact ⟨rfl, Below.refl _ _⟩

set_option maxHeartbeats 1000000 in
theorem win_far (a0 a1 : Int) (N : Nat) (w : World) (g0 : 1 ≤ a0) (g1 : 1 ≤ a1) (u1 : a1 ≤ 18446744073709551615) (g2 : 1 ≤ N) (u2 : N ≤ 65536) (hf : 18446744073709551615 - (N : Int) < a1 - 1) :
    Calls Try.prog 4 #[.int .u64 a0, .int .u64 a1, .int .i64 N] w fun e w' => e = .returned (.bool true) ∧ Below w.heap.size w w' := by
  have e0 : (a0 == 0) = false := by simp; omega
  have e1 : (a1 == 0) = false := by simp; omega
  go_enter Try.func4, Try.ntmps4
  go_wp2
  go_ret
  exact ⟨rfl, Below.refl _ _⟩

set_option maxHeartbeats 1000000 in
theorem win_near (a0 a1 : Int) (N : Nat) (w : World) (g0 : 1 ≤ a0) (u0 : a0 ≤ 18446744073709551615) (g1 : 1 ≤ a1) (g2 : 1 ≤ N) (u2 : N ≤ 65536) (hf : a1 - 1 ≤ 18446744073709551615 - (N : Int)) :
    Calls Try.prog 4 #[.int .u64 a0, .int .u64 a1, .int .i64 N] w fun e w' => e = .returned (.bool true) ∧ Below w.heap.size w w' := by
  have e0 : (a0 == 0) = false := by simp; omega
  have e1 : (a1 == 0) = false := by simp; omega
  obtain ⟨i4, hi, hz0, hz1, hz2⟩ := info_parts info4
  go_enter Try.func4, Try.ntmps4
  go_wp2_with (at_make; refine wpList_make_full _ rfl _ _ 25 rfl w.heap.size 4 i4 _ 1 Try.underlying25 hi hz0 hz1 _ _ _ _ N rfl rfl rfl rfl (by rw [hz2]; omega) (by unfold maxLen; omega) (Nat.le_refl _) ?_; intro w1 hown hgrow)
  obtain ⟨hcell, hfroz⟩ := made_cells rfl hown
  have hbel : Below w.heap.size w w1 := (Below.refl _ _).grown hgrow (Nat.le_refl _) (by intro k hk; cases hk)
  clear hown hgrow
  go_wp2_with fail
  go_loopw [9] (fun i wr => ∃ k : Nat, k ≤ N ∧ i = .int .i64 k ∧ (∀ j, j < N → wr.cell? ⟨w.heap.size, j, none⟩ = some (.bool (sn a0 a1 N k j))) ∧ (∀ j, wr.frozen? ⟨w.heap.size, j, none⟩ = false) ∧ Below w.heap.size w wr) (fun i _ => N - (intOf i).toNat)
  case atStart => exact ⟨0, by omega, rfl, fun j hj => by rw [sn_zero]; exact hcell j hj, hfroz, hbel⟩
  case round =>
    obtain ⟨k, hk, rfl, hcr, hfr, hbr⟩ := hrel
    by_cases hlt : k < N
    · have p1 := prp_lo a0 (a1 + k) N (by omega)
      have p2 := prp_hi a0 (a1 + k) N (by omega)
      obtain ⟨p, hp⟩ := Int.eq_ofNat_of_zero_le p1
      have HP : Hid (prp a0 (a1 + k) N = (p : Int)) := hp
      have hpN : p < N := by omega
      have hpn : (p : Int) < (N : Int) := by omega
      have hc1 := hcr p hpN
      rw [sn_new a0 a1 N k p hp (by omega)] at hc1
      have hf1 := hfr p
      have HC : Hid (∀ j, j < N → wr.cell? ⟨w.heap.size, j, none⟩ = some (.bool (sn a0 a1 N k j))) := hcr
      have HFr : Hid (∀ j, wr.frozen? ⟨w.heap.size, j, none⟩ = false) := hfr
      clear hp hcr hfr p1 p2 hcell hfroz
      go_wp2_with fail
      refine (proposer_any a0 (a1 + k) N g0 u0 (by omega) (by omega) (by omega) (by omega) _).mono ?_
      rintro e w' ⟨rfl, q, rfl⟩
      rw [HP.out]
      go_wp2
      go_roundw
      case rel =>
        refine ⟨k + 1, by omega, by go_num, fun j hj => ?_, fun j => ?_, ?_⟩
        · rw [sn_succ, HP.out]
          by_cases hjp : j = p
          · subst hjp
            rw [World.cell?_setCell_same (wr.drewN q) _ _ (u := .bool false) hc1]; simp
          · rw [World.cell?_setCell_other (wr.drewN q) ⟨w.heap.size, p, none⟩ ⟨w.heap.size, j, none⟩ _ (by intro h; cases h; exact hjp rfl)]
            have := HC.out j hj
            rw [show ((p : Int) == (j : Int)) = false by simp; omega, Bool.or_false]
            exact this
        · rw [World.frozen?_setCell]; exact HFr.out j
        · exact (below_drewN hbr q).setCell (Nat.le_refl _) _
      case measure => simp [intOf]; omega
    · go_wp2
      go_ret
      exact ⟨rfl, hbr⟩

end Go.Proofs.Qxb6617381a
