/-
  named (21): its contract.
-/
import Derived.Test.Qxb6617286aRows
import Derived.Test.Qxb6617286aLaws
namespace Go.Proofs.Qxb6617286a
open Go.RowKit

/-- the ids that a message names -/
def nm (k a2 a3 a5 a6 a7 : Int) : List Int :=
  if k = 2 ∨ k = 7 ∨ k = 10 then [a5] else if k = 3 then [a6, a7] else if k = 9 then [a2, a3, a6, a7] else []

/-- a list of ids, handed back in memory of the call's own; nil where it is empty -/
def NmRes (l : List Int) (w : World) (e : Ending) (w' : World) : Prop :=
  Below w.heap.size w w' ∧ ((l = [] ∧ e = .returned (.slice none 0 0)) ∨ (l ≠ [] ∧ ∃ b off, w.heap.size ≤ b ∧ b < w'.heap.size ∧ e = .returned (.slice (some ⟨b, off, none⟩) l.length l.length) ∧
    (∀ j, j < l.length → w'.cell? ⟨b, off + j, none⟩ = some (.int .u64 (l.getD j 0))) ∧ ∀ j, w'.frozen? ⟨b, off + j, none⟩ = false))

theorem NmRes.frame {l : List Int} {W w w' : World} {e : Ending} (h : NmRes l w e w') (hb : Below W.heap.size W w) : NmRes l W e w' := by
  obtain ⟨h1, h2 | ⟨h3, b, off, h4, h5⟩⟩ := h
  · exact ⟨hb.trans (h1.mono hb.size), .inl h2⟩
  · exact ⟨hb.trans (h1.mono hb.size), .inr ⟨h3, b, off, Nat.le_trans hb.size h4, h5⟩⟩

theorem heap_alloc_two (w : World) (X Y : Obj) : ((w.alloc X).alloc Y).heap[w.heap.size + 1]? = some Y := by
  have h := heap_alloc_last (w.alloc X) Y
  have e : (w.alloc X).heap.size = w.heap.size + 1 := by simp
  rw [e] at h; exact h

theorem nmres_row {l : List Int} {w w' : World} {e : Ending} (b off : Nat) (t : TypeId) (cs : Array Value) (he : e = .returned (.slice (some ⟨b, off, none⟩) l.length l.length)) (hbel : Below w.heap.size w w') (hl : l ≠ []) (hb : w.heap.size ≤ b)
    (hg : w'.heap[b]? = some (.cells cs t (0, 0))) (hc : ∀ j, j < l.length → cs[off + j]? = some (.int .u64 (l.getD j 0))) : NmRes l w e w' :=
  ⟨hbel, .inr ⟨hl, b, off, hb, heap_lt hg, he, fun j hj => by rw [cell_of_row _ _ _ _ _ _ hg]; exact hc j hj, fun j => frozen_row _ _ _ _ _ hg⟩⟩

set_option maxHeartbeats 1000000 in
theorem named_any (a0 a1 a2 a3 a4 a5 a6 a7 a8 a9 : Int) (b10 : Bool) (k : Int) (b12 b13 b14 b15 r b17 : Bool) (w : World) :
    Calls Try.prog 21 #[.agg #[.int .u64 a0, .int .u64 a1, .int .u64 a2, .int .u64 a3, .int .u64 a4, .int .u64 a5, .int .u64 a6, .int .u64 a7, .int .u32 a8, .int .u32 a9, .bool b10, .int .u8 k, .bool b12, .bool b13, .bool b14, .bool b15, .bool r, .bool b17]] w
      fun e w' => NmRes (nm k a2 a3 a5 a6 a7) w e w' := by
  have key : ((k = 2 ∨ k = 7 ∨ k = 10) ∧ nm k a2 a3 a5 a6 a7 = [a5]) ∨ (k = 3 ∧ nm k a2 a3 a5 a6 a7 = [a6, a7]) ∨ (k = 9 ∧ nm k a2 a3 a5 a6 a7 = [a2, a3, a6, a7]) ∨
      ((k == 2) = false ∧ (k == 7) = false ∧ (k == 10) = false ∧ (k == 3) = false ∧ (k == 9) = false ∧ nm k a2 a3 a5 a6 a7 = []) := by
    simp only [beq_eq_false_iff_ne]
    unfold nm
    by_cases h1 : k = 2 ∨ k = 7 ∨ k = 10
    · left; exact ⟨h1, if_pos h1⟩
    · by_cases h2 : k = 3
      · right; left; subst h2; simp
      · by_cases h3 : k = 9
        · right; right; left; subst h3; simp
        · right; right; right; simp [h1, h2, h3]; omega
  rcases key with ⟨hk, hn⟩ | ⟨rfl, hn⟩ | ⟨rfl, hn⟩ | ⟨h2, h7, h10, h3, h9, hn⟩
  · rw [hn]; clear hn
    rcases hk with rfl | rfl | rfl
    all_goals
      go_enter Try.func21, Try.ntmps21
      go_wp2
      go_ret
      exact nmres_row (w.heap.size + 1) 0 22 _ rfl (((Below.refl _ _).alloc (Nat.le_refl _) _).alloc (by simp) _) (by simp) (by omega) (heap_alloc_two _ _ _) (fun j hj => by match j, hj with | 0, _ => rfl)
  · rw [hn]; clear hn
    go_enter Try.func21, Try.ntmps21
    go_wp2
    go_ret
    exact nmres_row w.heap.size 6 58 _ rfl ((Below.refl _ _).alloc (Nat.le_refl _) _) (by simp) (by omega) (heap_alloc_last _ _) (fun j hj => by match j, hj with | 0, _ => rfl | 1, _ => rfl)
  · rw [hn]; clear hn
    go_enter Try.func21, Try.ntmps21
    go_wp2
    go_ret
    exact nmres_row (w.heap.size + 1) 0 22 _ rfl (((Below.refl _ _).alloc (Nat.le_refl _) _).alloc (by simp) _) (by simp) (by omega) (heap_alloc_two _ _ _) (fun j hj => by match j, hj with | 0, _ => rfl | 1, _ => rfl | 2, _ => rfl | 3, _ => rfl)
  · rw [hn]; clear hn
    go_enter Try.func21, Try.ntmps21
    go_wp2
    go_ret
    exact ⟨(Below.refl _ _).alloc (Nat.le_refl _) _, .inl ⟨rfl, rfl⟩⟩

end Go.Proofs.Qxb6617286a
