/-
  parseSize (11), ZZparseSize (6), zzAllDigits (7): contracts.
-/
import Derived.Test.Qxb6617796aRows
import Derived.Test.Qxb6617796aPlain
import Derived.WalkKit
import Derived.WalkSpells
import Derived.WalkLawsBesides
namespace Go.Proofs.Qxb6617796a
open Go.RowKit

theorem take_snoc (s : ByteArray) (k : Nat) (h : k < s.size) : s.data.toList.take (k + 1) = s.data.toList.take k ++ [s[k]] := by
  rw [List.take_succ_eq_append_getElem (by simpa using h)]; rfl
theorem ret2 {a a' : Int} {b b' : Bool} (h : a = a') (h' : b = b') : Ending.returned (.tuple #[.int .i64 a, .bool b]) = .returned (.tuple #[.int .i64 a', .bool b']) := by rw [h, h']

/-- what parseSize answers -/
def psV (l : List UInt8) : Nat := if good l = true then cp (val l) else 0
theorem psV_good {l : List UInt8} (h : good l = true) : psV l = cp (val l) := if_pos h
theorem psV_bad {l : List UInt8} (h : good l = false) : psV l = 0 := by unfold psV; rw [h]; rfl
theorem psV_le (l : List UInt8) : psV l ≤ 1073741824 := by
  unfold psV; split
  · exact cp_le _
  · omega

theorem size_pos {s : ByteArray} (h0 : 0 < s.size) : s.data.toList ≠ [] := by
  intro h
  have h2 : s.data.toList.length = 0 := by rw [h]; rfl
  have h3 : s.data.toList.length = s.size := rfl
  omega
theorem good_of (s : ByteArray) (h0 : 0 < s.size) : good s.data.toList = s.data.toList.all dg := by
  have : s.data.toList.isEmpty = false := by simpa using size_pos h0
  unfold good; rw [this]; rfl
theorem good_nil {s : ByteArray} (h0 : s.size = 0) : good s.data.toList = false := by
  have h3 : s.data.toList.length = s.size := rfl
  have : s.data.toList = [] := List.eq_nil_of_length_eq_zero (by omega)
  rw [this]; rfl
theorem bad_at (s : ByteArray) (k : Nat) (h : k < s.size) (hd : dg s[k] = false) : good s.data.toList = false := by
  unfold good
  rw [Bool.and_eq_false_iff]; right
  rw [List.all_eq_false]
  exact ⟨s[k], List.getElem_mem (l := s.data.toList) (by simpa using h), by simp [hd]⟩
theorem all_snoc (s : ByteArray) (k : Nat) (h : k < s.size) (ha : (s.data.toList.take k).all dg = true) (hd : dg s[k] = true) : (s.data.toList.take (k + 1)).all dg = true := by
  rw [take_snoc s k h, List.all_append, ha]; simp [hd]
theorem all_end (s : ByteArray) (k : Nat) (h0 : 0 < s.size) (h : s.size ≤ k) (ha : (s.data.toList.take k).all dg = true) : good s.data.toList = true := by
  rw [good_of s h0]
  rw [List.take_of_length_le (by simpa using h)] at ha
  exact ha
theorem dg_no (c : UInt8) (h : (c.toNat : Int) < 48 ∨ 57 < (c.toNat : Int)) : dg c = false := by
  unfold dg; simp; omega
theorem dg_yes (c : UInt8) (h : 48 ≤ (c.toNat : Int)) (h' : (c.toNat : Int) ≤ 57) : dg c = true := by
  unfold dg; simp; omega

theorem allDigits_any (s : ByteArray) (w : World) (hs : s.size ≤ 65536) :
    Calls Try.prog 7 #[.string s] w fun e w' => e = .returned (.bool (good s.data.toList)) ∧ w' = w := by
  by_cases h0 : s.size = 0
  · rw [good_nil h0]
    have h0' : ((s.size : Int) == 0) = true := by simp [h0]
    go_enter Try.func7, Try.ntmps7
    go_wp2
    go_ret
    exact ⟨rfl, rfl⟩
  · have h0' : ((s.size : Int) == 0) = false := by rw [beq_eq_false_iff_ne]; omega
    go_enter Try.func7, Try.ntmps7
    go_wp2
    go_loop [3] (fun i => ∃ k : Nat, k ≤ s.size ∧ i = .int .i64 k ∧ (s.data.toList.take k).all dg = true) (fun i => s.size - (intOf i).toNat)
    case atStart => exact ⟨0, Nat.zero_le _, rfl, rfl⟩
    case round =>
      obtain ⟨k, hk, rfl, ha⟩ := hrel
      have HA : Hid ((s.data.toList.take k).all dg = true) := ha
      clear ha
      by_cases hlt : k < s.size
      · by_cases hd : 48 ≤ (s[k].toNat : Int) ∧ (s[k].toNat : Int) ≤ 57
        · obtain ⟨hd1, hd2⟩ := hd
          go_wp2
          go_round
          case rel => exact ⟨k + 1, by omega, by go_num, all_snoc s k hlt HA.out (dg_yes _ hd1 hd2)⟩
          case measure => simp [intOf]; omega
        · have hg := bad_at s k hlt (dg_no _ (by omega))
          have HG : Hid (good s.data.toList = false) := hg
          clear hg
          go_wp2
          all_goals
            first
            | (go_ret; exact ⟨by rw [HG.out]; rfl, rfl⟩)
            | (exfalso; omega)
      · go_wp2
        go_ret
        exact ⟨by rw [all_end s k (by omega) (by omega) HA.out]; rfl, rfl⟩

set_option maxHeartbeats 1000000 in
theorem parseSize_any (s : ByteArray) (w : World) (hs : s.size ≤ 65536) :
    Calls Try.prog 11 #[.string s] w fun e w' => e = .returned (.tuple #[.int .i64 (psV s.data.toList), .bool (good s.data.toList)]) ∧ w' = w := by
  by_cases h0 : s.size = 0
  · rw [psV_bad (good_nil h0), good_nil h0]
    have h1 : s.toList.isEmpty = true := by
      rw [ByteArray.toList_eq]
      have h3 : s.data.toList.length = s.size := rfl
      simpa using (List.eq_nil_of_length_eq_zero (by omega) : s.data.toList = [])
    go_enter Try.func11, Try.ntmps11
    go_wp2
    go_ret2
    exact ⟨rfl, rfl⟩
  · have h1 : s.toList.isEmpty = false := by
      rw [ByteArray.toList_eq]
      simpa using size_pos (s := s) (by omega)
    go_enter Try.func11, Try.ntmps11
    go_wp2
    go_loop [4, 11] (fun n i => ∃ k : Nat, k ≤ s.size ∧ i = .int .i64 k ∧ n = .int .i64 (cp (val (s.data.toList.take k))) ∧ (s.data.toList.take k).all dg = true) (fun _ i => s.size - (intOf i).toNat)
    case atStart => exact ⟨0, Nat.zero_le _, rfl, rfl, rfl⟩
    case round =>
      obtain ⟨k, hk, rfl, rfl, ha⟩ := hrel
      have HA : Hid ((s.data.toList.take k).all dg = true) := ha
      clear ha
      have hcl := cp_le (val (s.data.toList.take k))
      by_cases hlt : k < s.size
      · by_cases hd : 48 ≤ (s[k].toNat : Int) ∧ (s[k].toNat : Int) ≤ 57
        · obtain ⟨hd1, hd2⟩ := hd
          have hsn := cp_snoc (s.data.toList.take k) s[k]
          rw [← take_snoc s k hlt] at hsn
          have HS : Hid (cp (val (s.data.toList.take (k + 1))) = cp (cp (val (s.data.toList.take k)) * 10 + (s[k].toNat - 48))) := hsn
          clear hsn
          go_wp2
          all_goals
            go_round
            case rel => exact ⟨k + 1, by omega, by go_num, by rw [HS.out]; unfold cp; go_num, all_snoc s k hlt HA.out (dg_yes _ hd1 hd2)⟩
            case measure => simp [intOf]; omega
        · have hg := bad_at s k hlt (dg_no _ (by omega))
          have HG : Hid (good s.data.toList = false) := hg
          clear hg
          go_wp2
          all_goals
            first
            | (go_ret2; exact ⟨ret2 (by rw [psV_bad HG.out]; rfl) HG.out.symm, rfl⟩)
            | (exfalso; omega)
      · have HE : Hid (s.data.toList.take k = s.data.toList) := List.take_of_length_le (by simp; omega)
        go_wp2
        go_ret2
        exact ⟨ret2 (by rw [psV_good (all_end s k (by omega) (by omega) HA.out), HE.out]) (all_end s k (by omega) (by omega) HA.out).symm, rfl⟩

theorem ZZparseSize_any (s : ByteArray) (w : World) (hs : s.size ≤ 65536) :
    Calls Try.prog 6 #[.string s] w fun e w' => e = .returned (.tuple #[.int .i64 (psV s.data.toList), .bool (good s.data.toList)]) ∧ w' = w := by
  obtain ⟨n, hn⟩ : ∃ n : Nat, (psV s.data.toList) = n := ⟨_, rfl⟩
  obtain ⟨b, hb⟩ : ∃ b, good s.data.toList = b := ⟨_, rfl⟩
  have hp := parseSize_any s w hs
  rw [hn, hb] at hp ⊢
  clear hn hb
  go_enter Try.func6, Try.ntmps6
  go_wp2_with fail
  refine hp.mono ?_
  rintro e w' ⟨rfl, rfl⟩
  go_wp2
  go_ret2
  exact ⟨rfl, rfl⟩

end Go.Proofs.Qxb6617796a
