/-
  FnParseSizeCut (4): the walk's ways.
-/
import Derived.Test.Qxb6617796aDcc
namespace Go.Proofs.Qxb6617796a
open Go.RowKit

theorem head_list (s : ByteArray) (k : Nat) : (s.extract 0 k).data.toList = s.data.toList.take k := by
  rw [ByteArray.data_extract, Array.toList_extract, List.extract_eq_take_drop]; simp
theorem cut_list (s : ByteArray) (k : Nat) : s.data.toList = (s.extract 0 k).data.toList ++ (s.extract k s.size).data.toList := by
  rw [head_list, ext_list, List.take_append_drop]
theorem cut_good (s : ByteArray) (k : Nat) (h0 : 0 < k) (h1 : k < s.size) : good s.data.toList = (good (s.extract 0 k).data.toList && good (s.extract k s.size).data.toList) := by
  rw [cut_list s k]
  refine good_append _ _ (size_pos ?_) (size_pos ?_)
  · simp; omega
  · simp; omega
theorem cut_val (s : ByteArray) (k : Nat) : cp (val s.data.toList) = cp (cp (val (s.extract 0 k).data.toList) * p10 (s.size - k) + cp (val (s.extract k s.size).data.toList)) := by
  rw [cut_list s k, val_append, cut_law]
  congr 4
  show (s.extract k s.size).size = s.size - k
  simp

set_option maxHeartbeats 1000000 in
theorem cut_near (s : ByteArray) (k : Nat) (w : World) (hs : s.size ≤ 65536) (h0 : 0 < k) (h1 : k < s.size) :
    Calls Try.prog 4 #[.string s, .int .i64 k] w fun e w' => e = .returned (.bool true) ∧ w' = w := by
  have HB := bytes9_any s k w (by unfold maxLen; omega)
  rw [decide_eq_true (by omega)] at HB
  have HA := ZZparseSize_any (s.extract 0 k) w (by simp; omega)
  have HT := ZZparseSize_any (s.extract k s.size) w (by simp; omega)
  have HC := ZZparseSize_any s w hs
  have HD := allDigits_any s w hs
  have HP := pow10_any (s.size - k) w (by omega)
  have hg := cut_good s k h0 h1
  have hv := cut_val s k
  by_cases hA : good (s.extract 0 k).data.toList = true ∧ good (s.extract k s.size).data.toList = true
  · obtain ⟨hA, hT⟩ := hA
    rw [hA, hT] at hg
    simp only [Bool.and_self] at hg
    rw [psV_good hA, hA] at HA
    rw [psV_good hT, hT] at HT
    rw [psV_good hg, hg] at HC
    rw [hg] at HD
    clear hA hT hg
    have b1 := cp_le (val (s.extract 0 k).data.toList)
    have b2 := cp_le (val (s.extract k s.size).data.toList)
    have b3 := cp_le (val s.data.toList)
    have b4 := p10_le (s.size - k)
    generalize cp (val (s.extract 0 k).data.toList) = va at *
    generalize cp (val (s.extract k s.size).data.toList) = vb at *
    generalize cp (val s.data.toList) = vc at *
    generalize p10 (s.size - k) = vp at *
    have b5 : va * vp ≤ 1073741824 * 2147483648 := Nat.mul_le_mul b1 b4
    have b6 : (va : Int) * (vp : Int) ≤ 2305843009213693952 := by rw [← Int.natCast_mul]; omega
    have b7 : 0 ≤ (va : Int) * (vp : Int) := Int.mul_nonneg (by omega) (by omega)
    have HK : Hid ((s.size : Int) - (k : Int) = ((s.size - k : Nat) : Int)) := by unfold Hid; omega
    by_cases hC : (1073741824 : Int) < (va : Int) * (vp : Int) + (vb : Int)
    · have hC' : 1073741824 < va * vp + vb := by rw [← Int.natCast_mul] at hC; omega
      have e1 : ((vc : Int) == 1073741824) = true := by
        have : vc = 1073741824 := by rw [hv]; unfold cp; omega
        exact beq_iff_eq.2 (by omega)
      clear hv hC' b5
      go_enter Try.func4, Try.ntmps4
      go_wp2_with fail
      refine HB.mono ?_
      rintro e w' ⟨rfl, rfl⟩
      go_wp2_with fail
      refine HA.mono ?_
      rintro e w' ⟨rfl, rfl⟩
      go_wp2_with fail
      refine HT.mono ?_
      rintro e w' ⟨rfl, rfl⟩
      go_wp2_with fail
      refine HC.mono ?_
      rintro e w' ⟨rfl, rfl⟩
      go_wp2_with fail
      refine HD.mono ?_
      rintro e w' ⟨rfl, rfl⟩
      go_wp2_with fail
      rw [HK.out]
      refine HP.mono ?_
      rintro e w' ⟨rfl, rfl⟩
      go_wp2
      go_ret
      exact ⟨rfl, rfl⟩
    · have hC' : va * vp + vb ≤ 1073741824 := by
        rw [← Int.natCast_mul] at hC; omega
      have e1 : ((vc : Int) == (va : Int) * (vp : Int) + (vb : Int)) = true := by
        have : vc = va * vp + vb := by rw [hv]; unfold cp; omega
        rw [← Int.natCast_mul]
        exact beq_iff_eq.2 (by omega)
      clear hv hC' b5
      go_enter Try.func4, Try.ntmps4
      go_wp2_with fail
      refine HB.mono ?_
      rintro e w' ⟨rfl, rfl⟩
      go_wp2_with fail
      refine HA.mono ?_
      rintro e w' ⟨rfl, rfl⟩
      go_wp2_with fail
      refine HT.mono ?_
      rintro e w' ⟨rfl, rfl⟩
      go_wp2_with fail
      refine HC.mono ?_
      rintro e w' ⟨rfl, rfl⟩
      go_wp2_with fail
      refine HD.mono ?_
      rintro e w' ⟨rfl, rfl⟩
      go_wp2_with fail
      rw [HK.out]
      refine HP.mono ?_
      rintro e w' ⟨rfl, rfl⟩
      go_wp2
      go_ret
      exact ⟨rfl, rfl⟩
  · have hgb : good s.data.toList = false := by
      rw [hg, Bool.eq_false_iff]
      intro h
      rw [Bool.and_eq_true] at h
      exact hA h
    rw [psV_bad hgb, hgb] at HC
    rw [hgb] at HD hg
    clear hgb hA hv HP
    generalize good (s.extract 0 k).data.toList = ga at HA hg
    generalize good (s.extract k s.size).data.toList = gb at HT hg
    generalize psV (s.extract 0 k).data.toList = va at HA
    generalize psV (s.extract k s.size).data.toList = vb at HT
    cases ga
    · clear hg
      go_enter Try.func4, Try.ntmps4
      go_wp2_with fail
      refine HB.mono ?_
      rintro e w' ⟨rfl, rfl⟩
      go_wp2_with fail
      refine HA.mono ?_
      rintro e w' ⟨rfl, rfl⟩
      go_wp2_with fail
      refine HT.mono ?_
      rintro e w' ⟨rfl, rfl⟩
      go_wp2_with fail
      refine HC.mono ?_
      rintro e w' ⟨rfl, rfl⟩
      go_wp2_with fail
      refine HD.mono ?_
      rintro e w' ⟨rfl, rfl⟩
      go_wp2
      go_ret
      exact ⟨rfl, rfl⟩
    · have hgb : gb = false := by simpa using hg.symm
      subst hgb
      clear hg
      go_enter Try.func4, Try.ntmps4
      go_wp2_with fail
      refine HB.mono ?_
      rintro e w' ⟨rfl, rfl⟩
      go_wp2_with fail
      refine HA.mono ?_
      rintro e w' ⟨rfl, rfl⟩
      go_wp2_with fail
      refine HT.mono ?_
      rintro e w' ⟨rfl, rfl⟩
      go_wp2_with fail
      refine HC.mono ?_
      rintro e w' ⟨rfl, rfl⟩
      go_wp2_with fail
      refine HD.mono ?_
      rintro e w' ⟨rfl, rfl⟩
      go_wp2
      go_ret
      exact ⟨rfl, rfl⟩

end Go.Proofs.Qxb6617796a
