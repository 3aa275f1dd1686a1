/-
  zzDecimalCapped (8): its contract at a text of digits.
-/
import Derived.Test.Qxb6617796aDec
namespace Go.Proofs.Qxb6617796a
open Go.RowKit

/-- the first k bytes are '0' -/
def zz (s : ByteArray) (k : Nat) : Prop := ∀ c ∈ s.data.toList.take k, c.toNat = 48
theorem zz_zero (s : ByteArray) : zz s 0 := by intro c hc; simp at hc
theorem zz_succ (s : ByteArray) (k : Nat) (h : k < s.size) (hz : zz s k) (h48 : (s[k].toNat : Int) = 48) : zz s (k + 1) := by
  intro c hc
  rw [take_snoc s k h] at hc
  rcases List.mem_append.1 hc with h1 | h1
  · exact hz c h1
  · simp at h1; subst h1; omega
theorem val_zeros (l : List UInt8) (h : ∀ c ∈ l, c.toNat = 48) : val l = 0 := by
  induction l with
  | nil => rfl
  | cons c l ih =>
    rw [val_cons, ih (fun x hx => h x (List.mem_cons_of_mem _ hx)), h c (List.mem_cons_self ..)]
    simp
theorem ext_list (s : ByteArray) (k : Nat) : (s.extract k s.size).data.toList = s.data.toList.drop k := by
  rw [ByteArray.data_extract, Array.toList_extract, List.extract_eq_take_drop]
  exact List.take_of_length_le (by rw [List.length_drop]; show s.size - k ≤ s.size - k; omega)
theorem ext_size (s : ByteArray) (k : Nat) : (s.extract k s.size).size = s.size - k := by
  simp
theorem val_drop (s : ByteArray) (k : Nat) (hz : zz s k) : val s.data.toList = val (s.extract k s.size).data.toList := by
  rw [ext_list]
  have h := val_append (s.data.toList.take k) (s.data.toList.drop k)
  rw [List.take_append_drop, val_zeros _ hz] at h
  simpa using h
theorem all_ext (s : ByteArray) (k : Nat) (h : s.data.toList.all dg = true) : (s.extract k s.size).data.toList.all dg = true := by
  rw [ext_list]
  rw [List.all_eq_true] at h ⊢
  exact fun x hx => h x (List.mem_of_mem_drop hx)
theorem big_of (s : ByteArray) (k : Nat) (h : s.data.toList.all dg = true) (hz : zz s k) (hk : 10 < s.size - k) (h48 : ∀ (hk : k < s.size), (s[k].toNat : Int) ≠ 48) : cp (val s.data.toList) = 1073741824 := by
  have hlt : k < s.size := by omega
  rw [val_drop s k hz, ext_list, List.drop_eq_getElem_cons (by simpa using hlt)]
  have h1 : 1073741824 ≤ val (s.data.toList[k]'(by simpa using hlt) :: s.data.toList.drop (k + 1)) := by
    apply val_big
    · have h2 := h48 hlt
      rw [List.all_eq_true] at h
      have h3 := h (s.data.toList[k]'(by simpa using hlt)) (List.getElem_mem _)
      have h4 : 48 ≤ (s.data.toList[k]'(by simpa using hlt)).toNat ∧ (s.data.toList[k]'(by simpa using hlt)).toNat ≤ 57 := by simpa [dg] using h3
      have h5 : (s.data.toList[k]'(by simpa using hlt)).toNat ≠ 48 := by intro h6; exact h2 (by show ((s.data.toList[k]'(by simpa using hlt)).toNat : Int) = 48; omega)
      omega
    · rw [List.length_drop]; show 10 ≤ s.size - (k + 1); omega
  unfold cp; omega

/-- the digits' bounds, an index at a time -/
theorem dig_at (t : ByteArray) (h : t.data.toList.all dg = true) (j : Nat) (hj : j < t.size) : 48 ≤ (t[j].toNat : Int) ∧ (t[j].toNat : Int) ≤ 57 := by
  rw [List.all_eq_true] at h
  have h3 := h (t.data.toList[j]'(by simpa using hj)) (List.getElem_mem _)
  have h4 : 48 ≤ (t.data.toList[j]'(by simpa using hj)).toNat ∧ (t.data.toList[j]'(by simpa using hj)).toNat ≤ 57 := by simpa [dg] using h3
  have h5 : t[j] = t.data.toList[j]'(by simpa using hj) := rfl
  rw [h5]; omega
theorem val_take_lt (t : ByteArray) (h : t.data.toList.all dg = true) (j : Nat) (hj : j ≤ 10) : val (t.data.toList.take j) < 10000000000 := by
  have h1 : (t.data.toList.take j).all dg = true := by
    rw [List.all_eq_true] at h ⊢
    exact fun x hx => h x (List.mem_of_mem_take hx)
  have h2 := val_lt _ h1
  have h3 : 10 ^ (t.data.toList.take j).length ≤ 10 ^ 10 := pow_le10 (by rw [List.length_take]; omega)
  omega

set_option maxHeartbeats 1000000 in
theorem decCapped_any (s : ByteArray) (w : World) (hs : s.size ≤ 65536) (hg : Hid (s.data.toList.all dg = true)) :
    Calls Try.prog 8 #[.string s] w fun e w' => e = .returned (.int .u64 (cp (val s.data.toList))) ∧ w' = w := by
  go_enter Try.func8, Try.ntmps8
  go_wp2
  go_loop [3] (fun i => ∃ k : Nat, k ≤ s.size ∧ i = .int .i64 k ∧ zz s k) (fun i => s.size - (intOf i).toNat)
  case atStart => exact ⟨0, Nat.zero_le _, rfl, zz_zero s⟩
  case round =>
    obtain ⟨k, hk, rfl, hz⟩ := hrel
    by_cases hc : ∃ (h : k < s.size), (s[k].toNat : Int) = 48
    · obtain ⟨hlt, h48⟩ := hc
      have HZ := zz_succ s k hlt hz h48
      have h48' : ((s[k].toNat : Int) == 48) = true := by simpa using h48
      clear h48
      go_wp2
      go_round
      case rel => exact ⟨k + 1, by omega, by go_num, HZ⟩
      case measure => simp [intOf]; omega
    · have h48 : ∀ (hk : k < s.size), (s[k].toNat : Int) ≠ 48 := fun h h' => hc ⟨h, h'⟩
      have H48 : Hid (∀ (hk : k < s.size), (s[k].toNat : Int) ≠ 48) := h48
      clear hc
      by_cases hbig : 10 < s.size - k
      · have HB : Hid (cp (val s.data.toList) = 1073741824) := big_of s k hg.out hz hbig h48
        have hlt : k < s.size := by omega
        have h48' : ((s[k].toNat : Int) == 48) = false := by simpa using h48 hlt
        clear h48
        go_wp2
        go_ret
        exact ⟨ret_u64 (by rw [HB.out]; rfl), rfl⟩
      · have hga := all_ext s k hg.out
        have HV : Hid (val s.data.toList = val (s.extract k s.size).data.toList) := val_drop s k hz
        have hts := ext_size s k
        have HG : Hid ((s.extract k s.size).data.toList.all dg = true) := hga
        clear hga
        by_cases hlt : k < s.size
        · have h48' : ((s[k].toNat : Int) == 48) = false := by simpa using h48 hlt
          clear h48
          go_wp2
          have ht10 : (s.extract k s.size).size ≤ 10 := by omega
          clear hts
          generalize s.extract k s.size = t at HV HG ht10 ⊢
          go_loop [5, 6] (fun v j => ∃ n : Nat, n ≤ t.size ∧ j = .int .i64 n ∧ v = .int .u64 (val (t.data.toList.take n))) (fun _ j => t.size - (intOf j).toNat)
          case atStart => exact ⟨0, Nat.zero_le _, rfl, rfl⟩
          case round =>
            obtain ⟨n, hn, rfl, rfl⟩ := hrel
            have hvl := val_take_lt t HG.out n (by omega)
            by_cases hnt : n < t.size
            · obtain ⟨hd1, hd2⟩ := dig_at t HG.out n hnt
              have HS : Hid (val (t.data.toList.take (n + 1)) = val (t.data.toList.take n) * 10 + (t[n].toNat - 48)) := by rw [take_snoc t n hnt]; exact val_snoc _ _
              go_wp2
              go_round
              case rel => exact ⟨n + 1, by omega, by go_num, by rw [HS.out]; go_num⟩
              case measure => simp [intOf]; omega
            · have HE : Hid (t.data.toList.take n = t.data.toList) := List.take_of_length_le (by simp; omega)
              by_cases hC : 1073741824 < val (t.data.toList.take n)
              · go_wp2
                go_ret
                exact ⟨ret_u64 (by rw [HV.out]; rw [HE.out] at hC; unfold cp; omega), rfl⟩
              · go_wp2
                go_ret
                exact ⟨ret_u64 (by rw [HV.out]; rw [HE.out] at hC ⊢; unfold cp; omega), rfl⟩
        · clear h48
          go_wp2
          have ht10 : (s.extract k s.size).size ≤ 10 := by omega
          clear hts
          generalize s.extract k s.size = t at HV HG ht10 ⊢
          go_loop [5, 6] (fun v j => ∃ n : Nat, n ≤ t.size ∧ j = .int .i64 n ∧ v = .int .u64 (val (t.data.toList.take n))) (fun _ j => t.size - (intOf j).toNat)
          case atStart => exact ⟨0, Nat.zero_le _, rfl, rfl⟩
          case round =>
            obtain ⟨n, hn, rfl, rfl⟩ := hrel
            have hvl := val_take_lt t HG.out n (by omega)
            by_cases hnt : n < t.size
            · obtain ⟨hd1, hd2⟩ := dig_at t HG.out n hnt
              have HS : Hid (val (t.data.toList.take (n + 1)) = val (t.data.toList.take n) * 10 + (t[n].toNat - 48)) := by rw [take_snoc t n hnt]; exact val_snoc _ _
              go_wp2
              go_round
              case rel => exact ⟨n + 1, by omega, by go_num, by rw [HS.out]; go_num⟩
              case measure => simp [intOf]; omega
            · have HE : Hid (t.data.toList.take n = t.data.toList) := List.take_of_length_le (by simp; omega)
              by_cases hC : 1073741824 < val (t.data.toList.take n)
              · go_wp2
                go_ret
                exact ⟨ret_u64 (by rw [HV.out]; rw [HE.out] at hC; unfold cp; omega), rfl⟩
              · go_wp2
                go_ret
                exact ⟨ret_u64 (by rw [HV.out]; rw [HE.out] at hC ⊢; unfold cp; omega), rfl⟩

theorem good_all {l : List UInt8} (h : good l = true) : Hid (l.all dg = true) := by
  unfold good at h
  rw [Bool.and_eq_true] at h
  exact h.2

end Go.Proofs.Qxb6617796a
