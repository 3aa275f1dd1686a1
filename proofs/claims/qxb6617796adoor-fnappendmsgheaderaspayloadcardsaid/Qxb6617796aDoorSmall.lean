/-
  zzIsToken (11), zzSameBytes (17), zzBytes (16): contracts.
-/
import Derived.Test.Qxb6617796aDoorMsg
import Derived.Deep.QuietTactic
import Derived.BigQuiet
import Derived.WalkLawsBesides
namespace Go.Proofs.Qxb6617796aDoor
open Go.RowKit
open Go.Lib hiding intOf

/-- neither blank, tab, CR nor LF -/
def okc (c : UInt8) : Bool := decide (c.toNat ≠ 32 ∧ c.toNat ≠ 9 ∧ c.toNat ≠ 13 ∧ c.toNat ≠ 10)
/-- a token: not empty, of such bytes -/
def tok (l : List UInt8) : Bool := !l.isEmpty && l.all okc

theorem take_snoc (s : ByteArray) (k : Nat) (h : k < s.size) : s.data.toList.take (k + 1) = s.data.toList.take k ++ [s[k]] := by
  rw [List.take_succ_eq_append_getElem (by simpa using h)]; rfl
theorem size_pos {s : ByteArray} (h0 : 0 < s.size) : s.data.toList ≠ [] := by
  intro h
  have h2 : s.data.toList.length = 0 := by rw [h]; rfl
  have h3 : s.data.toList.length = s.size := rfl
  omega
theorem tok_nil {s : ByteArray} (h0 : s.size = 0) : tok s.data.toList = false := by
  have h3 : s.data.toList.length = s.size := rfl
  have : s.data.toList = [] := List.eq_nil_of_length_eq_zero (by omega)
  rw [this]; rfl
theorem tok_bad (s : ByteArray) (k : Nat) (h : k < s.size) (hd : okc s[k] = false) : tok s.data.toList = false := by
  unfold tok
  rw [Bool.and_eq_false_iff]; right
  rw [List.all_eq_false]
  exact ⟨s[k], List.getElem_mem (l := s.data.toList) (by simpa using h), by simp [hd]⟩
theorem tok_snoc (s : ByteArray) (k : Nat) (h : k < s.size) (ha : (s.data.toList.take k).all okc = true) (hd : okc s[k] = true) : (s.data.toList.take (k + 1)).all okc = true := by
  rw [take_snoc s k h, List.all_append, ha]; simp [hd]
theorem tok_end (s : ByteArray) (k : Nat) (h0 : 0 < s.size) (h : s.size ≤ k) (ha : (s.data.toList.take k).all okc = true) : tok s.data.toList = true := by
  have he : s.data.toList.isEmpty = false := by simpa using size_pos h0
  rw [List.take_of_length_le (by simpa using h)] at ha
  unfold tok; rw [he, ha]; rfl
theorem okc_no (c : UInt8) (h : (c.toNat : Int) = 32 ∨ (c.toNat : Int) = 9 ∨ (c.toNat : Int) = 13 ∨ (c.toNat : Int) = 10) : okc c = false := by
  unfold okc; simp; omega
theorem okc_yes (c : UInt8) (h1 : (c.toNat : Int) ≠ 32) (h2 : (c.toNat : Int) ≠ 9) (h3 : (c.toNat : Int) ≠ 13) (h4 : (c.toNat : Int) ≠ 10) : okc c = true := by
  unfold okc; simp; omega
theorem beqT {a b : Int} (h : a = b) : (a == b) = true := by simp [h]
theorem beqF {a b : Int} (h : a ≠ b) : (a == b) = false := by simp [h]

set_option maxHeartbeats 1000000 in
theorem token_any (s : ByteArray) (w : World) (hs : s.size ≤ 65536) :
    Calls Tryd.prog 11 #[.string s] w fun e w' => e = .returned (.bool (tok s.data.toList)) ∧ w' = w := by
  by_cases h0 : s.size = 0
  · rw [tok_nil h0]
    have h1 : s.toList.isEmpty = true := by
      rw [ByteArray.toList_eq]
      have h3 : s.data.toList.length = s.size := rfl
      simpa using (List.eq_nil_of_length_eq_zero (by omega) : s.data.toList = [])
    go_enter Tryd.func11, Tryd.ntmps11
    go_wp2
    go_ret
    exact ⟨rfl, rfl⟩
  · have h1 : s.toList.isEmpty = false := by
      rw [ByteArray.toList_eq]
      simpa using size_pos (s := s) (by omega)
    go_enter Tryd.func11, Tryd.ntmps11
    go_wp2
    go_loop [3] (fun i => ∃ k : Nat, k ≤ s.size ∧ i = .int .i64 k ∧ (s.data.toList.take k).all okc = true) (fun i => s.size - (intOf i).toNat)
    case atStart => exact ⟨0, Nat.zero_le _, rfl, rfl⟩
    case round =>
      obtain ⟨k, hk, rfl, ha⟩ := hrel
      have HA : Hid ((s.data.toList.take k).all okc = true) := ha
      clear ha
      by_cases hlt : k < s.size
      · by_cases c1 : (s[k].toNat : Int) = 32
        · have HG : Hid (tok s.data.toList = false) := tok_bad s k hlt (okc_no _ (.inl c1))
          have b1 := beqT c1
          clear c1
          go_wp2
          go_ret
          exact ⟨by rw [HG.out]; rfl, rfl⟩
        by_cases c2 : (s[k].toNat : Int) = 9
        · have HG : Hid (tok s.data.toList = false) := tok_bad s k hlt (okc_no _ (.inr (.inl c2)))
          have b1 := beqF c1
          have b2 := beqT c2
          clear c1 c2
          go_wp2
          go_ret
          exact ⟨by rw [HG.out]; rfl, rfl⟩
        by_cases c3 : (s[k].toNat : Int) = 13
        · have HG : Hid (tok s.data.toList = false) := tok_bad s k hlt (okc_no _ (.inr (.inr (.inl c3))))
          have b1 := beqF c1
          have b2 := beqF c2
          have b3 := beqT c3
          clear c1 c2 c3
          go_wp2
          go_ret
          exact ⟨by rw [HG.out]; rfl, rfl⟩
        by_cases c4 : (s[k].toNat : Int) = 10
        · have HG : Hid (tok s.data.toList = false) := tok_bad s k hlt (okc_no _ (.inr (.inr (.inr c4))))
          have b1 := beqF c1
          have b2 := beqF c2
          have b3 := beqF c3
          have b4 := beqT c4
          clear c1 c2 c3 c4
          go_wp2
          go_ret
          exact ⟨by rw [HG.out]; rfl, rfl⟩
        · have HS := tok_snoc s k hlt HA.out (okc_yes _ c1 c2 c3 c4)
          have HT : Hid ((s.data.toList.take (k + 1)).all okc = true) := HS
          have b1 := beqF c1
          have b2 := beqF c2
          have b3 := beqF c3
          have b4 := beqF c4
          clear c1 c2 c3 c4 HS
          go_wp2
          go_round
          case rel => exact ⟨k + 1, by omega, by go_num, HT.out⟩
          case measure => simp [intOf]; omega
      · have HE : Hid (tok s.data.toList = true) := tok_end s k (by omega) (by omega) HA.out
        go_wp2
        go_ret
        exact ⟨by rw [HE.out]; rfl, rfl⟩

/-- the byte at a place, as the walk reads it -/
theorem Row.at {w : World} {b off : Nat} {l : List UInt8} (h4 : ∀ j u, (byteCells l)[j]? = some u → w.cell? ⟨b, off + j, none⟩ = some u) (j : Nat) (hj : j < l.length) : w.cell? ⟨b, off + j, none⟩ = some (.int .u8 (l[j].toNat : Int)) :=
  h4 j _ (by simp [byteCells, hj])

set_option maxHeartbeats 1000000 in
theorem same_any (va vb : Value) (l : List UInt8) (w : World) (hl : l.length ≤ 1000000) (ha : Row w va l) (hb : Row w vb l) :
    Calls Tryd.prog 17 #[va, vb] w fun e w' => e = .returned (.bool true) ∧ ∃ q, w' = w.drewN q := by
  obtain ⟨b1, off1, cap1, rfl, _, _, _, c1⟩ := ha
  obtain ⟨b2, off2, cap2, rfl, _, _, _, c2⟩ := hb
  have HC1 : Hid (∀ j (hj : j < l.length), w.cell? ⟨b1, off1 + j, none⟩ = some (.int .u8 (l[j].toNat : Int))) := fun j hj => Row.at c1 j hj
  have HC2 : Hid (∀ j (hj : j < l.length), w.cell? ⟨b2, off2 + j, none⟩ = some (.int .u8 (l[j].toNat : Int))) := fun j hj => Row.at c2 j hj
  clear c1 c2
  obtain ⟨L, hL⟩ : ∃ L, l.length = L := ⟨_, rfl⟩
  simp only [hL]
  have hL' : L ≤ 1000000 := by omega
  have HL : Hid (l.length = L) := hL
  clear hL hl
  go_enter Tryd.func17, Tryd.ntmps17
  go_wp2
  go_loopw [5] (fun i wr => ∃ j : Nat, j ≤ L ∧ i = .int .i64 j ∧ ∃ q, wr = w.drewN q) (fun i _ => L - (intOf i).toNat)
  case atStart => exact ⟨0, by omega, rfl, 0, rfl⟩
  case round =>
    obtain ⟨j, hj, rfl, q, rfl⟩ := hrel
    by_cases hjl : j < L
    · have d1 := HC1.out j (by have := HL.out; omega)
      have d2 := HC2.out j (by have := HL.out; omega)
      have hjL : (j : Int) < (L : Int) := by omega
      go_wp2_with fail
      go_quiet (fail)
      go_wp2
      go_roundw
      case rel => exact ⟨j + 1, by omega, by go_num, _, rfl⟩
      case measure => simp [intOf]; omega
    · go_wp2
      go_ret
      exact ⟨rfl, q, rfl⟩

set_option maxHeartbeats 1000000 in
theorem bytes_any (sub sid rep : ByteArray) (ah ap : Option Addr) (lh ch lp cp : Nat) (w : World) (h1 : sub.size ≤ maxLen) (h2 : sid.size ≤ maxLen) (h3 : rep.size ≤ maxLen) (h4 : lh ≤ maxLen) (h5 : lp ≤ maxLen) :
    Calls Tryd.prog 16 #[.string sub, .string sid, .string rep, .slice ah lh ch, .slice ap lp cp] w fun e w' => (∃ b, e = .returned (.bool b)) ∧ w' = w := by
  unfold maxLen at h1 h2 h3 h4 h5
  go_enter Tryd.func16, Tryd.ntmps16
  go_wp2
  all_goals (go_ret; exact ⟨⟨_, rfl⟩, rfl⟩)

end Go.Proofs.Qxb6617796aDoor
