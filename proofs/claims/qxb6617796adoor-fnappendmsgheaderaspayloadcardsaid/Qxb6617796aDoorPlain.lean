/-
  THE PLAIN LAW: the two deliveries' bytes. No Go text in sight.
-/
import Derived.Test.Qxb6617796aDoorSmall
namespace Go.Proofs.Qxb6617796aDoor
open Go.Lib (decDigits)

/-- what stands ahead of the sizes in a delivery without a header -/
def hd0 (sub sid rep : List UInt8) : List UInt8 := [77, 83, 71, 32] ++ sub ++ [32] ++ sid ++ (if rep = [] then [] else [32] ++ rep)

theorem msg_none (sub sid rep p : List UInt8) : msgL sub sid rep none p = (hd0 sub sid rep ++ [32]) ++ (decDigits p.length ++ ([13, 10] ++ p ++ [13, 10])) := by
  simp [msgL, hd0]
theorem msg_some (sub sid rep h p : List UInt8) : msgL sub sid rep (some h) p = [72] ++ (hd0 sub sid rep ++ [32]) ++ decDigits h.length ++ [32] ++ (decDigits (h ++ p).length ++ ([13, 10] ++ (h ++ p) ++ [13, 10])) := by
  simp [msgL, hd0]

theorem dec_digit (u : Nat) : ∀ c ∈ decDigits u, 48 ≤ c.toNat ∧ c.toNat ≤ 57 := by
  induction u using Nat.strongRecOn with
  | _ u ih =>
    intro c hc
    rw [decDigits] at hc
    split at hc
    · rename_i h
      rw [List.mem_singleton] at hc
      subst hc
      rw [UInt8.toNat_ofNat']; omega
    · rename_i h
      rw [List.mem_append] at hc
      rcases hc with hc | hc
      · exact ih (u / 10) (by omega) c hc
      · rw [List.mem_singleton] at hc
        subst hc
        rw [UInt8.toNat_ofNat']; omega
theorem tok_all {l : List UInt8} (h : tok l = true) : ∀ c ∈ l, c.toNat ≠ 13 ∧ c.toNat ≠ 32 := by
  unfold tok at h
  rw [Bool.and_eq_true, List.all_eq_true] at h
  intro c hc
  have := h.2 c hc
  unfold okc at this
  simp at this
  omega

variable {sub sid rep h p : List UInt8}

/-- the place of the blank ahead of the total size -/
def kAt (sub sid rep : List UInt8) : Nat := (hd0 sub sid rep).length
/-- the place of the first CR -/
def pAt (sub sid rep p : List UInt8) : Nat := (hd0 sub sid rep).length + 1 + (decDigits p.length).length

theorem hd0_no13 (t1 : tok sub = true) (t2 : tok sid = true) (t3 : rep = [] ∨ tok rep = true) : ∀ c ∈ hd0 sub sid rep, c.toNat ≠ 13 := by
  intro c hc
  unfold hd0 at hc
  simp only [List.mem_append] at hc
  rcases hc with (((hc | hc) | hc) | hc) | hc
  · simp at hc; rcases hc with rfl | rfl | rfl | rfl <;> decide
  · exact (tok_all t1 c hc).1
  · simp at hc; subst hc; decide
  · exact (tok_all t2 c hc).1
  · split at hc
    · cases hc
    · rename_i hr
      rw [List.mem_append] at hc
      rcases hc with hc | hc
      · simp at hc; subst hc; decide
      · rcases t3 with t3 | t3
        · exact absurd t3 hr
        · exact (tok_all t3 c hc).1

theorem kp (sub sid rep p : List UInt8) : kAt sub sid rep < pAt sub sid rep p := by unfold kAt pAt; omega
theorem p_lt (sub sid rep p : List UInt8) : pAt sub sid rep p < (msgL sub sid rep none p).length := by
  rw [msg_none]; unfold pAt; simp; omega

theorem at_before (t1 : tok sub = true) (t2 : tok sid = true) (t3 : rep = [] ∨ tok rep = true) (j : Nat) (hj : j < pAt sub sid rep p) (hl : j < (msgL sub sid rep none p).length) : (msgL sub sid rep none p)[j].toNat ≠ 13 := by
  have e : msgL sub sid rep none p = (hd0 sub sid rep ++ [32] ++ decDigits p.length) ++ ([13, 10] ++ p ++ [13, 10]) := by rw [msg_none]; simp
  have hj' : j < (hd0 sub sid rep ++ [32] ++ decDigits p.length).length := by unfold pAt at hj; simp; omega
  have e2 : (msgL sub sid rep none p)[j] = (hd0 sub sid rep ++ [32] ++ decDigits p.length)[j] := by
    simp only [e]; rw [List.getElem_append_left hj']
  rw [e2]
  have hm := List.getElem_mem hj'
  rw [List.mem_append, List.mem_append] at hm
  rcases hm with (hm | hm) | hm
  · exact hd0_no13 t1 t2 t3 _ hm
  · rw [List.mem_singleton] at hm; rw [hm]; decide
  · have := dec_digit _ _ hm; omega
theorem at_p (hl : pAt sub sid rep p < (msgL sub sid rep none p).length) : (msgL sub sid rep none p)[pAt sub sid rep p].toNat = 13 := by
  have e : msgL sub sid rep none p = (hd0 sub sid rep ++ [32] ++ decDigits p.length) ++ (13 :: ([10] ++ p ++ [13, 10])) := by rw [msg_none]; simp
  have hp : pAt sub sid rep p = (hd0 sub sid rep ++ [32] ++ decDigits p.length).length := by unfold pAt; simp; omega
  have e2 : (msgL sub sid rep none p)[pAt sub sid rep p] = 13 := by
    simp only [e, hp]
    rw [List.getElem_append_right (Nat.le_refl _)]
    simp
  rw [e2]; decide
theorem at_mid (j : Nat) (h1 : kAt sub sid rep < j) (h2 : j < pAt sub sid rep p) (hl : j < (msgL sub sid rep none p).length) : (msgL sub sid rep none p)[j].toNat ≠ 32 := by
  have e : msgL sub sid rep none p = (hd0 sub sid rep ++ [32]) ++ (decDigits p.length ++ ([13, 10] ++ p ++ [13, 10])) := msg_none _ _ _ _
  have hk : (hd0 sub sid rep ++ [32]).length ≤ j := by unfold kAt at h1; simp; omega
  have hd : j - (hd0 sub sid rep ++ [32]).length < (decDigits p.length).length := by
    have e3 : (hd0 sub sid rep ++ [32]).length = (hd0 sub sid rep).length + 1 := by simp
    unfold pAt at h2; omega
  have e2 : (msgL sub sid rep none p)[j] = (decDigits p.length)[j - (hd0 sub sid rep ++ [32]).length] := by
    simp only [e]
    rw [List.getElem_append_right hk, List.getElem_append_left hd]
  rw [e2]
  have := dec_digit _ _ (List.getElem_mem hd)
  omega
theorem at_k (hl : kAt sub sid rep < (msgL sub sid rep none p).length) : (msgL sub sid rep none p)[kAt sub sid rep].toNat = 32 := by
  have e : msgL sub sid rep none p = hd0 sub sid rep ++ (32 :: (decDigits p.length ++ ([13, 10] ++ p ++ [13, 10]))) := by rw [msg_none]; simp
  have e2 : (msgL sub sid rep none p)[kAt sub sid rep] = 32 := by
    simp only [e, kAt]
    rw [List.getElem_append_right (Nat.le_refl _)]
    simp
  rw [e2]; decide

theorem want_eq (sub sid rep h p : List UInt8) : [72] ++ (msgL sub sid rep none (h ++ p)).take (kAt sub sid rep + 1) ++ decDigits h.length ++ [32] ++ (msgL sub sid rep none (h ++ p)).drop (kAt sub sid rep + 1) = msgL sub sid rep (some h) p := by
  have hk : kAt sub sid rep + 1 = (hd0 sub sid rep ++ [32]).length := by unfold kAt; simp
  rw [msg_some, msg_none, hk, List.take_left, List.drop_left]
theorem msg_len (sub sid rep p : List UInt8) (h1 : sub.length ≤ 65536) (h2 : sid.length ≤ 65536) (h3 : rep.length ≤ 65536) (h4 : p.length ≤ 131072) : (msgL sub sid rep none p).length ≤ 400000 := by
  rw [msg_none]
  have := dec_len p.length (by omega)
  unfold hd0
  split <;> simp <;> omega
theorem msg_len_some (sub sid rep h p : List UInt8) (h1 : sub.length ≤ 65536) (h2 : sid.length ≤ 65536) (h3 : rep.length ≤ 65536) (h4 : h.length ≤ 65536) (h5 : p.length ≤ 65536) : (msgL sub sid rep (some h) p).length ≤ 500000 := by
  rw [← want_eq]
  have h6 := msg_len sub sid rep (h ++ p) h1 h2 h3 (by simp; omega)
  have h7 := dec_len h.length (by omega)
  simp; omega
theorem msg_ne (sub sid rep p : List UInt8) (h : Option (List UInt8)) : msgL sub sid rep h p ≠ [] := by
  cases h <;> simp [msgL]

theorem plain_facts (sub sid rep h p : List UInt8) (t1 : tok sub = true) (t2 : tok sid = true) (t3 : rep = [] ∨ tok rep = true) :
    ∃ k q : Nat, k < q ∧ q < (msgL sub sid rep none (h ++ p)).length ∧ (∀ j (hj : j < (msgL sub sid rep none (h ++ p)).length), j < q → ((msgL sub sid rep none (h ++ p))[j].toNat : Int) ≠ 13) ∧
      (∀ (hj : q < (msgL sub sid rep none (h ++ p)).length), ((msgL sub sid rep none (h ++ p))[q].toNat : Int) = 13) ∧ (∀ j (hj : j < (msgL sub sid rep none (h ++ p)).length), k < j → j < q → ((msgL sub sid rep none (h ++ p))[j].toNat : Int) ≠ 32) ∧
      (∀ (hj : k < (msgL sub sid rep none (h ++ p)).length), ((msgL sub sid rep none (h ++ p))[k].toNat : Int) = 32) ∧
      [72] ++ (msgL sub sid rep none (h ++ p)).take (k + 1) ++ decDigits h.length ++ [32] ++ (msgL sub sid rep none (h ++ p)).drop (k + 1) = msgL sub sid rep (some h) p := by
  refine ⟨kAt sub sid rep, pAt sub sid rep (h ++ p), kp _ _ _ _, p_lt _ _ _ _, fun j hj hq => ?_, fun hj => ?_, fun j hj h1 h2 => ?_, fun hj => ?_, want_eq _ _ _ _ _⟩
  · have := at_before t1 t2 t3 j hq hj; omega
  · have := at_p hj; omega
  · have := at_mid j h1 h2 hj; omega
  · have := at_k hj; omega

end Go.Proofs.Qxb6617796aDoor
