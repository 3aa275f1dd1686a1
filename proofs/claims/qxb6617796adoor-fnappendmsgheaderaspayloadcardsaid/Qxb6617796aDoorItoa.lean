/-
  zzItoa (18): its contract.
-/
import Derived.Test.Qxb6617796aDoorSmall
namespace Go.Proofs.Qxb6617796aDoor
open Go.RowKit
open Go.Lib hiding intOf

/-- the digits that are still to come -/
def hi (m : Nat) : List UInt8 := if m = 0 then [] else decDigits m
theorem hi_step (m : Nat) (h : 0 < m) : hi m = hi (m / 10) ++ [UInt8.ofNat (48 + m % 10)] := by
  unfold hi
  rw [if_neg (by omega)]
  by_cases h10 : m < 10
  · rw [decDigits_one h10, if_pos (by omega), Nat.mod_eq_of_lt h10]; rfl
  · rw [if_neg (by omega)]
    conv => lhs; rw [decDigits, dif_neg h10]
theorem pow_one (m i : Nat) (h : m < 10 ^ i) (hm : 0 < m) : 1 ≤ i := by
  rcases i with _ | i
  · simp at h; omega
  · omega
theorem pow_step (m i : Nat) (h : m < 10 ^ i) (hi : 1 ≤ i) : m / 10 < 10 ^ (i - 1) := by
  obtain ⟨i, rfl⟩ : ∃ k, i = k + 1 := ⟨i - 1, by omega⟩
  rw [Nat.pow_succ] at h
  simp only [Nat.add_sub_cancel]
  omega
theorem ofNat_toNat (m : Nat) : ((UInt8.ofNat (48 + m % 10)).toNat : Int) = 48 + (m : Int) % 10 := by
  rw [UInt8.toNat_ofNat']; omega

/-- what the array holds: the digits ds from place i on -/
def Arr (wr : World) (g i : Nat) (ds : List UInt8) : Prop := ∃ cur, wr.heap[g]? = some (.cells cur 36 (0, 0)) ∧ cur.size = 24 ∧ ∀ j u, (byteCells ds)[j]? = some u → cur[i + j]? = some u

theorem heap_last (w : World) (o : Obj) : (w.alloc o).heap[w.heap.size]? = some o := by
  show (w.heap.push o)[w.heap.size]? = some o
  simp

theorem slice_tail (g i : Nat) (h : i < 24) (w : World) : (Instr.sliceAt 36 (.pointer (some ⟨g, 0, none⟩)) (some (.int .i64 i)) none none).run Tryd.prog w = .ok (.slice (some ⟨g, i, none⟩) (24 - i) (24 - i)) w := by
  have hl : Tryd.prog.arrayLen 36 = 24 := by kernel_rfl
  have he : Tryd.prog.elem 36 = 5 := by kernel_rfl
  have hz : (sizeOf 5).run Tryd.prog w = .ok 1 w := by kernel_rfl
  rw [run_sliceAt_array_l w 36 _ (by rw [hl, he]; exact Tryd.underlying36) .i64 i (by omega) (by rw [hl]; omega), hl, he, hz]
  simp only [Result.andThen_ok, slicedAt, Int.toNat_natCast, Nat.mul_one]
  rw [if_neg (by omega)]
  simp [Addr.add]
  omega

set_option maxRecDepth 10000 in
set_option maxHeartbeats 1000000 in
theorem itoa_pos (n : Nat) (h0 : 0 < n) (hn : n ≤ 65536) (w : World) :
    Calls Tryd.prog 18 #[.int .i64 n] w fun e w' => e = .returned (.string ⟨(decDigits n).toArray⟩) ∧ Below w.heap.size w w' := by
  have hne : ((n : Int) == 0) = false := beqF (by omega)
  go_enter Tryd.func18, Tryd.ntmps18
  go_wp2
  go_loopw [0, 4] (fun nn ii wr => ∃ (m i : Nat) (ds : List UInt8), nn = .int .i64 m ∧ ii = .int .i64 i ∧ m ≤ 65536 ∧ i + ds.length = 24 ∧ m < 10 ^ i ∧ decDigits n = hi m ++ ds ∧ Arr wr w.heap.size i ds ∧ Below w.heap.size w wr) (fun nn _ _ => (intOf nn).toNat)
  case atStart => exact ⟨n, 24, [], rfl, rfl, hn, rfl, by omega, by unfold hi; rw [if_neg (by omega)]; simp, ⟨_, heap_last _ _, rfl, fun j u hj => by simp [byteCells] at hj⟩, (Below.refl _ _).alloc (Nat.le_refl _) _⟩
  case round =>
    obtain ⟨m, i, ds, rfl, rfl, hm, hil, hp, hd, ⟨cur, hg, hsz, hcur⟩, hbw⟩ := hrel
    by_cases hm0 : 0 < m
    · have hi1 := pow_one m i hp hm0
      have hps := pow_step m i hp hi1
      obtain ⟨k, rfl⟩ : ∃ k, i = k + 1 := ⟨i - 1, by omega⟩
      have hk : k < 24 := by omega
      have hki : (k : Int) < 24 := by omega
      have hcell : wr.cell? ⟨w.heap.size, k, none⟩ = some (cur[k]'(by omega)) := by
        rw [cell_of_row wr w.heap.size k cur 36 (0, 0) hg, Array.getElem?_eq_getElem (by omega)]
      have hfz : wr.frozen? ⟨w.heap.size, k, none⟩ = false := by simp [World.frozen?, hg]
      have HD : Hid (decDigits n = hi (m / 10) ++ (UInt8.ofNat (48 + m % 10) :: ds)) := by
        unfold Hid; rw [hd, hi_step m hm0]; simp
      have HP : Hid (m / 10 < 10 ^ k) := by unfold Hid; simpa using hps
      have HG : Hid (wr.heap[w.heap.size]? = some (.cells cur 36 (0, 0))) := hg
      have HC : Hid (∀ j u, (byteCells ds)[j]? = some u → cur[k + 1 + j]? = some u) := hcur
      generalize cur[k]'(by omega) = old at hcell
      clear hd hp hps hg hcur hi1
      go_wp2
      go_roundw
      case rel =>
        refine ⟨m / 10, k, UInt8.ofNat (48 + m % 10) :: ds, by go_num, by go_num, by omega, by simp; omega, HP.out, HD.out, ⟨cur.setIfInBounds k (.int .u8 (48 + (m : Int) % 10)), ?_, by simpa using hsz, fun j u hj => ?_⟩, hbw.setCell (Nat.le_refl _) _⟩
        · rw [setCell_eq_setRow wr w.heap.size k cur 36 (0, 0) _ HG.out]
          exact setRow_heap wr w.heap.size cur _ 36 (0, 0) HG.out
        · rcases j with _ | j
          · simp [byteCells] at hj
            subst hj
            rw [Nat.add_zero, Array.getElem?_setIfInBounds_self_of_lt (by omega)]
            congr 2
            have := ofNat_toNat m
            simpa using this.symm
          · rw [Array.getElem?_setIfInBounds_ne (by omega)]
            have := HC.out j u (by simpa [byteCells] using hj)
            rw [← this]; congr 1; omega
      case measure => simp [intOf]; omega
    · obtain rfl : m = 0 := by omega
      have hds : decDigits n = ds := by rw [hd]; rfl
      have hpos : 0 < ds.length := by rw [← hds, decDigits_length]; exact nDigits_pos n
      have hi24 : i < 24 := by omega
      have hconv : ∀ c, (convert 26 9 (.slice (some ⟨w.heap.size, i, none⟩) (24 - i) c)).run Tryd.prog wr = .ok (.string (strOfNums (ds.map fun b => (b.toNat : Int)))) wr := fun c =>
        run_convert_bytes_arg wr 26 5 Tryd.underlying26 Tryd.underlying5 w.heap.size i (24 - i) c _ (by simp; omega) (fun j hj => by
          rw [cell_of_row wr w.heap.size (i + j) cur 36 (0, 0) hg]
          have hj' : j < ds.length := by omega
          rw [hcur j (.int .u8 (ds[j].toNat : Int)) (by simp [byteCells, hj'])]
          simp [List.getD, hj']) 9 Tryd.underlying9
      have hstr : strOfNums (ds.map fun b => (b.toNat : Int)) = ⟨ds.toArray⟩ := by
        unfold strOfNums
        congr 2
        rw [List.map_map]
        conv => rhs; rw [← List.map_id ds]
        apply List.map_congr_left
        intro b _
        simp
      rw [hstr] at hconv
      have hsl := slice_tail w.heap.size i (by omega) wr
      have HD : Hid (decDigits n = ds) := hds
      clear hcur hg hd hds
      go_wp2
      go_ret
      exact ⟨by rw [HD.out]; rfl, hbw⟩

theorem itoa_any (n : Nat) (hn : n ≤ 65536) (w : World) :
    Calls Tryd.prog 18 #[.int .i64 n] w fun e w' => e = .returned (.string ⟨(decDigits n).toArray⟩) ∧ Below w.heap.size w w' := by
  by_cases h0 : 0 < n
  · exact itoa_pos n h0 hn w
  · obtain rfl : n = 0 := by omega
    rw [decDigits_one (by omega)]
    go_enter Tryd.func18, Tryd.ntmps18
    go_wp2
    go_ret
    exact ⟨rfl, Below.refl _ _⟩

end Go.Proofs.Qxb6617796aDoor
