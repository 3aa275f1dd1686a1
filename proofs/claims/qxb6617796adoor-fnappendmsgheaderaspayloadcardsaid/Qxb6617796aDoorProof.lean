/-
  THE CARD 'Rows.FnAppendMsgHeaderAsPayloadCardSaid', PROVED: the row's statement (the guide's frame for a row that lists variables), then the card by the builder's one call over the given tie.
-/
import Derived.Test.Qxb6617796aDoorLaw2
import Derived.Test.Qxb6617796aDoorTie
import Derived.Test.Qxb6617796aDoorCards
import Derived.WalkKit
import Derived.ProofKit
import Derived.OpenShut
import Derived.ShutString
import Derived.ChangeOld
import Derived.Below
import Derived.LaidMore
import Derived.Lib.LaidTab
import Derived.Stop.LaidErr
import Derived.Stop.Joined
import Derived.SevenTiedAt
namespace Go.Proofs.Qxb6617796aDoor.fnAppendMsgHeaderAsPayload
open Go.ChangeShapes Go.WideShapes Go.ChangeAt Go.RowKit
open Go.ChangeMaps (open_string shut_string)
open Go.Lib (TabIs tabData pow10Tab tabIs_of_head tabBelow_of_tabIs byteCells)

theorem own : ownKnob Tryd.prog.godebug = none := by kernel_rfl
theorem laidOut : laidOutB Tryd.prog = true := by kernel_rfl

/-- what the row lists -/
def laid3 : List (String × DataW Unit) := Rows.fnAppendMsgHeaderAsPayloadRow.laid

/-- the heap that the program's own initialisers leave meets the condition -/
theorem door_met (os : Os) (args : Array Value) : laidMetH Tryd.prog laid3 ((World.doorLaid Tryd.prog 400 os).forCall (fun _ _ => 0) ⟨#[], args, []⟩).memory :=
  laidMetH_of_parts3 (fuel := 8) (laidMet_of_run' 8 (by kernel_rfl) (by kernel_rfl)) (by kernel_rfl) (by kernel_rfl)

theorem gPow : Tryd.prog.globalNamed "internal/strconv.uint64pow10" = some 1 := by kernel_rfl
theorem tPow : (Tryd.prog.globals[1]?).map (·.type) = some 62 := by kernel_rfl
theorem u62 : Tryd.prog.underlying 62 = some (.array 20 48) := by kernel_rfl
theorem c48 : Tryd.prog.cellsOf 48 = 1 := by kernel_rfl
theorem c62 : Tryd.prog.cellsOf 62 = 20 := by kernel_rfl
theorem datum : (Rows.laid_internal_strconv_uint64pow10 : DataW Unit) = tabData .u64 pow10Tab := by kernel_rfl

/-- what the condition gives the walk: the table of powers -/
theorem tab_of_laid {W : World} (h : laidMetH Tryd.prog laid3 W) : Tab W := by
  rw [MakeChecks.laidMetH_plain _ _ _ (by kernel_rfl)] at h
  have h2 : laidMet Tryd.prog [("internal/strconv.uint64pow10", tabData .u64 pow10Tab)] W := by
    rw [← datum]; exact (laidMet.tail (laidMet.tail h))
  exact tabBelow_of_tabIs (tabIs_of_head gPow tPow u62 Tryd.underlying48 c48 c62 h2)

/-- a slice of bytes that came in, as the walk is told of it -/
theorem arg_of {H : Type} {enc : TypeId × Value → H} {W : World} {a0 : Option Addr} {len cap : Nat} {d : DataW H} {p : List MemPlace}
    (h0 : DataW.Trod enc Tryd.prog W 0 (fun _ => true) true 26 (.slice a0 len cap) d p) : ∃ l : List UInt8, Arg W (.slice a0 len cap) l ∧ l.length ≤ maxLen := by
  obtain ⟨fuel, hf⟩ := h0
  rcases open_ints Tryd.underlying26 Tryd.underlying5 (by kernel_rfl) hf with ⟨hcs, _⟩ | ⟨x, l', c', zs, hcs, _, hl, hm, hz, _, hcell, hwz⟩
  · simp [Value.cells] at hcs
    obtain ⟨rfl, rfl, rfl⟩ := hcs
    exact ⟨[], .inl ⟨rfl, rfl⟩, by simp⟩
  · simp [Value.cells] at hcs
    obtain ⟨rfl, rfl, rfl⟩ := hcs
    have hz' : zs.length = cap := by simpa using hz
    have e : ((zs.take len).map fun n => UInt8.ofNat n.toNat).length = len := by simp; omega
    refine ⟨(zs.take len).map fun n => UInt8.ofNat n.toNat, .inr ⟨x, cap, by rw [e], ?_⟩, by rw [e]; omega⟩
    by_cases h0 : len = 0
    · left; subst h0; simp
    · right
      obtain ⟨b, off, spot⟩ := x
      have hc := hcell 0 (by omega)
      have hspot : spot = none := by simpa [Addr.add] using World.cell?_spot hc
      subst hspot
      have hlt : b < W.heap.size := by
        rcases Nat.lt_or_ge b W.heap.size with h | h
        · exact h
        · have hn : W.heap[b]? = none := Array.getElem?_eq_none h
          simp [Addr.add, World.cell?, hn] at hc
      refine ⟨b, off, cap, by rw [e], hlt, by rw [e]; exact hl, hm, fun j u hj => ?_⟩
      have hj' : j < len := by
        rcases Nat.lt_or_ge j len with h | h
        · exact h
        · unfold byteCells at hj
          rw [List.getElem?_eq_none (by rw [List.length_map, e]; exact h)] at hj
          cases hj
      have hadd : (⟨b, off, none⟩ : Addr).add j = ⟨b, off + j, none⟩ := by unfold Addr.add; split <;> simp_all
      have hcj := hcell j (by omega)
      rw [hadd] at hcj
      rw [hcj]
      have hb := bounds_u8 (hwz (zs[j]'(by omega)) (List.getElem_mem _))
      have hu : u = .int .u8 (((UInt8.ofNat (zs[j]'(by omega)).toNat).toNat : Nat) : Int) := by
        unfold byteCells at hj
        simp [hj', List.getElem?_eq_getElem (show j < zs.length by omega)] at hj
        rw [← hj]; simp
      rw [hu, UInt8.toNat_ofNat']
      have hg : zs.getD j 0 = zs[j]'(by omega) := by simp [List.getD, List.getElem?_eq_getElem (show j < zs.length by omega)]
      rw [hg]
      congr 2
      omega

set_option maxRecDepth 100000 in
theorem lifted (os : Os) (started : os.Started) (H : Type) (enc : TypeId × Value → H) :
    ReturnsInHanded {} Tryd.checked os 5 .any (fun w args => (Rows.fnAppendMsgHeaderAsPayloadSpec.pre enc Tryd.prog Tryd.f5 [] false w args ∧ laidMetH Tryd.prog laid3 w) ∧ sizedMet enc Tryd.prog Tryd.f5 (OpenSpec.ofChange Rows.fnAppendMsgHeaderAsPayloadSpec) false w args)
      (Rows.fnAppendMsgHeaderAsPayloadSpec.post enc Tryd.prog Tryd.f5 false true false false) := by
  refine returnsInHanded_of_change_and (C := Tryd.checked) (X := fun w _ => laidMetH Tryd.prog laid3 w) (fun _ _ _ hh h => h.of_heap hh) own started (by kernel_rfl) Tryd.func5
    (ChangeSpec.witness_shaped (enc := enc) (C := Tryd.checked) (os := os) (X := fun w _ => laidMetH Tryd.prog laid3 w) false (World.doorLaid Tryd.prog 400 os) #[.string ByteArray.empty, .string ByteArray.empty, .string ByteArray.empty, .slice none 0 0, .slice none 0 0] 8 rfl (World.shaped_of_RefB (by kernel_rfl) (by kernel_rfl)) (by kernel_rfl) (by kernel_rfl) (by kernel_rfl) (door_met os _)) ?_
  intro W base args ds gs before hval0 hW _ _ hL _
  have hval : ∀ (j : Nat) t v, Tryd.f5.params[j]? = some t → args[j]? = some v → Value.okWide Tryd.prog W .any base t v := hval0
  have hW' := hW
  obtain ⟨p, q, hA0, hV, rfl, _, _⟩ := hW
  have hA : DataW.TrodAll enc Tryd.prog W 0 (fun _ => true) true Tryd.f5.params.toList args.toList ds p := hA0
  rw [Tryd.params5] at hA hval
  obtain ⟨v0, vs0, d0, ds0, p0, q0, hargs, rfl, rfl, h0, r0⟩ := trodAll_cons hA
  obtain ⟨v1, vs1, d1, ds1, p1, q1, rfl, rfl, rfl, h1, r1⟩ := trodAll_cons r0
  obtain ⟨v2, vs2, d2, ds2, p2, q2, rfl, rfl, rfl, h2, r2⟩ := trodAll_cons r1
  obtain ⟨v3, vs3, d3, ds3, p3, q3, rfl, rfl, rfl, h3, r3⟩ := trodAll_cons r2
  obtain ⟨v4, vs4, d4, ds4, p4, q4, rfl, rfl, rfl, h4, r4⟩ := trodAll_cons r3
  obtain ⟨rfl, rfl, rfl⟩ := trodAll_nil r4
  obtain rfl : args = #[v0, v1, v2, v3, v4] := by cases args; simp_all
  obtain ⟨rfl, rfl⟩ := trodVars_none hV
  obtain ⟨a0, rfl, rfl, rfl, w0⟩ := open_string Tryd.underlying9 (hval 0 9 v0 rfl rfl) h0
  obtain ⟨a1, rfl, rfl, rfl, w1⟩ := open_string Tryd.underlying9 (hval 1 9 v1 rfl rfl) h1
  obtain ⟨a2, rfl, rfl, rfl, w2⟩ := open_string Tryd.underlying9 (hval 2 9 v2 rfl rfl) h2
  obtain ⟨a3, len3, cap3, rfl⟩ := okWide_slice Tryd.underlying26 (hval 3 26 v3 rfl rfl)
  obtain ⟨a4, len4, cap4, rfl⟩ := okWide_slice Tryd.underlying26 (hval 4 26 v4 rfl rfl)
  have lt3 : ∀ x ∈ p3, x.block < W.heap.size := by obtain ⟨m, hm⟩ := h3; exact DataW.trod_lt m _ _ _ hm
  have lt4 : ∀ x ∈ p4, x.block < W.heap.size := by obtain ⟨m, hm⟩ := h4; exact DataW.trod_lt m _ _ _ hm
  obtain ⟨lh, hh, hlh⟩ := arg_of h3
  obtain ⟨lp, hp, hlp⟩ := arg_of h4
  have ht := tab_of_laid hL
  clear hA0 hval0
  refine (law_any a0 a1 a2 _ _ lh lp W w0 w1 w2 hlh hlp hh hp ht).mono fun e W' ⟨he, bel⟩ => ?_
  subst he
  exact ⟨_, rfl, _, _, _, [], _, [], hW', trodAll_mk1 (shut_bool Tryd.underlying4 _), (trodAll_cons_mk (shut_string Tryd.underlying9 w0) (trodAll_cons_mk (shut_string Tryd.underlying9 w1) (trodAll_cons_mk (shut_string Tryd.underlying9 w2) (trodAll_cons_mk (Below.trod laidOut (by kernel_rfl) (of_decide_eq_true (by kernel_rfl)) h3 bel lt3) (trodAll_cons_mk (Below.trod laidOut (by kernel_rfl) (of_decide_eq_true (by kernel_rfl)) h4 bel lt4) trodAll_mk0))))), rfl, bel.frame _, fun h => by cases h⟩

theorem over : Rows.FnAppendMsgHeaderAsPayloadSaid :=
  OpenClaim.holds_of_wide 5 Tryd.f5 rfl rfl rfl rfl rfl rfl rfl ⟨rfl, rfl, rfl, rfl, rfl⟩ rfl rfl rfl rfl rfl (by kernel_rfl) Tryd.func5 (by kernel_rfl)
    (of_decide_eq_true (by kernel_rfl)) (by unfold Func.isWrapper; first | (rw [if_pos (by decide +kernel)]; kernel_rfl) | (rw [if_neg (by decide +kernel)]; exact ⟨rfl, rfl⟩))
    (fun os started H enc _ => lifted os started H enc)

/-- THE CARD -/
theorem proved : Rows.FnAppendMsgHeaderAsPayloadCardSaid :=
  Claim7.holds_tied_plain_at .later [] [.data, .data, .data] true (true, "c713be5df6cb2f26bada628bf1b7f078c4596b6353935b9a27ad61276ea37c75") false
    over (fun _ h => by cases h) (by kernel_rfl) (fun _ h => by cases h) fnAppendMsgHeaderAsPayload_row_tie rfl ⟨rfl, rfl⟩ (by kernel_rfl) rfl
    (fun f fn hf hfn => by
      obtain rfl : f = 5 := Option.some.inj ((show Tryd.prog.funcNamed Rows.fnAppendMsgHeaderAsPayloadRow.func = some 5 by kernel_rfl).symm.trans hf) |>.symm
      obtain rfl : fn = Tryd.f5 := (Option.some.inj (Tryd.func5.symm.trans hfn)).symm
      exact ⟨by kernel_rfl, fun j t ht => by
        rw [Tryd.params5] at ht
        have h9 : t = 9 ∨ t = 26 := by
          rcases j with _ | _ | _ | _ | _ | j
          · left; simpa using ht.symm
          · left; simpa using ht.symm
          · left; simpa using ht.symm
          · right; simpa using ht.symm
          · right; simpa using ht.symm
          · simp at ht
        rcases h9 with rfl | rfl
        · exact (show Tryd.prog.wantsStandIn 9 = false by kernel_rfl)
        · exact (show Tryd.prog.wantsStandIn 26 = false by kernel_rfl)⟩)
    (by kernel_rfl)
#print axioms proved
end Go.Proofs.Qxb6617796aDoor.fnAppendMsgHeaderAsPayload
