/-
  THE STATEMENT 'Rows.FnParseSizeModelSaid': the guide's shell, the walk filled in.
-/
import Derived.Test.Qxb6617796aDcc
import Derived.WalkKit
import Derived.ProofKit
import Derived.OpenShut
import Derived.ShutString
namespace Go.Proofs.Qxb6617796a.fnParseSizeModel
open Go.ChangeShapes Go.WideShapes Go.ChangeAt Go.RowKit
open Go.ChangeMaps (open_string shut_string)
set_option linter.unusedVariables false      -- a walk need not use every 'w<i>' (that an integer argument fits its kind)

theorem own : ownKnob Try.prog.godebug = none := by kernel_rfl

set_option maxHeartbeats 1000000 in
theorem walk (a0 : ByteArray) (w0 : a0.size ≤ maxLen) (w : World) :
    Calls Try.prog 3 #[.string a0] w fun e w' => e = .returned (.bool true) ∧ Grown w w' := by
  by_cases h1 : a0.size ≤ 1048576
  · by_cases h2 : a0.size ≤ 65536
    · have hb : decide (a0.size ≤ 1048576) = true := decide_eq_true h1
      obtain ⟨b, hbd⟩ : ∃ b, good a0.data.toList = b := ⟨_, rfl⟩
      cases b with
      | false =>
        have HP := ZZparseSize_any a0 w h2
        have HA := allDigits_any a0 w h2
        have HB := bytes5_any a0 w w0
        rw [psV_bad hbd, hbd] at HP
        rw [hbd] at HA
        rw [hb] at HB
        clear hb hbd
        go_enter Try.func3, Try.ntmps3
        go_wp2_with fail
        refine HB.mono ?_
        rintro e w' ⟨rfl, rfl⟩
        go_wp2_with fail
        refine HP.mono ?_
        rintro e w' ⟨rfl, rfl⟩
        go_wp2_with fail
        refine HA.mono ?_
        rintro e w' ⟨rfl, rfl⟩
        go_wp2
        go_ret
        exact ⟨rfl, Grown.refl _⟩
      | true =>
        have HP := ZZparseSize_any a0 w h2
        have HA := allDigits_any a0 w h2
        have HB := bytes5_any a0 w w0
        have HD := decCapped_any a0 w h2 (good_all hbd)
        rw [psV_good hbd, hbd] at HP
        rw [hbd] at HA
        rw [hb] at HB
        have hv := cp_le (val a0.data.toList)
        generalize cp (val a0.data.toList) = v at HP HD hv
        clear hb hbd
        go_enter Try.func3, Try.ntmps3
        go_wp2_with fail
        refine HB.mono ?_
        rintro e w' ⟨rfl, rfl⟩
        go_wp2_with fail
        refine HP.mono ?_
        rintro e w' ⟨rfl, rfl⟩
        go_wp2_with fail
        refine HA.mono ?_
        rintro e w' ⟨rfl, rfl⟩
        go_wp2_with fail
        refine HD.mono ?_
        rintro e w' ⟨rfl, rfl⟩
        go_wp2
        go_ret
        exact ⟨rfl, Grown.refl _⟩
    · have HB := bytes5_any a0 w w0
      rw [decide_eq_true h1] at HB
      go_enter Try.func3, Try.ntmps3
      go_wp2_with fail
      refine HB.mono ?_
      rintro e w' ⟨rfl, rfl⟩
      go_wp2
      go_ret
      exact ⟨rfl, Grown.refl _⟩
  · have HB := bytes5_any a0 w w0
    rw [decide_eq_false h1] at HB
    go_enter Try.func3, Try.ntmps3
    go_wp2_with fail
    refine HB.mono ?_
    rintro e w' ⟨rfl, rfl⟩
    go_wp2
    go_ret
    exact ⟨rfl, Grown.refl _⟩

/-! ### THE ROW's STEP: WRITTEN OUT: LEAVE IT -/
set_option maxRecDepth 100000 in
theorem lifted (os : Os) (started : os.Started) (H : Type) (enc : TypeId × Value → H) :
    ReturnsInHanded {} Try.checked os 3 .any (Rows.fnParseSizeModelSpec.pre6 enc Try.prog Try.f3 Rows.fnParseSizeModelRow.domain false) (Rows.fnParseSizeModelSpec.post enc Try.prog Try.f3 false true false false) := by
  refine returnsInHanded_of_change (C := Try.checked) own started (by kernel_rfl) Try.func3
    (ChangeSpec.witness6 (enc := enc) (C := Try.checked) false ⟨#[], #[.string ByteArray.empty], []⟩ 8 (by kernel_rfl) (by kernel_rfl) (by kernel_rfl) (by kernel_rfl)) ?_
  intro W base args ds gs before hval0 hW hcnd _
  have hval : ∀ (j : Nat) t v, Try.f3.params[j]? = some t → args[j]? = some v → Value.okWide Try.prog W .any base t v := hval0
  have hW' := hW
  obtain ⟨p, q, hA0, hV, rfl, hfz, hnd⟩ := hW
  have hA : DataW.TrodAll enc Try.prog W 0 (fun _ => true) true Try.f3.params.toList args.toList ds p := hA0
  rw [Try.params3] at hA hval
  obtain ⟨v0, vs0, d0, ds0, p0, q0, hargs, rfl, rfl, h0, r0⟩ := trodAll_cons hA
  obtain ⟨rfl, rfl, rfl⟩ := trodAll_nil r0
  obtain rfl : args = #[v0] := by cases args; simp_all
  obtain ⟨rfl, rfl⟩ := trodVars_none hV
  obtain ⟨a0, rfl, rfl, rfl, w0⟩ := open_string Try.underlying9 (hval 0 9 v0 rfl rfl) h0
  clear hA0 hval0
  simp only [List.append_nil] at hW'
  refine (walk a0 w0 W).mono fun e W' ⟨he, hg⟩ => ?_
  subst he
  exact ⟨_, rfl, post_of_same (pa := []) (pv := []) hW' (fun _ _ _ => (trodAll_cons_mk (shut_bool Try.underlying4 _) trodAll_mk0)) (fun sp _ => (trodAll_cons_mk (shut_string Try.underlying9 w0) trodAll_mk0)) (fun _ _ => rfl) rfl
    (hg.frame _) hg.2.1 (ok_one (by kernel_rfl) rfl (okWide_bool_mk Try.underlying4 _))⟩

theorem over : Rows.fnParseSizeModelRow.holds Try.pinned (OpenSpec.ofChange Rows.fnParseSizeModelSpec) :=
  OpenClaim.holds_of_wide 3 Try.f3 rfl rfl rfl rfl rfl rfl rfl ⟨rfl, rfl, rfl, rfl, rfl⟩ rfl rfl rfl rfl rfl (by kernel_rfl) Try.func3 (by kernel_rfl)
    (of_decide_eq_true (by kernel_rfl)) (by unfold Func.isWrapper; first | (rw [if_pos (by decide +kernel)]; kernel_rfl) | (rw [if_neg (by decide +kernel)]; exact ⟨rfl, rfl⟩))
    (fun os started H enc _ => lifted os started H enc)

/-- ████ THE STATEMENT ████ -/
theorem proved : Rows.FnParseSizeModelSaid :=
  over
#print axioms proved
end Go.Proofs.Qxb6617796a.fnParseSizeModel
