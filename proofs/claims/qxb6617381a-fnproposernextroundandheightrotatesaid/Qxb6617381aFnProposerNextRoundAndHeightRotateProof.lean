/-
  THE STATEMENT 'Rows.FnProposerNextRoundAndHeightRotateSaid': the guide's shell, the walk filled in.
-/
import Derived.Test.Qxb6617381aProp
import Derived.WalkKit
import Derived.ProofKit
import Derived.OpenShut
import Derived.ShutString
namespace Go.Proofs.Qxb6617381a.fnProposerNextRoundAndHeightRotate
open Go.ChangeShapes Go.WideShapes Go.ChangeAt Go.RowKit
open Go.ChangeMaps (open_string shut_string)
set_option linter.unusedVariables false      -- a walk need not use every 'w<i>' (that an integer argument fits its kind)

theorem own : ownKnob Try.prog.godebug = none := by kernel_rfl

/-! ### STEP 1: THE WALK: the Go text returns true. 'Grown w w'': the world has at most new blocks (Derived/RowKit3.lean). Part the cases AHEAD of 'go_enter' where a test parts the walk; take each callee by a contract of your own. -/
set_option maxHeartbeats 1000000 in
theorem walk (a0 : Int) (a1 : Int) (a2 : Int) (w0 : (Lit.int .u64 a0).wf = true) (w1 : (Lit.int .u64 a1).wf = true) (w2 : (Lit.int .i64 a2).wf = true) (w : World) :
    Calls Try.prog 3 #[.int .u64 a0, .int .u64 a1, .int .i64 a2] w fun e w' => e = .returned (.bool true) ∧ Grown w w' := by
  obtain ⟨l0, u0⟩ := bounds_u64 w0
  obtain ⟨l1, u1⟩ := bounds_u64 w1
  obtain ⟨l2, u2⟩ := bounds_i64 w2
  clear w0 w1 w2
  by_cases c0 : a0 = 0
  · subst c0
    go_enter Try.func3, Try.ntmps3
    go_wp2
    go_ret
    exact ⟨rfl, Grown.refl _⟩
  have e0 : (a0 == 0) = false := by simpa using c0
  by_cases c1 : a1 = 0
  · subst c1
    go_enter Try.func3, Try.ntmps3
    go_wp2
    go_ret
    exact ⟨rfl, Grown.refl _⟩
  have e1 : (a1 == 0) = false := by simpa using c1
  by_cases c2 : a2 < 1
  · go_enter Try.func3, Try.ntmps3
    go_wp2
    go_ret
    exact ⟨rfl, Grown.refl _⟩
  by_cases c3 : a0 = 18446744073709551615
  · have e3 : (a0 == 18446744073709551615) = true := by simpa using c3
    clear c3
    go_enter Try.func3, Try.ntmps3
    go_wp2
    go_ret
    exact ⟨rfl, Grown.refl _⟩
  have e3 : (a0 == 18446744073709551615) = false := by simpa using c3
  by_cases c4 : a1 = 18446744073709551615
  · have e4 : (a1 == 18446744073709551615) = true := by simpa using c4
    clear c4
    go_enter Try.func3, Try.ntmps3
    go_wp2
    go_ret
    exact ⟨rfl, Grown.refl _⟩
  have e4 : (a1 == 18446744073709551615) = false := by simpa using c4
  have g0 : 1 ≤ a0 := by omega
  have g1 : 1 ≤ a1 := by omega
  have g2 : 1 ≤ a2 := by omega
  have g3 : a0 ≤ 18446744073709551614 := by omega
  have g4 : a1 ≤ 18446744073709551614 := by omega
  clear c0 c1 c2 c3 c4 l0 u0 l1 u1 l2
  have p1 := prp_lo a0 a1 a2 g2
  have p2 := prp_hi a0 a1 a2 g2
  have q1 := prp_round a0 a1 a2 g2
  have q2 := prp_height a0 a1 a2 g2
  by_cases c5 : prp a0 a1 a2 + 1 = a2
  · rw [if_pos c5] at q1 q2
    have e5 : (prp a0 a1 a2 + 1 == a2) = true := by simpa using c5
    have Q1 : Hid (prp a0 (a1 + 1) a2 = 0) := q1
    have Q2 : Hid (prp (a0 + 1) a1 a2 = 0) := q2
    clear q1 q2 c5
    go_enter Try.func3, Try.ntmps3
    go_wp2_with fail
    refine (proposer_any a0 a1 a2 g0 (by omega) g1 (by omega) g2 u2 _).mono ?_
    rintro e w' ⟨rfl, n1, rfl⟩
    go_wp2_with fail
    refine (proposer_any a0 (a1 + 1) a2 g0 (by omega) (by omega) (by omega) g2 u2 _).mono ?_
    rintro e w' ⟨rfl, n2, rfl⟩
    rw [Q1.out]
    go_wp2_with fail
    refine (proposer_any (a0 + 1) a1 a2 (by omega) (by omega) g1 (by omega) g2 u2 _).mono ?_
    rintro e w' ⟨rfl, n3, rfl⟩
    rw [Q2.out]
    go_wp2
    go_ret
    exact ⟨rfl, Grown.refl _⟩
  · rw [if_neg c5] at q1 q2
    have e5 : (prp a0 a1 a2 + 1 == a2) = false := by simpa using c5
    have Q1 : Hid (prp a0 (a1 + 1) a2 = prp a0 a1 a2 + 1) := q1
    have Q2 : Hid (prp (a0 + 1) a1 a2 = prp a0 a1 a2 + 1) := q2
    clear q1 q2 c5
    go_enter Try.func3, Try.ntmps3
    go_wp2_with fail
    refine (proposer_any a0 a1 a2 g0 (by omega) g1 (by omega) g2 u2 _).mono ?_
    rintro e w' ⟨rfl, n1, rfl⟩
    go_wp2_with fail
    refine (proposer_any a0 (a1 + 1) a2 g0 (by omega) (by omega) (by omega) g2 u2 _).mono ?_
    rintro e w' ⟨rfl, n2, rfl⟩
    rw [Q1.out]
    go_wp2_with fail
    refine (proposer_any (a0 + 1) a1 a2 (by omega) (by omega) g1 (by omega) g2 u2 _).mono ?_
    rintro e w' ⟨rfl, n3, rfl⟩
    rw [Q2.out]
    go_wp2
    go_ret
    exact ⟨rfl, Grown.refl _⟩

/-! ### THE ROW's STEP: WRITTEN OUT: LEAVE IT -/
set_option maxRecDepth 100000 in
theorem lifted (os : Os) (started : os.Started) (H : Type) (enc : TypeId × Value → H) :
    ReturnsInHanded {} Try.checked os 3 .any (Rows.fnProposerNextRoundAndHeightRotateSpec.pre6 enc Try.prog Try.f3 Rows.fnProposerNextRoundAndHeightRotateRow.domain false) (Rows.fnProposerNextRoundAndHeightRotateSpec.post enc Try.prog Try.f3 false true false false) := by
  refine returnsInHanded_of_change (C := Try.checked) own started (by kernel_rfl) Try.func3
    (ChangeSpec.witness6 (enc := enc) (C := Try.checked) false ⟨#[], #[.int .u64 0, .int .u64 0, .int .i64 0], []⟩ 8 (by kernel_rfl) (by kernel_rfl) (by kernel_rfl) (by kernel_rfl)) ?_
  intro W base args ds gs before hval0 hW hcnd _
  have hval : ∀ (j : Nat) t v, Try.f3.params[j]? = some t → args[j]? = some v → Value.okWide Try.prog W .any base t v := hval0
  have hW' := hW
  obtain ⟨p, q, hA0, hV, rfl, hfz, hnd⟩ := hW
  have hA : DataW.TrodAll enc Try.prog W 0 (fun _ => true) true Try.f3.params.toList args.toList ds p := hA0
  rw [Try.params3] at hA hval
  obtain ⟨v0, vs0, d0, ds0, p0, q0, hargs, rfl, rfl, h0, r0⟩ := trodAll_cons hA
  obtain ⟨v1, vs1, d1, ds1, p1, q1, rfl, rfl, rfl, h1, r1⟩ := trodAll_cons r0
  obtain ⟨v2, vs2, d2, ds2, p2, q2, rfl, rfl, rfl, h2, r2⟩ := trodAll_cons r1
  obtain ⟨rfl, rfl, rfl⟩ := trodAll_nil r2
  obtain rfl : args = #[v0, v1, v2] := by cases args; simp_all
  obtain ⟨rfl, rfl⟩ := trodVars_none hV
  obtain ⟨a0, rfl, rfl, rfl, w0⟩ := open_int Try.underlying22 (hval 0 22 v0 rfl rfl) h0
  obtain ⟨a1, rfl, rfl, rfl, w1⟩ := open_int Try.underlying22 (hval 1 22 v1 rfl rfl) h1
  obtain ⟨a2, rfl, rfl, rfl, w2⟩ := open_int Try.underlying3 (hval 2 3 v2 rfl rfl) h2
  clear hA0 hval0
  simp only [List.append_nil] at hW'
  refine (walk a0 a1 a2 w0 w1 w2 W).mono fun e W' ⟨he, hg⟩ => ?_
  subst he
  exact ⟨_, rfl, post_of_same (pa := []) (pv := []) hW' (fun _ _ _ => (trodAll_cons_mk (shut_bool Try.underlying4 _) trodAll_mk0)) (fun sp _ => (trodAll_cons_mk (shut_int Try.underlying22 w0) (trodAll_cons_mk (shut_int Try.underlying22 w1) (trodAll_cons_mk (shut_int Try.underlying3 w2) trodAll_mk0)))) (fun _ _ => rfl) rfl
    (hg.frame _) hg.2.1 (ok_one (by kernel_rfl) rfl (okWide_bool_mk Try.underlying4 _))⟩

theorem over : Rows.fnProposerNextRoundAndHeightRotateRow.holds Try.pinned (OpenSpec.ofChange Rows.fnProposerNextRoundAndHeightRotateSpec) :=
  OpenClaim.holds_of_wide 3 Try.f3 rfl rfl rfl rfl rfl rfl rfl ⟨rfl, rfl, rfl, rfl, rfl⟩ rfl rfl rfl rfl rfl (by kernel_rfl) Try.func3 (by kernel_rfl)
    (of_decide_eq_true (by kernel_rfl)) (by unfold Func.isWrapper; first | (rw [if_pos (by decide +kernel)]; kernel_rfl) | (rw [if_neg (by decide +kernel)]; exact ⟨rfl, rfl⟩))
    (fun os started H enc _ => lifted os started H enc)

/-- ████ THE STATEMENT ████ -/
theorem proved : Rows.FnProposerNextRoundAndHeightRotateSaid :=
  over
#print axioms proved
end Go.Proofs.Qxb6617381a.fnProposerNextRoundAndHeightRotate
