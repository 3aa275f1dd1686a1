/-
  FnAppendMsgHeaderAsPayload (5): the walk where the header is nil; the ways that return at once; the whole.
-/
import Derived.Test.Qxb6617796aDoorLaw
namespace Go.Proofs.Qxb6617796aDoor
open Go.RowKit
open Go.Lib hiding intOf
set_option linter.unusedSimpArgs false

set_option maxRecDepth 100000 in
set_option maxHeartbeats 4000000 in
theorem law_nil (sub sid rep : ByteArray) (pv : Value) (lp : List UInt8) (w : World) (h1 : sub.size ≤ 65536) (h2 : sid.size ≤ 65536) (h3 : rep.size ≤ 65536) (h5 : lp.length ≤ 65536)
    (hp : Arg w pv lp) (ht : Tab w) (t1 : tok sub.data.toList = true) (t2 : tok sid.data.toList = true) (t3 : rep.toList.isEmpty = true ∨ tok rep.data.toList = true) :
    Calls Tryd.prog 5 #[.string sub, .string sid, .string rep, .slice none 0 0, pv] w fun e w' => e = .returned (.bool true) ∧ Below w.heap.size w w' := by
  have qN : ∀ (w : World) (a : Option Addr) (n c n' c' : Nat), (binOp .neq 26 (.slice a n c) (.slice none n' c')).run Tryd.prog w = .ok (.bool (!a.isNone)) w := fun w a n c n' c' => run_neq_slice_nil_any w _ _ a n c n' c' Tryd.underlying26
  have qE : ∀ (w : World) (a : Option Addr) (n c n' c' : Nat), (binOp .eql 26 (.slice a n c) (.slice none n' c')).run Tryd.prog w = .ok (.bool a.isNone) w := fun w a n c n' c' => Lib.run_eql_slice_nil w _ _ a n c n' c' Tryd.underlying26
  obtain ⟨ao, cp, rfl⟩ := hp.len
  have HB := bytes_any sub sid rep none ao 0 0 lp.length cp w (by unfold maxLen; omega) (by unfold maxLen; omega) (by unfold maxLen; omega) (by unfold maxLen; omega) (by unfold maxLen; omega)
  have HT1 := token_any sub w h1
  have HT2 := token_any sid w h2
  have HT3 := token_any rep w h3
  rw [t1] at HT1
  rw [t2] at HT2
  go_enter Tryd.func5, Tryd.ntmps5
  go_wp2_with fail
  refine HB.mono ?_
  rintro e w' ⟨⟨bb, rfl⟩, hw⟩
  replace hw := hw.symm
  subst hw
  cases bb
  · go_wp2
    go_ret
    exact ⟨rfl, Below.refl _ _⟩
  clear HB
  go_wp2_with fail
  refine HT1.mono ?_
  rintro e w' ⟨rfl, hw⟩
  replace hw := hw.symm
  subst hw
  go_wp2_with fail
  refine HT2.mono ?_
  rintro e w' ⟨rfl, hw⟩
  replace hw := hw.symm
  subst hw
  clear HT1 HT2
  go_upto_region 15 with (fail)
  go_cut [57] (fun s57 wc => s57 = .bool false ∧ wc = w)
  case first =>
    cases hr : rep.toList.isEmpty
    · have t3' : tok rep.data.toList = true := by rcases t3 with h | h; (rw [hr] at h; cases h); exact h
      rw [t3'] at HT3
      clear t3 t3'
      go_wp2_with fail
      refine HT3.mono ?_
      rintro e w' ⟨rfl, hw⟩
      replace hw := hw.symm
      subst hw
      go_wp2
      go_meet
      case rel => exact ⟨rfl, rfl⟩
    · clear t3 HT3
      go_wp2
      go_meet
      case rel => exact ⟨rfl, rfl⟩
  case rest =>
    obtain ⟨rfl, hw⟩ := hcut
    replace hw := hw.symm
    subst hw
    clear HT3
    go_upto_if 68 with (fail)
    go_cut [4] (fun s4 wd => Src wd s4 lp ∧ Below w.heap.size w wd)
    case first =>
      cases ao with
      | none =>
        go_wp2
        go_meet
        case rel => exact ⟨hp.nil_src, Below.refl _ _⟩
      | some ad =>
        go_wp2_with (first
          | (at_make; refine row_make rfl _ _ rfl _ _ _ _ lp.length rfl rfl rfl rfl (by omega) ?_; intro w3 hm3 hb3)
          | ((with_reducible show wpList _ _ _ (Oper.mk _ (Op.call _) _ _ _ _ :: _) _ _); refine row_copy rfl _ _ rfl lp _ rfl rfl hp hm3 hb3 (by unfold maxLen; omega) ?_; intro w4 hr4 hb4))
        go_meet
        case rel => exact ⟨.inr hr4, hb4⟩
    case rest =>
      obtain ⟨hps, hbd⟩ := hcut
      have hrs : Src wc (.slice none 0 0) [] := .inl ⟨rfl, rfl⟩
      have htd : Tab wc := ht.keep hbd
      obtain ⟨ao', cp', rfl⟩ := hps.plen
      clear hp ht
      go_wp2_with (first
        | (at_make; refine buf_make rfl _ _ rfl _ _ _ lp.length rfl rfl (by simp) (by omega) ?_; intro jv w3 hj)
        | (at_builtin; refine buf_src rfl _ _ rfl rfl (by assumption) rfl hrs (by simp; done) ?_; intro jv w3 hj)
        | (at_builtin; refine buf_src rfl _ _ rfl rfl (by assumption) rfl hps (by simp; omega) ?_; intro jv w3 hj))
      have hb3 : Below wc.heap.size wc w3 := hj.2
      have ht3 : Tab w3 := htd.keep hb3
      refine (msg_n sub sid rep w3 _ lp h1 h2 h3 (by omega) (hps.keep hb3) ht3).mono ?_
      rintro e w4 ⟨v1, rfl, hv1⟩
      have hb4 : Below w3.heap.size w3 w4 := hv1.2
      have hj4 : Src w4 jv lp := (hj.cast (by simp)).src.keep hb4
      have ht4 : Tab w4 := ht3.keep hb4
      go_wp2_with fail
      refine (msg_n sub sid rep w4 jv lp h1 h2 h3 (by omega) hj4 ht4).mono ?_
      rintro e w5 ⟨v2, rfl, hv2⟩
      have hb5 : Below w4.heap.size w4 w5 := hv2.2
      have R1 := (hv1.row (msg_ne _ _ _ _ _)).keep hb5
      have R2 := hv2.row (msg_ne _ _ _ _ _)
      have hbw5 : Below w.heap.size w w5 := hbd.trans ((hb3.mono hbd.size).trans ((hb4.mono (Nat.le_trans hbd.size hb3.size)).trans (hb5.mono (Nat.le_trans (Nat.le_trans hbd.size hb3.size) hb4.size))))
      have hl2 := msg_len sub.data.toList sid.data.toList rep.data.toList lp h1 h2 h3 (by omega)
      have hne1 := msg_ne sub.data.toList sid.data.toList rep.data.toList lp none
      clear hv1 hv2 hj hj4 ht4 ht3 htd hps hrs t1 t2 t3 hb3 hb4 hb5 hbd
      generalize msgL sub.data.toList sid.data.toList rep.data.toList none lp = M at R1 R2 hl2 hne1
      have hpos : 0 < M.length := List.length_pos_iff.2 hne1
      have hposI : (0 : Int) < (M.length : Int) := by omega
      have R1' := R1
      obtain ⟨g1, off1, cap1, rfl, _⟩ := R1'
      go_wp2_with fail
      refine (same_any _ v2 M w5 (by omega) R1 R2).mono ?_
      rintro e w9 ⟨rfl, qq, rfl⟩
      go_wp2
      go_ret
      exact ⟨rfl, below_drewN hbw5 _⟩

set_option maxRecDepth 100000 in
set_option maxHeartbeats 2000000 in
theorem law_exit (sub sid rep : ByteArray) (ah ap : Option Addr) (nh ch np cp : Nat) (w : World) (h1 : sub.size ≤ maxLen) (h2 : sid.size ≤ maxLen) (h3 : rep.size ≤ maxLen) (h4 : nh ≤ maxLen) (h5 : np ≤ maxLen)
    (hx : ¬ (sub.size ≤ 65536 ∧ sid.size ≤ 65536 ∧ rep.size ≤ 65536 ∧ nh ≤ 65536 ∧ np ≤ 65536 ∧ tok sub.data.toList = true ∧ tok sid.data.toList = true ∧ (rep.toList.isEmpty = true ∨ tok rep.data.toList = true))) :
    Calls Tryd.prog 5 #[.string sub, .string sid, .string rep, .slice ah nh ch, .slice ap np cp] w fun e w' => e = .returned (.bool true) ∧ Below w.heap.size w w' := by
  have HB := bytes_any sub sid rep ah ap nh ch np cp w h1 h2 h3 h4 h5
  unfold maxLen at h1 h2 h3 h4 h5
  by_cases s1 : sub.size ≤ 65536
  rotate_left
  · go_enter Tryd.func5, Tryd.ntmps5
    go_wp2_with fail
    refine HB.mono ?_
    rintro e w' ⟨⟨bb, rfl⟩, rfl⟩
    cases bb
    all_goals (go_wp2; go_ret; exact ⟨rfl, Below.refl _ _⟩)
  by_cases s2 : sid.size ≤ 65536
  rotate_left
  · go_enter Tryd.func5, Tryd.ntmps5
    go_wp2_with fail
    refine HB.mono ?_
    rintro e w' ⟨⟨bb, rfl⟩, rfl⟩
    cases bb
    all_goals (go_wp2; go_ret; exact ⟨rfl, Below.refl _ _⟩)
  by_cases s3 : rep.size ≤ 65536
  rotate_left
  · go_enter Tryd.func5, Tryd.ntmps5
    go_wp2_with fail
    refine HB.mono ?_
    rintro e w' ⟨⟨bb, rfl⟩, rfl⟩
    cases bb
    all_goals (go_wp2; go_ret; exact ⟨rfl, Below.refl _ _⟩)
  by_cases s4 : nh ≤ 65536
  rotate_left
  · go_enter Tryd.func5, Tryd.ntmps5
    go_wp2_with fail
    refine HB.mono ?_
    rintro e w' ⟨⟨bb, rfl⟩, rfl⟩
    cases bb
    all_goals (go_wp2; go_ret; exact ⟨rfl, Below.refl _ _⟩)
  by_cases s5 : np ≤ 65536
  rotate_left
  · go_enter Tryd.func5, Tryd.ntmps5
    go_wp2_with fail
    refine HB.mono ?_
    rintro e w' ⟨⟨bb, rfl⟩, rfl⟩
    cases bb
    all_goals (go_wp2; go_ret; exact ⟨rfl, Below.refl _ _⟩)
  have HT1 := token_any sub w s1
  have HT2 := token_any sid w s2
  have HT3 := token_any rep w s3
  cases k1 : tok sub.data.toList
  · rw [k1] at HT1
    clear hx k1
    go_enter Tryd.func5, Tryd.ntmps5
    go_wp2_with fail
    refine HB.mono ?_
    rintro e w' ⟨⟨bb, rfl⟩, hw⟩
    replace hw := hw.symm
    subst hw
    cases bb
    · go_wp2
      go_ret
      exact ⟨rfl, Below.refl _ _⟩
    · go_wp2_with fail
      refine HT1.mono ?_
      rintro e w' ⟨rfl, rfl⟩
      go_wp2
      go_ret
      exact ⟨rfl, Below.refl _ _⟩
  rw [k1] at HT1
  cases k2 : tok sid.data.toList
  · rw [k2] at HT2
    clear hx k1 k2
    go_enter Tryd.func5, Tryd.ntmps5
    go_wp2_with fail
    refine HB.mono ?_
    rintro e w' ⟨⟨bb, rfl⟩, hw⟩
    replace hw := hw.symm
    subst hw
    cases bb
    · go_wp2
      go_ret
      exact ⟨rfl, Below.refl _ _⟩
    · go_wp2_with fail
      refine HT1.mono ?_
      rintro e w' ⟨rfl, hw⟩
      replace hw := hw.symm
      subst hw
      go_wp2_with fail
      refine HT2.mono ?_
      rintro e w' ⟨rfl, rfl⟩
      go_wp2
      go_ret
      exact ⟨rfl, Below.refl _ _⟩
  rw [k2] at HT2
  cases hr : rep.toList.isEmpty
  rotate_left
  · exact absurd ⟨s1, s2, s3, s4, s5, k1, k2, .inl hr⟩ hx
  cases k3 : tok rep.data.toList
  rotate_left
  · exact absurd ⟨s1, s2, s3, s4, s5, k1, k2, .inr k3⟩ hx
  rw [k3] at HT3
  clear hx k1 k2 k3
  go_enter Tryd.func5, Tryd.ntmps5
  go_wp2_with fail
  refine HB.mono ?_
  rintro e w' ⟨⟨bb, rfl⟩, hw⟩
  replace hw := hw.symm
  subst hw
  cases bb
  · go_wp2
    go_ret
    exact ⟨rfl, Below.refl _ _⟩
  · go_wp2_with fail
    refine HT1.mono ?_
    rintro e w' ⟨rfl, hw⟩
    replace hw := hw.symm
    subst hw
    go_wp2_with fail
    refine HT2.mono ?_
    rintro e w' ⟨rfl, hw⟩
    replace hw := hw.symm
    subst hw
    go_wp2_with fail
    refine HT3.mono ?_
    rintro e w' ⟨rfl, rfl⟩
    go_wp2
    go_ret
    exact ⟨rfl, Below.refl _ _⟩

theorem law_any (sub sid rep : ByteArray) (hv pv : Value) (lh lp : List UInt8) (w : World) (h1 : sub.size ≤ maxLen) (h2 : sid.size ≤ maxLen) (h3 : rep.size ≤ maxLen) (h4 : lh.length ≤ maxLen) (h5 : lp.length ≤ maxLen)
    (hh : Arg w hv lh) (hp : Arg w pv lp) (ht : Tab w) :
    Calls Tryd.prog 5 #[.string sub, .string sid, .string rep, hv, pv] w fun e w' => e = .returned (.bool true) ∧ Below w.heap.size w w' := by
  by_cases hx : sub.size ≤ 65536 ∧ sid.size ≤ 65536 ∧ rep.size ≤ 65536 ∧ lh.length ≤ 65536 ∧ lp.length ≤ 65536 ∧ tok sub.data.toList = true ∧ tok sid.data.toList = true ∧ (rep.toList.isEmpty = true ∨ tok rep.data.toList = true)
  · obtain ⟨s1, s2, s3, s4, s5, k1, k2, k3⟩ := hx
    have hh' := hh
    rcases hh' with ⟨rfl, rfl⟩ | ⟨x, cap, rfl, _⟩
    · exact law_nil sub sid rep pv lp w s1 s2 s3 s5 hp ht k1 k2 k3
    · exact law_hdr sub sid rep x cap pv lh lp w s1 s2 s3 s4 s5 hh hp ht k1 k2 k3
  · obtain ⟨ah, ch, rfl⟩ := hh.len
    obtain ⟨ap, cp, rfl⟩ := hp.len
    exact law_exit sub sid rep ah ap lh.length ch lp.length cp w h1 h2 h3 h4 h5 hx

end Go.Proofs.Qxb6617796aDoor
