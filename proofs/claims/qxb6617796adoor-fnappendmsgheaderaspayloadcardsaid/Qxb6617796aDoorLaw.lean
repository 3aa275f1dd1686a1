/-
  FnAppendMsgHeaderAsPayload (5): the walk.
-/
import Derived.Test.Qxb6617796aDoorItoa
import Derived.Test.Qxb6617796aDoorPlain
import Derived.Test.Qxb6617796aDoorCopy
import Derived.Deep.DeepCutAuto
namespace Go.Proofs.Qxb6617796aDoor
open Go.RowKit
open Go.Lib hiding intOf
set_option linter.unusedSimpArgs false

theorem msg_h (sub sid rep : ByteArray) (w : World) (lh : List UInt8) (hv : Value) (hlh : lh.length ≤ 65536) (hhs : Row w hv lh) (pv : Value) (lp : List UInt8) (h1 : sub.size ≤ 65536) (h2 : sid.size ≤ 65536) (h3 : rep.size ≤ 65536) (hlp : lp.length ≤ 131072)
    (hps : Src w pv lp) (ht : Tab w) :
    Calls Tryd.prog 13 #[.slice none 0 0, .string sub, .string sid, .string rep, hv, pv] w fun e w' => ∃ v', e = .returned v' ∧ Buf w w' v' (msgL sub.data.toList sid.data.toList rep.data.toList (some lh) lp) := by
  have hs : Src w hv lh := .inr hhs
  obtain ⟨b, off, cap, rfl, _⟩ := hhs
  cases hr : rep.toList.isEmpty
  · exact msg_h_r sub sid rep w lh b off cap hlh hs pv lp h1 h2 h3 hlp hps.plen hps ht hr
  · exact msg_h_e sub sid rep w lh b off cap hlh hs pv lp h1 h2 h3 hlp hps.plen hps ht hr
theorem msg_n (sub sid rep : ByteArray) (w : World) (pv : Value) (lp : List UInt8) (h1 : sub.size ≤ 65536) (h2 : sid.size ≤ 65536) (h3 : rep.size ≤ 65536) (hlp : lp.length ≤ 131072)
    (hps : Src w pv lp) (ht : Tab w) :
    Calls Tryd.prog 13 #[.slice none 0 0, .string sub, .string sid, .string rep, .slice none 0 0, pv] w fun e w' => ∃ v', e = .returned v' ∧ Buf w w' v' (msgL sub.data.toList sid.data.toList rep.data.toList none lp) := by
  cases hr : rep.toList.isEmpty
  · exact msg_n_r sub sid rep w pv lp h1 h2 h3 hlp hps.plen hps ht hr
  · exact msg_n_e sub sid rep w pv lp h1 h2 h3 hlp hps.plen hps ht hr

set_option maxRecDepth 100000 in
set_option maxHeartbeats 4000000 in
theorem law_hdr (sub sid rep : ByteArray) (x : Addr) (cap : Nat) (pv : Value) (lh lp : List UInt8) (w : World) (h1 : sub.size ≤ 65536) (h2 : sid.size ≤ 65536) (h3 : rep.size ≤ 65536) (h4 : lh.length ≤ 65536) (h5 : lp.length ≤ 65536)
    (hh : Arg w (.slice (some x) lh.length cap) lh) (hp : Arg w pv lp) (ht : Tab w) (t1 : tok sub.data.toList = true) (t2 : tok sid.data.toList = true) (t3 : rep.toList.isEmpty = true ∨ tok rep.data.toList = true) :
    Calls Tryd.prog 5 #[.string sub, .string sid, .string rep, .slice (some x) lh.length cap, pv] w fun e w' => e = .returned (.bool true) ∧ Below w.heap.size w w' := by
  have qN : ∀ (w : World) (a : Option Addr) (n c n' c' : Nat), (binOp .neq 26 (.slice a n c) (.slice none n' c')).run Tryd.prog w = .ok (.bool (!a.isNone)) w := fun w a n c n' c' => run_neq_slice_nil_any w _ _ a n c n' c' Tryd.underlying26
  have qE : ∀ (w : World) (a : Option Addr) (n c n' c' : Nat), (binOp .eql 26 (.slice a n c) (.slice none n' c')).run Tryd.prog w = .ok (.bool a.isNone) w := fun w a n c n' c' => Lib.run_eql_slice_nil w _ _ a n c n' c' Tryd.underlying26
  obtain ⟨ao, cp, rfl⟩ := hp.len
  have HB := bytes_any sub sid rep (some x) ao lh.length cap lp.length cp w (by unfold maxLen; omega) (by unfold maxLen; omega) (by unfold maxLen; omega) (by unfold maxLen; omega) (by unfold maxLen; omega)
  have HT1 := token_any sub w h1
  have HT2 := token_any sid w h2
  have HT3 := token_any rep w h3
  rw [t1] at HT1
  rw [t2] at HT2
  go_enter Tryd.func5, Tryd.ntmps5
  go_wp2_with fail
  refine HB.mono ?_
  rintro e w' ⟨⟨bb, rfl⟩, hw⟩
  replace hw := hw.symm
  subst hw
  cases bb
  · go_wp2
    go_ret
    exact ⟨rfl, Below.refl _ _⟩
  clear HB
  go_wp2_with fail
  refine HT1.mono ?_
  rintro e w' ⟨rfl, hw⟩
  replace hw := hw.symm
  subst hw
  go_wp2_with fail
  refine HT2.mono ?_
  rintro e w' ⟨rfl, hw⟩
  replace hw := hw.symm
  subst hw
  clear HT1 HT2
  go_upto_region 15 with (fail)
  go_cut [57] (fun s57 wc => s57 = .bool false ∧ wc = w)
  case first =>
    cases hr : rep.toList.isEmpty
    · have t3' : tok rep.data.toList = true := by rcases t3 with h | h; (rw [hr] at h; cases h); exact h
      rw [t3'] at HT3
      clear t3 t3'
      go_wp2_with fail
      refine HT3.mono ?_
      rintro e w' ⟨rfl, hw⟩
      replace hw := hw.symm
      subst hw
      go_wp2
      go_meet
      case rel => exact ⟨rfl, rfl⟩
    · clear t3 HT3
      go_wp2
      go_meet
      case rel => exact ⟨rfl, rfl⟩
  case rest =>
    obtain ⟨rfl, hw⟩ := hcut
    replace hw := hw.symm
    subst hw
    clear HT3
    go_upto_if 68 with (first
      | (at_make; refine row_make rfl _ _ rfl _ _ _ _ lh.length rfl rfl rfl rfl (by omega) ?_; intro w1 hm1 hb1)
      | ((with_reducible show wpList _ _ _ (Oper.mk _ (Op.call _) _ _ _ _ :: _) _ _); refine row_copy rfl _ _ rfl lh _ rfl rfl hh hm1 hb1 (by unfold maxLen; omega) ?_; intro w2 hr2 hb2))
    clear hm1 hb1 hh
    go_cut [4] (fun s4 wd => Src wd s4 lp ∧ Row wd (.slice (some ⟨w.heap.size, 0, none⟩) lh.length lh.length) lh ∧ Below w.heap.size w wd)
    case first =>
      have hp2 := hp.keep hb2
      cases ao with
      | none =>
        go_wp2
        go_meet
        case rel => exact ⟨hp2.nil_src, hr2, hb2⟩
      | some ad =>
        go_wp2_with (first
          | (at_make; refine row_make rfl _ _ rfl _ _ _ _ lp.length rfl rfl rfl rfl (by omega) ?_; intro w3 hm3 hb3)
          | ((with_reducible show wpList _ _ _ (Oper.mk _ (Op.call _) _ _ _ _ :: _) _ _); refine row_copy rfl _ _ rfl lp _ rfl rfl hp2 hm3 hb3 (by unfold maxLen; omega) ?_; intro w4 hr4 hb4))
        go_meet
        case rel => exact ⟨.inr hr4, hr2.keep hb4, hb2.trans (hb4.mono hb2.size)⟩
    case rest =>
      obtain ⟨hps, hrh, hbd⟩ := hcut
      have hrs : Src wc (.slice (some ⟨w.heap.size, 0, none⟩) lh.length lh.length) lh := .inr hrh
      have htd : Tab wc := ht.keep hbd
      obtain ⟨ao', cp', rfl⟩ := hps.plen
      clear hp hr2 hb2 ht
      go_wp2_with (first
        | (at_make; refine buf_make rfl _ _ rfl _ _ _ (lh.length + lp.length) rfl rfl (by simp) (by omega) ?_; intro jv w3 hj)
        | (at_builtin; refine buf_src rfl _ _ rfl rfl (by assumption) rfl hrs (by simp; omega) ?_; intro jv w3 hj)
        | (at_builtin; refine buf_src rfl _ _ rfl rfl (by assumption) rfl hps (by simp; omega) ?_; intro jv w3 hj))
      have hb3 : Below wc.heap.size wc w3 := hj.2
      have ht3 : Tab w3 := htd.keep hb3
      refine (msg_h sub sid rep w3 lh _ h4 (hrh.keep hb3) _ lp h1 h2 h3 (by omega) (hps.keep hb3) ht3).mono ?_
      rintro e w4 ⟨v1, rfl, hv1⟩
      have hb4 : Below w3.heap.size w3 w4 := hv1.2
      have hj4 : Src w4 jv (lh ++ lp) := (hj.cast (by simp)).src.keep hb4
      have ht4 : Tab w4 := ht3.keep hb4
      go_wp2_with fail
      refine (msg_n sub sid rep w4 jv (lh ++ lp) h1 h2 h3 (by simp; omega) hj4 ht4).mono ?_
      rintro e w5 ⟨v2, rfl, hv2⟩
      have hb5 : Below w4.heap.size w4 w5 := hv2.2
      have R1 := (hv1.row (msg_ne _ _ _ _ _)).keep hb5
      have R2 := hv2.row (msg_ne _ _ _ _ _)
      have hbw5 : Below w.heap.size w w5 := hbd.trans ((hb3.mono hbd.size).trans ((hb4.mono (Nat.le_trans hbd.size hb3.size)).trans (hb5.mono (Nat.le_trans (Nat.le_trans hbd.size hb3.size) hb4.size))))
      have t3' : rep.data.toList = [] ∨ tok rep.data.toList = true := by
        rcases t3 with h | h
        · left; rw [ByteArray.toList_eq] at h; simpa using h
        · exact .inr h
      have hl2 := msg_len sub.data.toList sid.data.toList rep.data.toList (lh ++ lp) h1 h2 h3 (by simp; omega)
      have hl1 := msg_len_some sub.data.toList sid.data.toList rep.data.toList lh lp h1 h2 h3 h4 h5
      obtain ⟨k, q, hkq, hql, F1, F2, F3, F4, hwant⟩ := plain_facts sub.data.toList sid.data.toList rep.data.toList lh lp t1 t2 t3'
      have hne1 := msg_ne sub.data.toList sid.data.toList rep.data.toList lp (some lh)
      clear hv1 hv2 hj hj4 ht4 ht3 htd hps hrh hrs t1 t2 t3 t3' hb3 hb4 hb5 hbd
      generalize msgL sub.data.toList sid.data.toList rep.data.toList none (lh ++ lp) = M2 at R2 hl2 hql F1 F2 F3 F4 hwant
      generalize msgL sub.data.toList sid.data.toList rep.data.toList (some lh) lp = M1 at R1 hl1 hwant hne1
      obtain ⟨g2, off2, cap2, rfl, hg2, hc2, hm2, hcell2⟩ := R2
      have HCELL : Hid (∀ j (hj : j < M2.length), w5.cell? ⟨g2, off2 + j, none⟩ = some (.int .u8 (M2[j].toNat : Int))) := fun j hj => Row.at hcell2 j hj
      have HF1 : Hid (∀ j (hj : j < M2.length), j < q → (M2[j].toNat : Int) ≠ 13) := F1
      have HF2 : Hid (∀ (hj : q < M2.length), (M2[q].toNat : Int) = 13) := F2
      have HF3 : Hid (∀ j (hj : j < M2.length), k < j → j < q → (M2[j].toNat : Int) ≠ 32) := F3
      have HF4 : Hid (∀ (hj : k < M2.length), (M2[k].toNat : Int) = 32) := F4
      have HW : Hid ([72] ++ M2.take (k + 1) ++ decDigits lh.length ++ [32] ++ M2.drop (k + 1) = M1) := hwant
      have hS1 : Src w5 (.slice (some ⟨g2, off2, none⟩) (k + 1) cap2) (M2.take (k + 1)) := by
        have e : (M2.take (k + 1)).length = k + 1 := by rw [List.length_take]; omega
        exact .inr ⟨g2, off2, cap2, by rw [e], hg2, by omega, hm2, cells_take (k + 1) hcell2⟩
      have hS2 : Src w5 (.slice (some ⟨g2, off2 + (k + 1), none⟩) (M2.length - (k + 1)) (cap2 - (k + 1))) (M2.drop (k + 1)) := by
        have e : (M2.drop (k + 1)).length = M2.length - (k + 1) := List.length_drop
        exact .inr ⟨g2, off2 + (k + 1), cap2 - (k + 1), by rw [e], hg2, by omega, by omega, cells_drop (k + 1) hcell2⟩
      have hlt : (M2.take (k + 1)).length ≤ 400000 := by rw [List.length_take]; omega
      have hld : (M2.drop (k + 1)).length ≤ 400000 := by rw [List.length_drop]; omega
      have hd1 := dec_len lh.length (by omega)
      clear F1 F2 F3 F4 hwant hcell2
      go_wp2_with fail
      go_loop [16, 17] (fun c i => ∃ j : Nat, j ≤ q ∧ i = .int .i64 j ∧ c = .int .i64 (-1)) (fun _ i => q - (intOf i).toNat)
      case atStart => exact ⟨0, Nat.zero_le _, rfl, rfl⟩
      case round =>
        obtain ⟨j, hj, rfl, rfl⟩ := hrel
        have d := HCELL.out j (by omega)
        have hjI : (j : Int) < (M2.length : Int) := by omega
        by_cases hjq : j < q
        · have hne := beqF (HF1.out j (by omega) hjq)
          go_wp2
          go_round
          case rel => exact ⟨j + 1, by omega, by go_num, rfl⟩
          case measure => simp [intOf]; omega
        · obtain rfl : j = q := by omega
          have heq := beqT (HF2.out (by omega))
          have hj1 : 1 ≤ j := by omega
          go_wp2_with fail
          go_loop [18, 19] (fun c i => ∃ m : Nat, k ≤ m ∧ m < j ∧ i = .int .i64 m ∧ c = .int .i64 (-1)) (fun _ i => (intOf i).toNat)
          case atStart => exact ⟨j - 1, by omega, by omega, by go_num, rfl⟩
          case round =>
            obtain ⟨m, hkm, hmj, rfl, rfl⟩ := hrel
            have d2 := HCELL.out m (by omega)
            have hmI : (m : Int) < (M2.length : Int) := by omega
            by_cases hmk : k < m
            · have hne2 := beqF (HF3.out m (by omega) hmk hmj)
              have hm1 : 1 ≤ m := by omega
              go_wp2
              go_round
              case rel => exact ⟨m - 1, by omega, by omega, by go_num, rfl⟩
              case measure => simp [intOf]; omega
            · obtain rfl : m = k := by omega
              have heq2 := beqT (HF4.out (by omega))
              have hmc : m + 1 < cap2 := by omega
              have hmcI : ((m : Int) + 1) ≤ (cap2 : Int) := by omega
              have hmlI : ((m : Int) + 1) ≤ (M2.length : Int) := by omega
              go_wp2_with (first
                | (at_make; refine buf_make rfl _ _ rfl _ _ _ (M2.length + 32) rfl rfl (by simp) (by omega) ?_; intro wv w6 hw6)
                | (at_builtin; refine buf_byte rfl _ _ rfl rfl (by assumption) _ 72 rfl rfl (by simp; done) ?_; intro wv w6 hw6)
                | (at_builtin; refine buf_src rfl _ _ rfl rfl (by assumption) rfl hS1 (by simp; omega) ?_; intro wv w6 hw6))
              refine (itoa_any lh.length h4 _).mono ?_
              rintro e w7 ⟨rfl, hb7⟩
              have hw7 := hw6.keep hb7
              clear hw6
              go_wp2_with (first
                | (at_builtin; refine buf_text rfl _ _ rfl rfl (by assumption) _ rfl (by simp [size_mk]; omega) ?_; intro wv w8 hw8)
                | (at_builtin; refine buf_byte rfl _ _ rfl rfl (by assumption) _ 32 rfl rfl (by simp [size_mk]; omega) ?_; intro wv w8 hw8)
                | (at_builtin; refine buf_src rfl _ _ rfl rfl (by assumption) rfl hS2 (by simp [size_mk]; omega) ?_; intro wv w8 hw8))
              have hfin : Buf w5 w8 wv M1 := hw8.cast (by rw [← HW.out]; simp)
              refine (same_any v1 wv M1 w8 (by omega) (R1.keep hw8.2) (hfin.row hne1)).mono ?_
              rintro e w9 ⟨rfl, qq, rfl⟩
              go_wp2
              go_ret
              exact ⟨rfl, below_drewN (hbw5.trans (hfin.2.mono hbw5.size)) _⟩

end Go.Proofs.Qxb6617796aDoor
