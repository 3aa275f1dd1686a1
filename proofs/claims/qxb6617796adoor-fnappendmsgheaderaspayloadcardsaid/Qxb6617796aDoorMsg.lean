/-
  AppendMsg (13): its contract: what comes back holds the message's bytes.
-/
import Derived.Test.Qxb6617796aDoorMem
namespace Go.Proofs.Qxb6617796aDoor
open Go.RowKit Go.Lib
set_option linter.unusedSimpArgs false

/-- the bytes of a delivery -/
def msgL (sub sid rep : List UInt8) (h : Option (List UInt8)) (p : List UInt8) : List UInt8 :=
  (match h with | some _ => ([72, 77, 83, 71, 32] : List UInt8) | none => [77, 83, 71, 32]) ++ sub ++ [32] ++ sid ++ (if rep = [] then [] else [32] ++ rep) ++ [32] ++
  (match h with | some h => decDigits h.length ++ [32] | none => []) ++ decDigits ((h.getD []).length + p.length) ++ [13, 10] ++ h.getD [] ++ p ++ [13, 10]

theorem size_mk (a : Array UInt8) : (ByteArray.mk a).size = a.size := rfl
theorem tn2 (a b : Nat) : ((a : Int) + (b : Int)).toNat = a + b := by omega
theorem dec_len (n : Nat) (h : n ≤ 1000000) : (decDigits n).length ≤ 20 := by
  rw [decDigits_length]; exact nDigits_le20 n (by omega)

/-- a slice's length is the list's -/
def PLen (v : Value) (l : List UInt8) : Prop := ∃ ao cap, v = .slice ao l.length cap
theorem Src.plen {w : World} {v : Value} {l : List UInt8} (h : Src w v l) : PLen v l := by
  rcases h with ⟨rfl, rfl⟩ | ⟨b, off, cap, rfl, _⟩
  · exact ⟨none, 0, rfl⟩
  · exact ⟨_, _, rfl⟩

set_option maxRecDepth 100000 in
set_option maxHeartbeats 2000000 in
theorem msg_h_r (sub sid rep : ByteArray) (w : World) (lh : List UInt8) (b off cap : Nat) (hlh : lh.length ≤ 65536) (hhs : Src w (.slice (some ⟨b, off, none⟩) lh.length cap) lh) (pv : Value) (lp : List UInt8) (h1 : sub.size ≤ 65536) (h2 : sid.size ≤ 65536) (h3 : rep.size ≤ 65536) (hlp : lp.length ≤ 131072) (hpl : PLen pv lp)
    (hps : Src w pv lp) (ht : Tab w) (hr : rep.toList.isEmpty = false) :
    Calls Tryd.prog 13 #[.slice none 0 0, .string sub, .string sid, .string rep, .slice (some ⟨b, off, none⟩) lh.length cap, pv] w fun e w' => ∃ v', e = .returned v' ∧ Buf w w' v' (msgL sub.data.toList sid.data.toList rep.data.toList (some lh) lp) := by
  have qN : ∀ (w : World) (a : Option Addr) (n c n' c' : Nat), (binOp .neq 26 (.slice a n c) (.slice none n' c')).run Tryd.prog w = .ok (.bool (!a.isNone)) w := fun w a n c n' c' => run_neq_slice_nil_any w _ _ a n c n' c' Tryd.underlying26
  have hb0 := buf_nil w
  have hd1 := dec_len lp.length (by omega)
  have hd2 := dec_len lh.length (by omega)
  have hd3 := dec_len (lh.length + lp.length) (by omega)
  have e1 : sub.data.size ≤ 65536 := h1
  have e2 : sid.data.size ≤ 65536 := h2
  have e3 : rep.data.size ≤ 65536 := h3
  have hrl : rep.data.toList ≠ [] := by rw [ByteArray.toList_eq] at hr; simpa using hr
  obtain ⟨ao, cp, rfl⟩ := hpl
  go_enter Tryd.func13, Tryd.ntmps13
  go_wp2_with (first
      | (at_builtin; refine buf_text rfl _ _ rfl rfl (by assumption) _ rfl (by first | (simp [size_mk, tn2]; done) | (simp [size_mk, tn2]; omega)) ?_; intro v' w' hb')
      | (at_builtin; refine buf_byte rfl _ _ rfl rfl (by assumption) _ 32 rfl rfl (by first | (simp [size_mk, tn2]; done) | (simp [size_mk, tn2]; omega)) ?_; intro v' w' hb')
      | (at_builtin; refine buf_src rfl _ _ rfl rfl (by assumption) rfl hps (by first | (simp [size_mk, tn2]; done) | (simp [size_mk, tn2]; omega)) ?_; intro v' w' hb')
      | (at_builtin; refine buf_src rfl _ _ rfl rfl (by assumption) rfl hhs (by first | (simp [size_mk, tn2]; done) | (simp [size_mk, tn2]; omega)) ?_; intro v' w' hb')
      | (go_at_call 20; refine (buf_int (by assumption) ht _ (by omega) (by omega) (by first | (simp [size_mk, tn2]; done) | (simp [size_mk, tn2]; omega))).mono ?_; rintro e w' ⟨v', rfl, hb'⟩))
  go_ret
  exact ⟨_, rfl, hb'.cast (by simp [msgL, tn2, hrl])⟩

set_option maxRecDepth 100000 in
set_option maxHeartbeats 2000000 in
theorem msg_h_e (sub sid rep : ByteArray) (w : World) (lh : List UInt8) (b off cap : Nat) (hlh : lh.length ≤ 65536) (hhs : Src w (.slice (some ⟨b, off, none⟩) lh.length cap) lh) (pv : Value) (lp : List UInt8) (h1 : sub.size ≤ 65536) (h2 : sid.size ≤ 65536) (h3 : rep.size ≤ 65536) (hlp : lp.length ≤ 131072) (hpl : PLen pv lp)
    (hps : Src w pv lp) (ht : Tab w) (hr : rep.toList.isEmpty = true) :
    Calls Tryd.prog 13 #[.slice none 0 0, .string sub, .string sid, .string rep, .slice (some ⟨b, off, none⟩) lh.length cap, pv] w fun e w' => ∃ v', e = .returned v' ∧ Buf w w' v' (msgL sub.data.toList sid.data.toList rep.data.toList (some lh) lp) := by
  have qN : ∀ (w : World) (a : Option Addr) (n c n' c' : Nat), (binOp .neq 26 (.slice a n c) (.slice none n' c')).run Tryd.prog w = .ok (.bool (!a.isNone)) w := fun w a n c n' c' => run_neq_slice_nil_any w _ _ a n c n' c' Tryd.underlying26
  have hb0 := buf_nil w
  have hd1 := dec_len lp.length (by omega)
  have hd2 := dec_len lh.length (by omega)
  have hd3 := dec_len (lh.length + lp.length) (by omega)
  have e1 : sub.data.size ≤ 65536 := h1
  have e2 : sid.data.size ≤ 65536 := h2
  have e3 : rep.data.size ≤ 65536 := h3
  have hrl : rep.data.toList = [] := by rw [ByteArray.toList_eq] at hr; simpa using hr
  obtain ⟨ao, cp, rfl⟩ := hpl
  go_enter Tryd.func13, Tryd.ntmps13
  go_wp2_with (first
      | (at_builtin; refine buf_text rfl _ _ rfl rfl (by assumption) _ rfl (by first | (simp [size_mk, tn2]; done) | (simp [size_mk, tn2]; omega)) ?_; intro v' w' hb')
      | (at_builtin; refine buf_byte rfl _ _ rfl rfl (by assumption) _ 32 rfl rfl (by first | (simp [size_mk, tn2]; done) | (simp [size_mk, tn2]; omega)) ?_; intro v' w' hb')
      | (at_builtin; refine buf_src rfl _ _ rfl rfl (by assumption) rfl hps (by first | (simp [size_mk, tn2]; done) | (simp [size_mk, tn2]; omega)) ?_; intro v' w' hb')
      | (at_builtin; refine buf_src rfl _ _ rfl rfl (by assumption) rfl hhs (by first | (simp [size_mk, tn2]; done) | (simp [size_mk, tn2]; omega)) ?_; intro v' w' hb')
      | (go_at_call 20; refine (buf_int (by assumption) ht _ (by omega) (by omega) (by first | (simp [size_mk, tn2]; done) | (simp [size_mk, tn2]; omega))).mono ?_; rintro e w' ⟨v', rfl, hb'⟩))
  go_ret
  exact ⟨_, rfl, hb'.cast (by simp [msgL, tn2, hrl])⟩

set_option maxRecDepth 100000 in
set_option maxHeartbeats 2000000 in
theorem msg_n_r (sub sid rep : ByteArray) (w : World)  (pv : Value) (lp : List UInt8) (h1 : sub.size ≤ 65536) (h2 : sid.size ≤ 65536) (h3 : rep.size ≤ 65536) (hlp : lp.length ≤ 131072) (hpl : PLen pv lp)
    (hps : Src w pv lp) (ht : Tab w) (hr : rep.toList.isEmpty = false) :
    Calls Tryd.prog 13 #[.slice none 0 0, .string sub, .string sid, .string rep, .slice none 0 0, pv] w fun e w' => ∃ v', e = .returned v' ∧ Buf w w' v' (msgL sub.data.toList sid.data.toList rep.data.toList none lp) := by
  have qN : ∀ (w : World) (a : Option Addr) (n c n' c' : Nat), (binOp .neq 26 (.slice a n c) (.slice none n' c')).run Tryd.prog w = .ok (.bool (!a.isNone)) w := fun w a n c n' c' => run_neq_slice_nil_any w _ _ a n c n' c' Tryd.underlying26
  have hb0 := buf_nil w
  have hd1 := dec_len lp.length (by omega)
  have hns : Src w (.slice none 0 0) [] := .inl ⟨rfl, rfl⟩
  
  have e1 : sub.data.size ≤ 65536 := h1
  have e2 : sid.data.size ≤ 65536 := h2
  have e3 : rep.data.size ≤ 65536 := h3
  have hrl : rep.data.toList ≠ [] := by rw [ByteArray.toList_eq] at hr; simpa using hr
  obtain ⟨ao, cp, rfl⟩ := hpl
  go_enter Tryd.func13, Tryd.ntmps13
  go_wp2_with (first
      | (at_builtin; refine buf_text rfl _ _ rfl rfl (by assumption) _ rfl (by first | (simp [size_mk, tn2]; done) | (simp [size_mk, tn2]; omega)) ?_; intro v' w' hb')
      | (at_builtin; refine buf_byte rfl _ _ rfl rfl (by assumption) _ 32 rfl rfl (by first | (simp [size_mk, tn2]; done) | (simp [size_mk, tn2]; omega)) ?_; intro v' w' hb')
      | (at_builtin; refine buf_src rfl _ _ rfl rfl (by assumption) rfl hps (by first | (simp [size_mk, tn2]; done) | (simp [size_mk, tn2]; omega)) ?_; intro v' w' hb')
      | (at_builtin; refine buf_src rfl _ _ rfl rfl (by assumption) rfl hns (by first | (simp [size_mk, tn2]; done) | (simp [size_mk, tn2]; omega)) ?_; intro v' w' hb')
      | (go_at_call 20; refine (buf_int (by assumption) ht _ (by omega) (by omega) (by first | (simp [size_mk, tn2]; done) | (simp [size_mk, tn2]; omega))).mono ?_; rintro e w' ⟨v', rfl, hb'⟩))
  go_ret
  exact ⟨_, rfl, hb'.cast (by simp [msgL, tn2, hrl])⟩

set_option maxRecDepth 100000 in
set_option maxHeartbeats 2000000 in
theorem msg_n_e (sub sid rep : ByteArray) (w : World)  (pv : Value) (lp : List UInt8) (h1 : sub.size ≤ 65536) (h2 : sid.size ≤ 65536) (h3 : rep.size ≤ 65536) (hlp : lp.length ≤ 131072) (hpl : PLen pv lp)
    (hps : Src w pv lp) (ht : Tab w) (hr : rep.toList.isEmpty = true) :
    Calls Tryd.prog 13 #[.slice none 0 0, .string sub, .string sid, .string rep, .slice none 0 0, pv] w fun e w' => ∃ v', e = .returned v' ∧ Buf w w' v' (msgL sub.data.toList sid.data.toList rep.data.toList none lp) := by
  have qN : ∀ (w : World) (a : Option Addr) (n c n' c' : Nat), (binOp .neq 26 (.slice a n c) (.slice none n' c')).run Tryd.prog w = .ok (.bool (!a.isNone)) w := fun w a n c n' c' => run_neq_slice_nil_any w _ _ a n c n' c' Tryd.underlying26
  have hb0 := buf_nil w
  have hd1 := dec_len lp.length (by omega)
  have hns : Src w (.slice none 0 0) [] := .inl ⟨rfl, rfl⟩
  
  have e1 : sub.data.size ≤ 65536 := h1
  have e2 : sid.data.size ≤ 65536 := h2
  have e3 : rep.data.size ≤ 65536 := h3
  have hrl : rep.data.toList = [] := by rw [ByteArray.toList_eq] at hr; simpa using hr
  obtain ⟨ao, cp, rfl⟩ := hpl
  go_enter Tryd.func13, Tryd.ntmps13
  go_wp2_with (first
      | (at_builtin; refine buf_text rfl _ _ rfl rfl (by assumption) _ rfl (by first | (simp [size_mk, tn2]; done) | (simp [size_mk, tn2]; omega)) ?_; intro v' w' hb')
      | (at_builtin; refine buf_byte rfl _ _ rfl rfl (by assumption) _ 32 rfl rfl (by first | (simp [size_mk, tn2]; done) | (simp [size_mk, tn2]; omega)) ?_; intro v' w' hb')
      | (at_builtin; refine buf_src rfl _ _ rfl rfl (by assumption) rfl hps (by first | (simp [size_mk, tn2]; done) | (simp [size_mk, tn2]; omega)) ?_; intro v' w' hb')
      | (at_builtin; refine buf_src rfl _ _ rfl rfl (by assumption) rfl hns (by first | (simp [size_mk, tn2]; done) | (simp [size_mk, tn2]; omega)) ?_; intro v' w' hb')
      | (go_at_call 20; refine (buf_int (by assumption) ht _ (by omega) (by omega) (by first | (simp [size_mk, tn2]; done) | (simp [size_mk, tn2]; omega))).mono ?_; rintro e w' ⟨v', rfl, hb'⟩))
  go_ret
  exact ⟨_, rfl, hb'.cast (by simp [msgL, tn2, hrl])⟩

end Go.Proofs.Qxb6617796aDoor
