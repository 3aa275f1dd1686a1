/-
  ZZNamed (16), zzNamed (7).
-/
import Derived.Test.Qxb6617286aNm
import Derived.Test.Qxb6617286aRing
namespace Go.Proofs.Qxb6617286a
open Go.RowKit

set_option maxHeartbeats 1000000 in
theorem ZZNamed_any (a0 a1 a2 a3 a4 a5 a6 a7 a8 a9 : Int) (b10 : Bool) (k : Int) (b12 b13 b14 b15 r b17 : Bool) (w : World) :
    Calls Try.prog 16 #[.int .u64 a0, .int .u64 a1, .int .u64 a2, .int .u64 a3, .int .u64 a4, .int .u64 a5, .int .u64 a6, .int .u64 a7, .int .u32 a8, .int .u32 a9, .bool b10, .int .u8 k, .bool b12, .bool b13, .bool b14, .bool b15, .bool r, .bool b17] w
      fun e w' => NmRes (nm k a2 a3 a5 a6 a7) w e w' := by
  go_enter Try.func16, Try.ntmps16
  go_wp2_with (go_at_call 20; refine (ringMessage_any _ _ _ _ _ _ _ _ _ _ _ _ _ _ _ _ _ _ _).mono ?_; rintro e w1 ⟨rfl, hb1⟩)
  refine (named_any _ _ _ _ _ _ _ _ _ _ _ _ _ _ _ _ _ _ _).mono ?_
  intro e w2 hr
  have hr' := hr.frame hb1
  clear hr
  obtain ⟨hb, ⟨hl, rfl⟩ | ⟨hl, b, off, hbb, hlt, rfl, hc, hf⟩⟩ := hr'
  · go_wp2
    go_ret
    exact ⟨hb, .inl ⟨hl, rfl⟩⟩
  · go_wp2
    go_ret
    exact ⟨hb, .inr ⟨hl, b, off, hbb, hlt, rfl, hc, hf⟩⟩

set_option maxHeartbeats 1000000 in
theorem zzNamed_any (a0 a1 a2 a3 a4 a5 a6 a7 a8 a9 : Int) (b10 : Bool) (k : Int) (b12 b13 b14 b15 r b17 : Bool) (w : World) :
    Calls Try.prog 7 #[.agg #[.int .u64 a0, .int .u64 a1, .int .u64 a2, .int .u64 a3, .int .u64 a4, .int .u64 a5, .int .u64 a6, .int .u64 a7, .int .u32 a8, .int .u32 a9, .bool b10, .int .u8 k, .bool b12, .bool b13, .bool b14, .bool b15, .bool r, .bool b17]] w
      fun e w' => NmRes (nm k a2 a3 a5 a6 a7) w e w' := by
  go_enter Try.func7, Try.ntmps7
  go_wp2_with fail
  refine (ZZNamed_any _ _ _ _ _ _ _ _ _ _ _ _ _ _ _ _ _ _ _).mono ?_
  intro e w2 hr
  have hr' := hr.frame ((Below.refl _ _).alloc (Nat.le_refl _) _)
  clear hr
  obtain ⟨hb, ⟨hl, rfl⟩ | ⟨hl, b, off, hbb, hlt, rfl, hc, hf⟩⟩ := hr'
  · go_wp2
    go_ret
    exact ⟨hb, .inl ⟨hl, rfl⟩⟩
  · go_wp2
    go_ret
    exact ⟨hb, .inr ⟨hl, b, off, hbb, hlt, rfl, hc, hf⟩⟩

end Go.Proofs.Qxb6617286a
