/- rumorwire.LawS3184CStranger: addresses. -/
import Derived.Test.YbulkbmxmRows
import Derived.WalkKit
import Derived.WalkSpells
namespace Go.Proofs.Ybulkbmxm.lawS3184CStranger
open Go.RowKit

theorem from_any (p : Int) (w : World) :
    Calls Yba.prog 17 #[.agg #[.int .u64 0, .int .u64 0, .pointer none], .int .u16 p] w fun e w' => e = .returned (.agg #[.int .u64 0, .int .u64 0, .pointer none, .int .u16 p]) ∧
      w' = (w.alloc (.cells #[.int .u64 0, .int .u64 0, .pointer none] 48)).alloc (.cells #[.int .u64 0, .int .u64 0, .pointer none, .int .u16 p] 50) := by
  go_enter Yba.func17, Yba.ntmps17
  go_wp2
  exact bodyPost_ret (v := .agg #[.int .u64 0, .int .u64 0, .pointer none, .int .u16 p]) (by simp [results, Yba.results17, go_sem]) rfl ⟨rfl, rfl⟩

theorem addr_eq (p : Int) (w : World) :
    Calls Yba.prog 11 #[.int .u16 p] w fun e w' => e = .returned (.agg #[.int .u64 0, .int .u64 0, .pointer none, .int .u16 p]) ∧
      w' = ((w.alloc (.cells #[.int .u64 0, .int .u64 0, .pointer none, .int .u16 p] 50)).alloc (.cells #[.int .u64 0, .int .u64 0, .pointer none] 48)).alloc (.cells #[.int .u64 0, .int .u64 0, .pointer none, .int .u16 p] 50) := by
  go_enter Yba.func11, Yba.ntmps11
  go_wp2_with (go_at_call 17; refine (from_any _ _).mono ?_; rintro e w' ⟨rfl, rfl⟩)
  exact bodyPost_ret (v := .agg #[.int .u64 0, .int .u64 0, .pointer none, .int .u16 p]) (by simp [results, Yba.results11, go_sem]) rfl ⟨rfl, rfl⟩

/-- The address of a port: in new memory; nothing old has turned. -/
theorem addr_any (p : Int) (w : World) :
    Calls Yba.prog 11 #[.int .u16 p] w fun e w' => e = .returned (.agg #[.int .u64 0, .int .u64 0, .pointer none, .int .u16 p]) ∧ Below w.heap.size w w' := by
  refine (addr_eq p w).mono ?_
  rintro e w' ⟨rfl, rfl⟩
  exact ⟨rfl, ((((Below.refl _ _).alloc (Nat.le_refl _) _).alloc (by simp) _).alloc (by simp; omega) _)⟩
end Go.Proofs.Ybulkbmxm.lawS3184CStranger
