import Derived.Test.Qxb6615150aFmtRows
import Derived.Sort.Walk0
import Derived.WalkKit
namespace Go.Proofs.Qxb6615150aFmt
open Go.RowKit Go.Sort

/-- An element in its cell. -/
abbrev encU : Int → Value := fun x => Value.int .u64 x

set_option maxHeartbeats 1000000 in
theorem srt_cmp_isNaN_int (x : Int) (w : World) : Calls Tryf.prog 78 #[.int .u64 x] w fun e w' => e = .returned (.bool false) ∧ w' = w := by
  go_enter Tryf.func78, Tryf.ntmps78
  go_wp2
  go_ret
  exact ⟨by simp, rfl⟩

set_option maxHeartbeats 1000000 in
theorem srt_cmp_Less_int (x y : Int) (w : World) : Calls Tryf.prog 63 #[.int .u64 x, .int .u64 y] w fun e w' => e = .returned (.bool (Sort.ltInt x y)) ∧ w' = w := by
  go_enter Tryf.func63, Tryf.ntmps63
  go_wp2_with (go_at_call 78; refine (srt_cmp_isNaN_int _ _).mono ?_; rintro e w' ⟨rfl, rfl⟩)
  go_ret
  exact ⟨rfl, rfl⟩

end Go.Proofs.Qxb6615150aFmt
