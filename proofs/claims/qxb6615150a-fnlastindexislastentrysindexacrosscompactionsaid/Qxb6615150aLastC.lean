import Derived.Test.Qxb6615150aLastB
import Derived.Deep.QuietTactic
import Derived.BigQuiet
namespace Go.Proofs.Qxb6615150a
open Go.RowKit

/-- The log is boxed: a new block of four cells. -/
theorem newLog_any (x0 x1 x3 : Int) (ao : Option Addr) (n cap : Nat) (w : World) :
    Calls Try.prog 7 #[.int .u64 x0, .int .u64 x1, .slice ao n cap, .int .u64 x3] w fun e w' => e = .returned (.pointer (some ⟨w.heap.size, 0, none⟩)) ∧ w' = w.alloc (.cells #[.int .u64 x0, .int .u64 x1, .slice ao n cap, .int .u64 x3] 38) := by
  go_enter Try.func7, Try.ntmps7
  go_wp2
  go_ret
  exact ⟨rfl, rfl⟩

theorem lastOf_any (x0 : Int) (b : Nat) (ao : Option Addr) (n cap : Nat) (w : World) (hn : n ≤ 30000)
    (c0 : w.cell? ⟨b, 0, none⟩ = some (.int .u64 x0)) (c2 : w.cell? ⟨b, 2, none⟩ = some (.slice ao n cap)) :
    Calls Try.prog 9 #[.pointer (some ⟨b, 0, none⟩)] w fun e w' => e = .returned (.int .u64 (IntKind.u64.wrap (x0 + n))) ∧ ∃ m, w' = w.drewN m := by
  go_enter Try.func9, Try.ntmps9
  go_wp2
  go_quiet (fail)
  go_wp2
  go_ret
  exact ⟨rfl, _, rfl⟩

theorem zzLast_any (x0 : Int) (b : Nat) (ao : Option Addr) (n cap : Nat) (w : World) (hn : n ≤ 30000)
    (c0 : w.cell? ⟨b, 0, none⟩ = some (.int .u64 x0)) (c2 : w.cell? ⟨b, 2, none⟩ = some (.slice ao n cap)) :
    Calls Try.prog 8 #[.pointer (some ⟨b, 0, none⟩)] w fun e w' => e = .returned (.int .u64 (IntKind.u64.wrap (x0 + n))) ∧ ∃ m, w' = w.drewN m := by
  go_enter Try.func8, Try.ntmps8
  go_wp2_with (go_at_call 9; refine (lastOf_any x0 b ao n cap _ hn c0 c2).mono ?_; rintro e w' ⟨rfl, m, rfl⟩)
  go_ret
  exact ⟨rfl, _, rfl⟩
end Go.Proofs.Qxb6615150a
