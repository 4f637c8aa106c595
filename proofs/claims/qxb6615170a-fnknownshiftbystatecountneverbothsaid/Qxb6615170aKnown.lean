import Derived.Test.Qxb6615170aRows
import Derived.WalkKit
import Derived.WalkSpells
import Derived.WalkLawsBesides
namespace Go.Proofs.Qxb6615170a
open Go.RowKit

theorem known_yes (x : Int) (w : World) (h0 : 0 ≤ x) (h1 : x < 6) : Calls Try.prog 5 #[.int .i64 x] w fun e w' => e = .returned (.bool true) ∧ w' = w := by
  go_enter Try.func5, Try.ntmps5
  go_wp2
  go_ret
  exact ⟨rfl, rfl⟩
theorem known_low (x : Int) (w : World) (h0 : x < 0) : Calls Try.prog 5 #[.int .i64 x] w fun e w' => e = .returned (.bool false) ∧ w' = w := by
  go_enter Try.func5, Try.ntmps5
  go_wp2
  go_ret
  exact ⟨rfl, rfl⟩
theorem known_high (x : Int) (w : World) (h1 : 6 ≤ x) : Calls Try.prog 5 #[.int .i64 x] w fun e w' => e = .returned (.bool false) ∧ w' = w := by
  have hd : decide (x < 6) = false := by simp; omega
  go_enter Try.func5, Try.ntmps5
  go_wp2
  go_ret
  exact ⟨rfl, rfl⟩
end Go.Proofs.Qxb6615170a
