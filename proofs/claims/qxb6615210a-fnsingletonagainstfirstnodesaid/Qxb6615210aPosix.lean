import Derived.Test.Qxb6615210aRows
import Derived.WalkKit
import Derived.WalkSpells
import Derived.WalkLawsBesides
import Derived.Deep.QuietTactic
import Derived.BigQuiet
import Derived.Deep.RegionHeld3
namespace Go.Proofs.Qxb6615210a
open Go.RowKit

/-- The seconds and the fraction hold a time. -/
def timeB (s f : Int) : Bool := decide (s ≠ 4294967295 ∧ f < 1000000)

theorem posix_yes (b : Nat) (s f : Int) (w : World) (h0 : 0 ≤ s) (h1 : s < 4294967295) (h2 : 0 ≤ f) (h3 : f < 1000000)
    (c4 : w.cell? ⟨b, 4, none⟩ = some (.int .u32 s)) (c5 : w.cell? ⟨b, 5, none⟩ = some (.int .u32 f)) :
    Calls Try.prog 14 #[.pointer (some ⟨b, 0, none⟩)] w fun e w' => e = .returned (.tuple #[.int .i64 (s * 1000000 + f), .bool true]) ∧ ∃ m, w' = w.drewN m := by
  have hs : (s == 4294967295) = false := by simp; omega
  go_enter Try.func14, Try.ntmps14
  go_wp2
  go_quiet (fail)
  go_wp2
  go_ret2
  exact ⟨rfl, _, rfl⟩

theorem posix_all (b : Nat) (s : Int) (w : World) (h0 : s = 4294967295)
    (c4 : w.cell? ⟨b, 4, none⟩ = some (.int .u32 s)) :
    Calls Try.prog 14 #[.pointer (some ⟨b, 0, none⟩)] w fun e w' => e = .returned (.tuple #[.int .i64 0, .bool false]) ∧ ∃ m, w' = w.drewN m := by
  subst h0
  go_enter Try.func14, Try.ntmps14
  go_wp2
  go_ret2
  exact ⟨rfl, 0, rfl⟩

theorem posix_frac (b : Nat) (s f : Int) (w : World) (h0 : s ≠ 4294967295) (h3 : 1000000 ≤ f)
    (c4 : w.cell? ⟨b, 4, none⟩ = some (.int .u32 s)) (c5 : w.cell? ⟨b, 5, none⟩ = some (.int .u32 f)) :
    Calls Try.prog 14 #[.pointer (some ⟨b, 0, none⟩)] w fun e w' => e = .returned (.tuple #[.int .i64 0, .bool false]) ∧ ∃ m, w' = w.drewN m := by
  have hs : (s == 4294967295) = false := by simp; omega
  go_enter Try.func14, Try.ntmps14
  go_wp2
  go_ret2
  exact ⟨rfl, 0, rfl⟩

theorem timeB_yes {s f : Int} (h : timeB s f = true) : s ≠ 4294967295 ∧ f < 1000000 := by simpa [timeB] using h
theorem timeB_no {s f : Int} (h : timeB s f = false) : s = 4294967295 ∨ (s ≠ 4294967295 ∧ 1000000 ≤ f) := by
  have : ¬ (s ≠ 4294967295 ∧ f < 1000000) := by simpa [timeB] using h
  omega

theorem posix_t (b : Nat) (s f : Int) (w : World) (h0 : 0 ≤ s) (h1 : s ≤ 4294967295) (h2 : 0 ≤ f) (ht : timeB s f = true)
    (c4 : w.cell? ⟨b, 4, none⟩ = some (.int .u32 s)) (c5 : w.cell? ⟨b, 5, none⟩ = some (.int .u32 f)) :
    Calls Try.prog 14 #[.pointer (some ⟨b, 0, none⟩)] w fun e w' => e = .returned (.tuple #[.int .i64 (s * 1000000 + f), .bool true]) ∧ ∃ m, w' = w.drewN m :=
  posix_yes b s f w h0 (by have := timeB_yes ht; omega) h2 (timeB_yes ht).2 c4 c5

theorem posix_f (b : Nat) (s f : Int) (w : World) (ht : timeB s f = false)
    (c4 : w.cell? ⟨b, 4, none⟩ = some (.int .u32 s)) (c5 : w.cell? ⟨b, 5, none⟩ = some (.int .u32 f)) :
    Calls Try.prog 14 #[.pointer (some ⟨b, 0, none⟩)] w fun e w' => e = .returned (.tuple #[.int .i64 0, .bool false]) ∧ ∃ m, w' = w.drewN m := by
  rcases timeB_no ht with h | ⟨h, h'⟩
  · exact posix_all b s w h c4
  · exact posix_frac b s f w h h' c4 c5

theorem zzPosix_t (s f : Int) (w : World) (h0 : 0 ≤ s) (h1 : s ≤ 4294967295) (h2 : 0 ≤ f) (ht : timeB s f = true) :
    Calls Try.prog 6 #[.int .u32 s, .int .u32 f] w fun e w' => e = .returned (.tuple #[.int .i64 (s * 1000000 + f), .bool true]) ∧ Below w.heap.size w w' := by
  go_enter Try.func6, Try.ntmps6
  go_wp2_with fail
  refine (posix_t w.heap.size s f _ h0 h1 h2 ht (by simp) (by simp)).mono ?_
  rintro e w' ⟨rfl, m, rfl⟩
  go_wp2_with fail
  go_ret2
  exact ⟨rfl, below_drewN ((Below.refl _ _).alloc (Nat.le_refl _) _) _⟩

theorem zzPosix_f (s f : Int) (w : World) (ht : timeB s f = false) :
    Calls Try.prog 6 #[.int .u32 s, .int .u32 f] w fun e w' => e = .returned (.tuple #[.int .i64 0, .bool false]) ∧ Below w.heap.size w w' := by
  go_enter Try.func6, Try.ntmps6
  go_wp2_with fail
  refine (posix_f w.heap.size s f _ ht (by simp) (by simp)).mono ?_
  rintro e w' ⟨rfl, m, rfl⟩
  go_wp2_with fail
  go_ret2
  exact ⟨rfl, below_drewN ((Below.refl _ _).alloc (Nat.le_refl _) _) _⟩

theorem holds_t (s f : Int) (w : World) (h2 : 0 ≤ f) (ht : timeB s f = true) :
    Calls Try.prog 7 #[.int .u32 s, .int .u32 f] w fun e w' => e = .returned (.bool true) ∧ w' = w := by
  obtain ⟨h, h'⟩ := timeB_yes ht
  have hs : (s != 4294967295) = true := by simpa using h
  clear h
  go_enter Try.func7, Try.ntmps7
  go_wp2
  go_ret
  exact ⟨rfl, rfl⟩

theorem holds_f (s f : Int) (w : World) (h2 : f ≤ 4294967295) (ht : timeB s f = false) :
    Calls Try.prog 7 #[.int .u32 s, .int .u32 f] w fun e w' => e = .returned (.bool false) ∧ w' = w := by
  rcases timeB_no ht with h | ⟨h, h'⟩
  · subst h
    go_enter Try.func7, Try.ntmps7
    go_wp2
    go_ret
    exact ⟨rfl, rfl⟩
  · have hs : (s != 4294967295) = true := by simpa using h
    have hd : decide (f < 1000000) = false := by simp; omega
    clear h
    go_enter Try.func7, Try.ntmps7
    go_wp2
    go_ret
    exact ⟨rfl, rfl⟩
end Go.Proofs.Qxb6615210a
