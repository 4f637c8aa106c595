import Derived.Test.Qxb6615150aRows
import Derived.WalkKit
import Derived.WalkSpells
import Derived.WalkLawsBesides
namespace Go.Proofs.Qxb6615150a
open Go.RowKit

/-- The entries' cells, as the walk comes to them. -/
structure Ents (w : World) (b off n : Nat) (I T K Q S : Nat → Int) (A : Nat → Option Addr) (L C : Nat → Nat) : Prop where
  c0 : ∀ i, i < n → w.cell? ⟨b, off + i * 6, none⟩ = some (.int .u64 (I i))
  c1 : ∀ i, i < n → w.cell? ⟨b, off + i * 6 + 1, none⟩ = some (.int .u64 (T i))
  c2 : ∀ i, i < n → w.cell? ⟨b, off + i * 6 + 2, none⟩ = some (.int .u8 (K i))
  c3 : ∀ i, i < n → w.cell? ⟨b, off + i * 6 + 3, none⟩ = some (.int .u64 (Q i))
  c4 : ∀ i, i < n → w.cell? ⟨b, off + i * 6 + 4, none⟩ = some (.int .u64 (S i))
  c5 : ∀ i, i < n → w.cell? ⟨b, off + i * 6 + 5, none⟩ = some (.slice (A i) (L i) (C i))
  len : ∀ i, i < n → L i ≤ maxLen

/-- It returns some bool. -/
def RetBool (e : Ending) : Prop := ∃ r : Bool, e = .returned (.bool r)

set_option maxHeartbeats 400000 in
theorem bytes_any (x0 x1 x3 x4 : Int) (ao : Option Addr) (b off n cap : Nat) (I T K Q S : Nat → Int) (A : Nat → Option Addr) (L C : Nat → Nat) (w : World)
    (hn : n ≤ maxLen) (hA : n ≠ 0 → ao = some ⟨b, off, none⟩) (hE : Ents w b off n I T K Q S A L C) :
    Calls Try.prog 4 #[.int .u64 x0, .int .u64 x1, .slice ao n cap, .int .u64 x3, .int .i64 x4] w fun e w' => RetBool e ∧ w' = w := by
  unfold maxLen at hn
  by_cases hbig : n ≤ 1048576
  · go_enter Try.func4, Try.ntmps4
    go_wp2
    go_loop [11, 12] (fun z i => ∃ k : Nat, k ≤ n ∧ i = .int .i64 k ∧ ∃ s : Int, 0 ≤ s ∧ s ≤ 1048576 ∧ z = .int .i64 s) (fun _ i => n - (intOf i).toNat)
    case atStart => exact ⟨0, Nat.zero_le _, rfl, n, by omega, by omega, rfl⟩
    case round =>
      obtain ⟨k, hk, rfl, s, hs0, hs1, rfl⟩ := hrel
      by_cases hlt : k < n
      · obtain rfl := hA (by omega)
        have hc := hE.c5 k hlt
        have hl := hE.len k hlt
        unfold maxLen at hl
        clear hA hE
        go_wp2
        · go_ret
          exact ⟨⟨_, rfl⟩, rfl⟩
        · go_ret
          exact ⟨⟨_, rfl⟩, rfl⟩
        · go_round
          case rel => exact ⟨k + 1, by omega, by go_num, _, by omega, by omega, rfl⟩
          case measure => simp [intOf]; omega
      · go_wp2
        go_ret
        exact ⟨⟨_, rfl⟩, rfl⟩
  · go_enter Try.func4, Try.ntmps4
    go_wp2
    go_ret
    exact ⟨⟨_, rfl⟩, rfl⟩

set_option maxHeartbeats 400000 in
/-- What the entries weigh, from 'total' on: where it is at most 1<<20 every entry's 48 bytes are in it. -/
theorem weigh_any (t0 : Int) (ao : Option Addr) (b off n cap : Nat) (I T K Q S : Nat → Int) (A : Nat → Option Addr) (L C : Nat → Nat) (w : World)
    (ht0 : 0 ≤ t0) (ht1 : t0 ≤ 1048576) (hn : n ≤ maxLen) (hA : n ≠ 0 → ao = some ⟨b, off, none⟩) (hE : Ents w b off n I T K Q S A L C) :
    Calls Try.prog 5 #[.int .i64 t0, .slice ao n cap] w fun e w' => (∃ t : Int, e = .returned (.int .i64 t) ∧ (t ≤ 1048576 → t0 + 48 * n ≤ t)) ∧ w' = w := by
  unfold maxLen at hn
  go_enter Try.func5, Try.ntmps5
  go_wp2
  go_loop [0, 5] (fun z i => ∃ k : Nat, k ≤ n ∧ i = .int .i64 k ∧ ∃ s : Int, t0 + 48 * k ≤ s ∧ s ≤ 1048576 ∧ z = .int .i64 s) (fun _ i => n - (intOf i).toNat)
  case atStart => exact ⟨0, Nat.zero_le _, rfl, t0, by omega, by omega, rfl⟩
  case round =>
    obtain ⟨k, hk, rfl, s, hs0, hs1, rfl⟩ := hrel
    by_cases hlt : k < n
    · obtain rfl := hA (by omega)
      have hc := hE.c5 k hlt
      have hl := hE.len k hlt
      unfold maxLen at hl
      clear hA hE
      go_wp2
      · go_ret
        exact ⟨⟨_, rfl, by omega⟩, rfl⟩
      · go_ret
        exact ⟨⟨_, rfl, by omega⟩, rfl⟩
      · go_round
        case rel => exact ⟨k + 1, by omega, by go_num, _, by omega, by omega, rfl⟩
        case measure => simp [intOf]; omega
    · go_wp2
      go_ret
      exact ⟨⟨_, rfl, by omega⟩, rfl⟩
end Go.Proofs.Qxb6615150a
