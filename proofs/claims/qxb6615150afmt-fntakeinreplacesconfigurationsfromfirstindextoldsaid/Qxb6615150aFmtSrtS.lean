import Derived.Test.Qxb6615150aFmtSrtQ
import Derived.Test.Qxb6615150aFmtSrtP
import Derived.Test.Qxb6615150aFmtSrtBP
import Derived.Test.Qxb6615150aFmtSrtC4
import Derived.Test.Qxb6615150aFmtSrtC
import Derived.Test.Qxb6615150aFmtSrtA6
import Derived.Test.Qxb6615150aFmtSrtA
import Derived.Sort.AssemblyPlain
import Derived.Sort.WalkA14
namespace Go.Proofs.Qxb6615150aFmt
open Go.RowKit Go.Sort

def pdqWalk_u64 : Prop := ∀ (blk off cap a b limit : Nat) (d : Array Int) (w : World), Holds (Value.int .u64) w blk off d → blk < w.heap.size → a ≤ b → b ≤ d.size → d.size < 4611686018427387904 → limit < 4611686018427387904 → Below ltInt a b d →
  Calls Tryf.prog 61 #[.slice (some ⟨blk, off, none⟩) d.size cap, .int .i64 a, .int .i64 b, .int .i64 limit] w fun e w' =>
    e = .returned (.tuple #[]) ∧ ∃ n os, w' = grow (putRow (Value.int .u64) (Sort.ahead w n) blk off (Sort.pdq ltInt d a b limit true true)) os

set_option maxRecDepth 100000 in
theorem srt_Sort_int (hpdq : pdqWalk_u64) (blk off cap : Nat) (d : Array Int) (w : World) (hH : Holds (Value.int .u64) w blk off d) (hblk : blk < w.heap.size) (hsz : d.size < 4611686018427387904) :
    Calls Tryf.prog 52 #[.slice (some ⟨blk, off, none⟩) d.size cap] w fun e w' => e = .returned (.tuple #[]) ∧ ∃ n os, w' = grow (putRow (Value.int .u64) (Sort.ahead w n) blk off (Sort.sort ltInt d)) os := by
  have HH : Hid (Holds (Value.int .u64) w blk off d) := hH
  clear hH
  have hLen : ∀ w, Calls Tryf.prog 62 #[.int .u64 (d.size : Int)] w fun e w' => e = .returned (.int .i64 (bitsLen d.size : Nat)) ∧ w' = w := fun w => by
    have h := Tryf.bits_Len (d.size : Int) w (by omega) (by omega)
    rwa [Int.toNat_natCast, bitLen_eq _ (by omega)] at h
  have hk : bitsLen d.size ≤ 62 := (bitsLen_le_iff d.size 62).2 (by omega)
  go_enter Tryf.func52, Tryf.ntmps52
  go_wp2_with (first
    | (go_at_call 62; refine (hLen _).mono ?_; rintro e w' ⟨rfl, rfl⟩)
    | (go_at_call 61; refine (hpdq blk off cap 0 d.size (bitsLen d.size) d _ (by exact HH.out) (by exact hblk) (Nat.zero_le _) (Nat.le_refl _) hsz (by omega) (Or.inl rfl)).mono ?_; rintro e w' ⟨rfl, n, os, rfl⟩))
  go_end0
  exact ⟨rfl, n, os, rfl⟩

theorem srt_insertionSort_int_nil (p : Option Addr) (cap : Nat) (w : World) :
    Calls Tryf.prog 68 #[.slice p 0 cap, .int .i64 0, .int .i64 0] w fun e w' => e = .returned (.tuple #[]) ∧ w' = w := by
  go_enter Tryf.func68, Tryf.ntmps68
  go_wp2
  refine wp_loop_rounds 1 ?_
  rw [rounds_succ]
  go_wp2
  go_end0
  exact ⟨rfl, rfl⟩

set_option maxRecDepth 100000 in
theorem srt_pdqsort_int_nil (p : Option Addr) (cap : Nat) (w : World) :
    Calls Tryf.prog 61 #[.slice p 0 cap, .int .i64 0, .int .i64 0, .int .i64 0] w fun e w' => e = .returned (.tuple #[]) ∧ w' = w := by
  go_enter Tryf.func61, Tryf.ntmps61
  go_wp2
  refine wp_loop_rounds 1 ?_
  rw [rounds_succ]
  go_wp2_with (first | (go_at_call 68; refine (srt_insertionSort_int_nil p cap _).mono ?_; rintro e w' ⟨rfl, rfl⟩))
  refine bodyPost_ret (results_none rfl _ _ _) rfl ?_      -- an explicit 'return' in a function without results
  exact ⟨rfl, rfl⟩

set_option maxRecDepth 100000 in
theorem srt_Sort_int_nil (p : Option Addr) (cap : Nat) (w : World) :
    Calls Tryf.prog 52 #[.slice p 0 cap] w fun e w' => e = .returned (.tuple #[]) ∧ w' = w := by
  have hLen : ∀ w, Calls Tryf.prog 62 #[.int .u64 0] w fun e w' => e = .returned (.int .i64 0) ∧ w' = w := fun w => Tryf.bits_Len 0 w (by omega) (by omega)
  go_enter Tryf.func52, Tryf.ntmps52
  go_wp2_with (first
    | (go_at_call 62; refine (hLen _).mono ?_; rintro e w' ⟨rfl, rfl⟩)
    | (go_at_call 61; refine (srt_pdqsort_int_nil p cap _).mono ?_; rintro e w' ⟨rfl, rfl⟩))
  go_end0
  exact ⟨rfl, rfl⟩

theorem callees13U : Callees13U where
  ins := srt_insertionSort_int
  brk := srt_breakPatterns_int
  piv := srt_choosePivot_int
  par := srt_partialInsertionSort_int
  peq := srt_partitionEqualOrdered_int
  prt := srt_partitionOrdered_int

theorem plain13U : Plain13 where
  swo := swo_ltInt
  ins := insertionSort_holds
  par := partialInsertionSort_holds
  prt := partition_holds _
  peq := partitionEqual_holds _
  pdq := pdq_sorts _

theorem pdqWalkU64 : pdqWalk_u64 := fun blk off cap a b limit d w hH hb hab hbd hsz hl hB =>
  srt_pdqsort_int callees13U plain13U (b - a + 1) blk off cap a b limit d w (by omega) hH hb hab hbd hsz hl hB

theorem sort_u64_eq (zs : List Int) : Sort.sort ltInt zs.toArray = (zs.mergeSort fun x y => decide (x ≤ y)).toArray := by
  rw [← sortInt zs]

/-- slices.Sort at []uint64: the cells then hold the numbers ascending. -/
theorem sort_any (blk off cap : Nat) (zs : List Int) (w : World) (hH : Holds (Value.int .u64) w blk off zs.toArray) (hblk : blk < w.heap.size) (hsz : zs.length < 4611686018427387904) :
    Calls Tryf.prog 52 #[.slice (some ⟨blk, off, none⟩) zs.length cap] w fun e w' =>
      e = .returned (.tuple #[]) ∧ ∃ n os, w' = grow (putRow (Value.int .u64) (Sort.ahead w n) blk off (zs.mergeSort fun x y => decide (x ≤ y)).toArray) os := by
  have h := srt_Sort_int pdqWalkU64 blk off cap zs.toArray w hH hblk (by simpa using hsz)
  rw [sort_u64_eq] at h
  simpa using h

end Go.Proofs.Qxb6615150aFmt
