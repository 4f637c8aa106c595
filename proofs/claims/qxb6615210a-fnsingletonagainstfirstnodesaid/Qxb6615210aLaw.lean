import Derived.Test.Qxb6615210aPoint
namespace Go.Proofs.Qxb6615210a
open Go.RowKit
set_option linter.unusedVariables false

set_option maxRecDepth 100000 in
set_option maxHeartbeats 1000000 in
theorem law_tt (p1 i1 g1 e1 s1 f1 p2 i2 g2 e2 s2 f2 : Int) (w : World)
    (hi1 : 0 ≤ i1) (hi1' : i1 ≤ 4294967295) (hg1 : 0 ≤ g1) (hg1' : g1 ≤ 65535) (he1 : 0 ≤ e1) (he1' : e1 ≤ 65535) (hs1 : 0 ≤ s1) (hs1' : s1 ≤ 4294967295) (hf1 : 0 ≤ f1) (hf1' : f1 ≤ 4294967295)
    (hi2 : 0 ≤ i2) (hi2' : i2 ≤ 4294967295) (hg2 : 0 ≤ g2) (hg2' : g2 ≤ 65535) (he2 : 0 ≤ e2) (he2' : e2 ≤ 65535) (hs2 : 0 ≤ s2) (hs2' : s2 ≤ 4294967295) (hf2 : 0 ≤ f2) (hf2' : f2 ≤ 4294967295)
    (ht1 : timeB s1 f1 = true) (ht2 : timeB s2 f2 = true) :
    Calls Try.prog 3 #[.int .u8 p1, .int .u32 i1, .int .u16 g1, .int .u16 e1, .int .u32 s1, .int .u32 f1, .int .u8 p2, .int .u32 i2, .int .u16 g2, .int .u16 e2, .int .u32 s2, .int .u32 f2] w
      fun e w' => e = .returned (.bool true) ∧ Below w.heap.size w w' := by
  have hff1 := (timeB_yes ht1).2
  have hff2 := (timeB_yes ht2).2
  go_enter Try.func3, Try.ntmps3
  go_wp2_with fail
  refine (zzPosix_t s1 f1 w hs1 hs1' hf1 ht1).mono ?_
  rintro e w1 ⟨rfl, hb1⟩
  go_wp2_with fail
  refine (holds_t s1 f1 _ hf1 ht1).mono ?_
  rintro e w1' ⟨rfl, hw1⟩
  subst hw1
  have hne : ((s1 * 1000000 + f1) != (s1 * 1000000 + f1)) = false := by simp
  go_wp2_with fail
  have hS := zzSingle_t (s1 * 1000000 + f1) p1 i1 g1 e1 s1 f1 w1' hs1 hs1' hf1 ht1 hi1 hi1' hg1 hg1' he1 he1' (by omega) (by omega)
  simp only [sing] at hS
  refine hS.mono ?_
  clear hS
  rintro e w2 ⟨rfl, hb2⟩
  go_wp2_with fail
  have hS := zzSingle_t (s1 * 1000000 + f1) p2 i2 g2 e2 s2 f2 (w2.alloc (Obj.cells #[.int .u64 i1, .int .u32 g1, .int .u32 e1, .int .i64 0, .bool false] 31)) hs2 hs2' hf2 ht2 hi2 hi2' hg2 hg2' he2 he2' (by omega) (by omega)
  simp only [sing] at hS
  refine hS.mono ?_
  clear hS
  rintro e w3 ⟨rfl, hb3⟩
  have c0 : w3.cell? ⟨w2.heap.size, 0, none⟩ = some (.int .u64 i1) := (hb3.cell (p := ⟨w2.heap.size, 0, none⟩) (by simp)).trans (by simp)
  have c1 : w3.cell? ⟨w2.heap.size, 1, none⟩ = some (.int .u32 g1) := (hb3.cell (p := ⟨w2.heap.size, 1, none⟩) (by simp)).trans (by simp)
  have c2 : w3.cell? ⟨w2.heap.size, 2, none⟩ = some (.int .u32 e1) := (hb3.cell (p := ⟨w2.heap.size, 2, none⟩) (by simp)).trans (by simp)
  have c3 : w3.cell? ⟨w2.heap.size, 3, none⟩ = some (.int .i64 0) := (hb3.cell (p := ⟨w2.heap.size, 3, none⟩) (by simp)).trans (by simp)
  have c4 : w3.cell? ⟨w2.heap.size, 4, none⟩ = some (.bool false) := (hb3.cell (p := ⟨w2.heap.size, 4, none⟩) (by simp)).trans (by simp)
  have hz3 : w2.heap.size < w3.heap.size := by have := hb3.size; simp at this; omega
  have hB3 : Hid (Below w.heap.size w w3) := ((hb1.trans (hb2.mono hb1.size)).alloc (Nat.le_trans hb1.size hb2.size) _).trans (hb3.mono (by have := hb1.size; have := hb2.size; simp; omega))
  have hs0 : w.heap.size ≤ w3.heap.size := hB3.out.size
  clear hb1 hb2 hb3
  go_wp2_with fail
  refine (point_yes i1 g1 e1 _ hi1 hi1' hg1 hg1' he1 he1').mono ?_
  rintro e w4 ⟨rfl, hb4⟩
  have d0 : w4.cell? ⟨w2.heap.size, 0, none⟩ = some (.int .u64 i1) := (hb4.cell (p := ⟨w2.heap.size, 0, none⟩) (by simp; omega)).trans (by simp [World.cell?_alloc_some, c0])
  have d1 : w4.cell? ⟨w2.heap.size, 1, none⟩ = some (.int .u32 g1) := (hb4.cell (p := ⟨w2.heap.size, 1, none⟩) (by simp; omega)).trans (by simp [World.cell?_alloc_some, c1])
  have d2 : w4.cell? ⟨w2.heap.size, 2, none⟩ = some (.int .u32 e1) := (hb4.cell (p := ⟨w2.heap.size, 2, none⟩) (by simp; omega)).trans (by simp [World.cell?_alloc_some, c2])
  have d3 : w4.cell? ⟨w2.heap.size, 3, none⟩ = some (.int .i64 0) := (hb4.cell (p := ⟨w2.heap.size, 3, none⟩) (by simp; omega)).trans (by simp [World.cell?_alloc_some, c3])
  have d4 : w4.cell? ⟨w2.heap.size, 4, none⟩ = some (.bool false) := (hb4.cell (p := ⟨w2.heap.size, 4, none⟩) (by simp; omega)).trans (by simp [World.cell?_alloc_some, c4])
  have k0 : w4.cell? ⟨w3.heap.size, 0, none⟩ = some (.int .u64 i2) := (hb4.cell (p := ⟨w3.heap.size, 0, none⟩) (by simp)).trans (by simp)
  have k1 : w4.cell? ⟨w3.heap.size, 1, none⟩ = some (.int .u32 g2) := (hb4.cell (p := ⟨w3.heap.size, 1, none⟩) (by simp)).trans (by simp)
  have k2 : w4.cell? ⟨w3.heap.size, 2, none⟩ = some (.int .u32 e2) := (hb4.cell (p := ⟨w3.heap.size, 2, none⟩) (by simp)).trans (by simp)
  have k3 : w4.cell? ⟨w3.heap.size, 3, none⟩ = some (.int .i64 (s2 * 1000000 + f2 - (s1 * 1000000 + f1))) := (hb4.cell (p := ⟨w3.heap.size, 3, none⟩) (by simp)).trans (by simp)
  have k4 : w4.cell? ⟨w3.heap.size, 4, none⟩ = some (.bool false) := (hb4.cell (p := ⟨w3.heap.size, 4, none⟩) (by simp)).trans (by simp)
  have hz4 : w3.heap.size < w4.heap.size := by have := hb4.size; simp at this; omega
  have hB4 : Hid (Below w.heap.size w w4) := (hB3.out.alloc hs0 _).trans (hb4.mono (by simp; omega))
  clear hb4 hB3 c0 c1 c2 c3 c4
  go_wp2_with fail
  refine (point_yes i2 g2 e2 _ hi2 hi2' hg2 hg2' he2 he2').mono ?_
  rintro e w5 ⟨rfl, hb5⟩
  have c0 : w5.cell? ⟨w2.heap.size, 0, none⟩ = some (.int .u64 i1) := (hb5.cell (p := ⟨w2.heap.size, 0, none⟩) (Nat.lt_trans hz3 hz4)).trans d0
  have c1 : w5.cell? ⟨w2.heap.size, 1, none⟩ = some (.int .u32 g1) := (hb5.cell (p := ⟨w2.heap.size, 1, none⟩) (Nat.lt_trans hz3 hz4)).trans d1
  have c2 : w5.cell? ⟨w2.heap.size, 2, none⟩ = some (.int .u32 e1) := (hb5.cell (p := ⟨w2.heap.size, 2, none⟩) (Nat.lt_trans hz3 hz4)).trans d2
  have c3 : w5.cell? ⟨w2.heap.size, 3, none⟩ = some (.int .i64 0) := (hb5.cell (p := ⟨w2.heap.size, 3, none⟩) (Nat.lt_trans hz3 hz4)).trans d3
  have c4 : w5.cell? ⟨w2.heap.size, 4, none⟩ = some (.bool false) := (hb5.cell (p := ⟨w2.heap.size, 4, none⟩) (Nat.lt_trans hz3 hz4)).trans d4
  have m0 : w5.cell? ⟨w3.heap.size, 0, none⟩ = some (.int .u64 i2) := (hb5.cell (p := ⟨w3.heap.size, 0, none⟩) hz4).trans k0
  have m1 : w5.cell? ⟨w3.heap.size, 1, none⟩ = some (.int .u32 g2) := (hb5.cell (p := ⟨w3.heap.size, 1, none⟩) hz4).trans k1
  have m2 : w5.cell? ⟨w3.heap.size, 2, none⟩ = some (.int .u32 e2) := (hb5.cell (p := ⟨w3.heap.size, 2, none⟩) hz4).trans k2
  have m3 : w5.cell? ⟨w3.heap.size, 3, none⟩ = some (.int .i64 (s2 * 1000000 + f2 - (s1 * 1000000 + f1))) := (hb5.cell (p := ⟨w3.heap.size, 3, none⟩) hz4).trans k3
  have m4 : w5.cell? ⟨w3.heap.size, 4, none⟩ = some (.bool false) := (hb5.cell (p := ⟨w3.heap.size, 4, none⟩) hz4).trans k4
  have hz5 : w4.heap.size ≤ w5.heap.size := hb5.size
  have hB5 : Hid (Below w.heap.size w w5) := hB4.out.trans (hb5.mono (by omega))
  clear hb5 hB4 d0 d1 d2 d3 d4 k0 k1 k2 k3 k4
  go_wp2_with fail
  refine (holds_t s2 f2 _ hf2 ht2).mono ?_
  rintro e w6 ⟨rfl, hw6⟩
  subst hw6
  have heq : ((s2 * 1000000 + f2 - (s1 * 1000000 + f1)) == ((s2 - s1) * 1000000 + (f2 - f1))) = true := by rw [beq_iff_eq]; omega
  go_wp2_with fail
  go_ret
  exact ⟨rfl, hB5.out⟩

set_option maxRecDepth 100000 in
set_option maxHeartbeats 1000000 in
theorem law_tf (p1 i1 g1 e1 s1 f1 p2 i2 g2 e2 s2 f2 : Int) (w : World)
    (hi1 : 0 ≤ i1) (hi1' : i1 ≤ 4294967295) (hg1 : 0 ≤ g1) (hg1' : g1 ≤ 65535) (he1 : 0 ≤ e1) (he1' : e1 ≤ 65535) (hs1 : 0 ≤ s1) (hs1' : s1 ≤ 4294967295) (hf1 : 0 ≤ f1) (hf1' : f1 ≤ 4294967295)
    (hi2 : 0 ≤ i2) (hi2' : i2 ≤ 4294967295) (hg2 : 0 ≤ g2) (hg2' : g2 ≤ 65535) (he2 : 0 ≤ e2) (he2' : e2 ≤ 65535) (hs2 : 0 ≤ s2) (hs2' : s2 ≤ 4294967295) (hf2 : 0 ≤ f2) (hf2' : f2 ≤ 4294967295)
    (ht1 : timeB s1 f1 = true) (ht2 : timeB s2 f2 = false) :
    Calls Try.prog 3 #[.int .u8 p1, .int .u32 i1, .int .u16 g1, .int .u16 e1, .int .u32 s1, .int .u32 f1, .int .u8 p2, .int .u32 i2, .int .u16 g2, .int .u16 e2, .int .u32 s2, .int .u32 f2] w
      fun e w' => e = .returned (.bool true) ∧ Below w.heap.size w w' := by
  have hff1 := (timeB_yes ht1).2
  go_enter Try.func3, Try.ntmps3
  go_wp2_with fail
  refine (zzPosix_t s1 f1 w hs1 hs1' hf1 ht1).mono ?_
  rintro e w1 ⟨rfl, hb1⟩
  go_wp2_with fail
  refine (holds_t s1 f1 _ hf1 ht1).mono ?_
  rintro e w1' ⟨rfl, hw1⟩
  subst hw1
  have hne : ((s1 * 1000000 + f1) != (s1 * 1000000 + f1)) = false := by simp
  go_wp2_with fail
  have hS := zzSingle_t (s1 * 1000000 + f1) p1 i1 g1 e1 s1 f1 w1' hs1 hs1' hf1 ht1 hi1 hi1' hg1 hg1' he1 he1' (by omega) (by omega)
  simp only [sing] at hS
  refine hS.mono ?_
  clear hS
  rintro e w2 ⟨rfl, hb2⟩
  go_wp2_with fail
  have hS := zzSingle_n (s1 * 1000000 + f1) true p2 i2 g2 e2 s2 f2 (w2.alloc (Obj.cells #[.int .u64 i1, .int .u32 g1, .int .u32 e1, .int .i64 0, .bool false] 31)) ht2 hi2 hi2' hg2 hg2' he2 he2'
  simp only [sing] at hS
  refine hS.mono ?_
  clear hS
  rintro e w3 ⟨rfl, hb3⟩
  have c0 : w3.cell? ⟨w2.heap.size, 0, none⟩ = some (.int .u64 i1) := (hb3.cell (p := ⟨w2.heap.size, 0, none⟩) (by simp)).trans (by simp)
  have c1 : w3.cell? ⟨w2.heap.size, 1, none⟩ = some (.int .u32 g1) := (hb3.cell (p := ⟨w2.heap.size, 1, none⟩) (by simp)).trans (by simp)
  have c2 : w3.cell? ⟨w2.heap.size, 2, none⟩ = some (.int .u32 e1) := (hb3.cell (p := ⟨w2.heap.size, 2, none⟩) (by simp)).trans (by simp)
  have c3 : w3.cell? ⟨w2.heap.size, 3, none⟩ = some (.int .i64 0) := (hb3.cell (p := ⟨w2.heap.size, 3, none⟩) (by simp)).trans (by simp)
  have c4 : w3.cell? ⟨w2.heap.size, 4, none⟩ = some (.bool false) := (hb3.cell (p := ⟨w2.heap.size, 4, none⟩) (by simp)).trans (by simp)
  have hz3 : w2.heap.size < w3.heap.size := by have := hb3.size; simp at this; omega
  have hB3 : Hid (Below w.heap.size w w3) := ((hb1.trans (hb2.mono hb1.size)).alloc (Nat.le_trans hb1.size hb2.size) _).trans (hb3.mono (by have := hb1.size; have := hb2.size; simp; omega))
  have hs0 : w.heap.size ≤ w3.heap.size := hB3.out.size
  clear hb1 hb2 hb3
  go_wp2_with fail
  refine (point_yes i1 g1 e1 _ hi1 hi1' hg1 hg1' he1 he1').mono ?_
  rintro e w4 ⟨rfl, hb4⟩
  have d0 : w4.cell? ⟨w2.heap.size, 0, none⟩ = some (.int .u64 i1) := (hb4.cell (p := ⟨w2.heap.size, 0, none⟩) (by simp; omega)).trans (by simp [World.cell?_alloc_some, c0])
  have d1 : w4.cell? ⟨w2.heap.size, 1, none⟩ = some (.int .u32 g1) := (hb4.cell (p := ⟨w2.heap.size, 1, none⟩) (by simp; omega)).trans (by simp [World.cell?_alloc_some, c1])
  have d2 : w4.cell? ⟨w2.heap.size, 2, none⟩ = some (.int .u32 e1) := (hb4.cell (p := ⟨w2.heap.size, 2, none⟩) (by simp; omega)).trans (by simp [World.cell?_alloc_some, c2])
  have d3 : w4.cell? ⟨w2.heap.size, 3, none⟩ = some (.int .i64 0) := (hb4.cell (p := ⟨w2.heap.size, 3, none⟩) (by simp; omega)).trans (by simp [World.cell?_alloc_some, c3])
  have d4 : w4.cell? ⟨w2.heap.size, 4, none⟩ = some (.bool false) := (hb4.cell (p := ⟨w2.heap.size, 4, none⟩) (by simp; omega)).trans (by simp [World.cell?_alloc_some, c4])
  have k0 : w4.cell? ⟨w3.heap.size, 0, none⟩ = some (.int .u64 i2) := (hb4.cell (p := ⟨w3.heap.size, 0, none⟩) (by simp)).trans (by simp)
  have k1 : w4.cell? ⟨w3.heap.size, 1, none⟩ = some (.int .u32 g2) := (hb4.cell (p := ⟨w3.heap.size, 1, none⟩) (by simp)).trans (by simp)
  have k2 : w4.cell? ⟨w3.heap.size, 2, none⟩ = some (.int .u32 e2) := (hb4.cell (p := ⟨w3.heap.size, 2, none⟩) (by simp)).trans (by simp)
  have k3 : w4.cell? ⟨w3.heap.size, 3, none⟩ = some (.int .i64 0) := (hb4.cell (p := ⟨w3.heap.size, 3, none⟩) (by simp)).trans (by simp)
  have k4 : w4.cell? ⟨w3.heap.size, 4, none⟩ = some (.bool true) := (hb4.cell (p := ⟨w3.heap.size, 4, none⟩) (by simp)).trans (by simp)
  have hz4 : w3.heap.size < w4.heap.size := by have := hb4.size; simp at this; omega
  have hB4 : Hid (Below w.heap.size w w4) := (hB3.out.alloc hs0 _).trans (hb4.mono (by simp; omega))
  clear hb4 hB3 c0 c1 c2 c3 c4
  go_wp2_with fail
  refine (point_yes i2 g2 e2 _ hi2 hi2' hg2 hg2' he2 he2').mono ?_
  rintro e w5 ⟨rfl, hb5⟩
  have c0 : w5.cell? ⟨w2.heap.size, 0, none⟩ = some (.int .u64 i1) := (hb5.cell (p := ⟨w2.heap.size, 0, none⟩) (Nat.lt_trans hz3 hz4)).trans d0
  have c1 : w5.cell? ⟨w2.heap.size, 1, none⟩ = some (.int .u32 g1) := (hb5.cell (p := ⟨w2.heap.size, 1, none⟩) (Nat.lt_trans hz3 hz4)).trans d1
  have c2 : w5.cell? ⟨w2.heap.size, 2, none⟩ = some (.int .u32 e1) := (hb5.cell (p := ⟨w2.heap.size, 2, none⟩) (Nat.lt_trans hz3 hz4)).trans d2
  have c3 : w5.cell? ⟨w2.heap.size, 3, none⟩ = some (.int .i64 0) := (hb5.cell (p := ⟨w2.heap.size, 3, none⟩) (Nat.lt_trans hz3 hz4)).trans d3
  have c4 : w5.cell? ⟨w2.heap.size, 4, none⟩ = some (.bool false) := (hb5.cell (p := ⟨w2.heap.size, 4, none⟩) (Nat.lt_trans hz3 hz4)).trans d4
  have m0 : w5.cell? ⟨w3.heap.size, 0, none⟩ = some (.int .u64 i2) := (hb5.cell (p := ⟨w3.heap.size, 0, none⟩) hz4).trans k0
  have m1 : w5.cell? ⟨w3.heap.size, 1, none⟩ = some (.int .u32 g2) := (hb5.cell (p := ⟨w3.heap.size, 1, none⟩) hz4).trans k1
  have m2 : w5.cell? ⟨w3.heap.size, 2, none⟩ = some (.int .u32 e2) := (hb5.cell (p := ⟨w3.heap.size, 2, none⟩) hz4).trans k2
  have m3 : w5.cell? ⟨w3.heap.size, 3, none⟩ = some (.int .i64 0) := (hb5.cell (p := ⟨w3.heap.size, 3, none⟩) hz4).trans k3
  have m4 : w5.cell? ⟨w3.heap.size, 4, none⟩ = some (.bool true) := (hb5.cell (p := ⟨w3.heap.size, 4, none⟩) hz4).trans k4
  have hz5 : w4.heap.size ≤ w5.heap.size := hb5.size
  have hB5 : Hid (Below w.heap.size w w5) := hB4.out.trans (hb5.mono (by omega))
  clear hb5 hB4 d0 d1 d2 d3 d4 k0 k1 k2 k3 k4
  go_wp2_with fail
  refine (holds_f s2 f2 _ hf2' ht2).mono ?_
  rintro e w6 ⟨rfl, hw6⟩
  subst hw6
  go_wp2_with fail
  have hU := undef_yes i2 g2 e2 w6
  simp only [sing] at hU
  refine hU.mono ?_
  clear hU
  rintro e w7 ⟨rfl, hb7⟩
  go_wp2_with fail
  go_ret
  exact ⟨rfl, hB5.out.trans (hb7.mono (by omega))⟩

set_option maxRecDepth 100000 in
set_option maxHeartbeats 1000000 in
theorem law_ft (p1 i1 g1 e1 s1 f1 p2 i2 g2 e2 s2 f2 : Int) (w : World)
    (hi1 : 0 ≤ i1) (hi1' : i1 ≤ 4294967295) (hg1 : 0 ≤ g1) (hg1' : g1 ≤ 65535) (he1 : 0 ≤ e1) (he1' : e1 ≤ 65535) (hs1 : 0 ≤ s1) (hs1' : s1 ≤ 4294967295) (hf1 : 0 ≤ f1) (hf1' : f1 ≤ 4294967295)
    (hi2 : 0 ≤ i2) (hi2' : i2 ≤ 4294967295) (hg2 : 0 ≤ g2) (hg2' : g2 ≤ 65535) (he2 : 0 ≤ e2) (he2' : e2 ≤ 65535) (hs2 : 0 ≤ s2) (hs2' : s2 ≤ 4294967295) (hf2 : 0 ≤ f2) (hf2' : f2 ≤ 4294967295)
    (ht1 : timeB s1 f1 = false) (ht2 : timeB s2 f2 = true) :
    Calls Try.prog 3 #[.int .u8 p1, .int .u32 i1, .int .u16 g1, .int .u16 e1, .int .u32 s1, .int .u32 f1, .int .u8 p2, .int .u32 i2, .int .u16 g2, .int .u16 e2, .int .u32 s2, .int .u32 f2] w
      fun e w' => e = .returned (.bool true) ∧ Below w.heap.size w w' := by
  have hff2 := (timeB_yes ht2).2
  go_enter Try.func3, Try.ntmps3
  go_wp2_with fail
  refine (zzPosix_f s1 f1 w ht1).mono ?_
  rintro e w1 ⟨rfl, hb1⟩
  go_wp2_with fail
  refine (holds_f s1 f1 _ hf1' ht1).mono ?_
  rintro e w1' ⟨rfl, hw1⟩
  subst hw1
  go_wp2_with fail
  have hS := zzSingle_n 0 false p1 i1 g1 e1 s1 f1 w1' ht1 hi1 hi1' hg1 hg1' he1 he1'
  simp only [sing] at hS
  refine hS.mono ?_
  clear hS
  rintro e w2 ⟨rfl, hb2⟩
  go_wp2_with fail
  have hS := zzSingle_x 0 p2 i2 g2 e2 s2 f2 (w2.alloc (Obj.cells #[.int .u64 i1, .int .u32 g1, .int .u32 e1, .int .i64 0, .bool true] 31)) hs2 hs2' hf2 ht2 hi2 hi2' hg2 hg2' he2 he2'
  simp only [sing] at hS
  refine hS.mono ?_
  clear hS
  rintro e w3 ⟨rfl, hb3⟩
  have c0 : w3.cell? ⟨w2.heap.size, 0, none⟩ = some (.int .u64 i1) := (hb3.cell (p := ⟨w2.heap.size, 0, none⟩) (by simp)).trans (by simp)
  have c1 : w3.cell? ⟨w2.heap.size, 1, none⟩ = some (.int .u32 g1) := (hb3.cell (p := ⟨w2.heap.size, 1, none⟩) (by simp)).trans (by simp)
  have c2 : w3.cell? ⟨w2.heap.size, 2, none⟩ = some (.int .u32 e1) := (hb3.cell (p := ⟨w2.heap.size, 2, none⟩) (by simp)).trans (by simp)
  have c3 : w3.cell? ⟨w2.heap.size, 3, none⟩ = some (.int .i64 0) := (hb3.cell (p := ⟨w2.heap.size, 3, none⟩) (by simp)).trans (by simp)
  have c4 : w3.cell? ⟨w2.heap.size, 4, none⟩ = some (.bool true) := (hb3.cell (p := ⟨w2.heap.size, 4, none⟩) (by simp)).trans (by simp)
  have hz3 : w2.heap.size < w3.heap.size := by have := hb3.size; simp at this; omega
  have hB3 : Hid (Below w.heap.size w w3) := ((hb1.trans (hb2.mono hb1.size)).alloc (Nat.le_trans hb1.size hb2.size) _).trans (hb3.mono (by have := hb1.size; have := hb2.size; simp; omega))
  have hs0 : w.heap.size ≤ w3.heap.size := hB3.out.size
  clear hb1 hb2 hb3
  go_wp2_with fail
  refine (point_yes i1 g1 e1 _ hi1 hi1' hg1 hg1' he1 he1').mono ?_
  rintro e w4 ⟨rfl, hb4⟩
  have d0 : w4.cell? ⟨w2.heap.size, 0, none⟩ = some (.int .u64 i1) := (hb4.cell (p := ⟨w2.heap.size, 0, none⟩) (by simp; omega)).trans (by simp [World.cell?_alloc_some, c0])
  have d1 : w4.cell? ⟨w2.heap.size, 1, none⟩ = some (.int .u32 g1) := (hb4.cell (p := ⟨w2.heap.size, 1, none⟩) (by simp; omega)).trans (by simp [World.cell?_alloc_some, c1])
  have d2 : w4.cell? ⟨w2.heap.size, 2, none⟩ = some (.int .u32 e1) := (hb4.cell (p := ⟨w2.heap.size, 2, none⟩) (by simp; omega)).trans (by simp [World.cell?_alloc_some, c2])
  have d3 : w4.cell? ⟨w2.heap.size, 3, none⟩ = some (.int .i64 0) := (hb4.cell (p := ⟨w2.heap.size, 3, none⟩) (by simp; omega)).trans (by simp [World.cell?_alloc_some, c3])
  have d4 : w4.cell? ⟨w2.heap.size, 4, none⟩ = some (.bool true) := (hb4.cell (p := ⟨w2.heap.size, 4, none⟩) (by simp; omega)).trans (by simp [World.cell?_alloc_some, c4])
  have k0 : w4.cell? ⟨w3.heap.size, 0, none⟩ = some (.int .u64 i2) := (hb4.cell (p := ⟨w3.heap.size, 0, none⟩) (by simp)).trans (by simp)
  have k1 : w4.cell? ⟨w3.heap.size, 1, none⟩ = some (.int .u32 g2) := (hb4.cell (p := ⟨w3.heap.size, 1, none⟩) (by simp)).trans (by simp)
  have k2 : w4.cell? ⟨w3.heap.size, 2, none⟩ = some (.int .u32 e2) := (hb4.cell (p := ⟨w3.heap.size, 2, none⟩) (by simp)).trans (by simp)
  have k3 : w4.cell? ⟨w3.heap.size, 3, none⟩ = some (.int .i64 0) := (hb4.cell (p := ⟨w3.heap.size, 3, none⟩) (by simp)).trans (by simp)
  have k4 : w4.cell? ⟨w3.heap.size, 4, none⟩ = some (.bool true) := (hb4.cell (p := ⟨w3.heap.size, 4, none⟩) (by simp)).trans (by simp)
  have hz4 : w3.heap.size < w4.heap.size := by have := hb4.size; simp at this; omega
  have hB4 : Hid (Below w.heap.size w w4) := (hB3.out.alloc hs0 _).trans (hb4.mono (by simp; omega))
  clear hb4 hB3 c0 c1 c2 c3 c4
  go_wp2_with fail
  refine (point_yes i2 g2 e2 _ hi2 hi2' hg2 hg2' he2 he2').mono ?_
  rintro e w5 ⟨rfl, hb5⟩
  have c0 : w5.cell? ⟨w2.heap.size, 0, none⟩ = some (.int .u64 i1) := (hb5.cell (p := ⟨w2.heap.size, 0, none⟩) (Nat.lt_trans hz3 hz4)).trans d0
  have c1 : w5.cell? ⟨w2.heap.size, 1, none⟩ = some (.int .u32 g1) := (hb5.cell (p := ⟨w2.heap.size, 1, none⟩) (Nat.lt_trans hz3 hz4)).trans d1
  have c2 : w5.cell? ⟨w2.heap.size, 2, none⟩ = some (.int .u32 e1) := (hb5.cell (p := ⟨w2.heap.size, 2, none⟩) (Nat.lt_trans hz3 hz4)).trans d2
  have c3 : w5.cell? ⟨w2.heap.size, 3, none⟩ = some (.int .i64 0) := (hb5.cell (p := ⟨w2.heap.size, 3, none⟩) (Nat.lt_trans hz3 hz4)).trans d3
  have c4 : w5.cell? ⟨w2.heap.size, 4, none⟩ = some (.bool true) := (hb5.cell (p := ⟨w2.heap.size, 4, none⟩) (Nat.lt_trans hz3 hz4)).trans d4
  have m0 : w5.cell? ⟨w3.heap.size, 0, none⟩ = some (.int .u64 i2) := (hb5.cell (p := ⟨w3.heap.size, 0, none⟩) hz4).trans k0
  have m1 : w5.cell? ⟨w3.heap.size, 1, none⟩ = some (.int .u32 g2) := (hb5.cell (p := ⟨w3.heap.size, 1, none⟩) hz4).trans k1
  have m2 : w5.cell? ⟨w3.heap.size, 2, none⟩ = some (.int .u32 e2) := (hb5.cell (p := ⟨w3.heap.size, 2, none⟩) hz4).trans k2
  have m3 : w5.cell? ⟨w3.heap.size, 3, none⟩ = some (.int .i64 0) := (hb5.cell (p := ⟨w3.heap.size, 3, none⟩) hz4).trans k3
  have m4 : w5.cell? ⟨w3.heap.size, 4, none⟩ = some (.bool true) := (hb5.cell (p := ⟨w3.heap.size, 4, none⟩) hz4).trans k4
  have hz5 : w4.heap.size ≤ w5.heap.size := hb5.size
  have hB5 : Hid (Below w.heap.size w w5) := hB4.out.trans (hb5.mono (by omega))
  clear hb5 hB4 d0 d1 d2 d3 d4 k0 k1 k2 k3 k4
  go_wp2_with fail
  have hU := undef_yes i1 g1 e1 w5
  simp only [sing] at hU
  refine hU.mono ?_
  clear hU
  rintro e w6 ⟨rfl, hb6⟩
  have k0 : w6.cell? ⟨w3.heap.size, 0, none⟩ = some (.int .u64 i2) := (hb6.cell (p := ⟨w3.heap.size, 0, none⟩) (Nat.lt_of_lt_of_le hz4 hz5)).trans m0
  have k1 : w6.cell? ⟨w3.heap.size, 1, none⟩ = some (.int .u32 g2) := (hb6.cell (p := ⟨w3.heap.size, 1, none⟩) (Nat.lt_of_lt_of_le hz4 hz5)).trans m1
  have k2 : w6.cell? ⟨w3.heap.size, 2, none⟩ = some (.int .u32 e2) := (hb6.cell (p := ⟨w3.heap.size, 2, none⟩) (Nat.lt_of_lt_of_le hz4 hz5)).trans m2
  have k3 : w6.cell? ⟨w3.heap.size, 3, none⟩ = some (.int .i64 0) := (hb6.cell (p := ⟨w3.heap.size, 3, none⟩) (Nat.lt_of_lt_of_le hz4 hz5)).trans m3
  have k4 : w6.cell? ⟨w3.heap.size, 4, none⟩ = some (.bool true) := (hb6.cell (p := ⟨w3.heap.size, 4, none⟩) (Nat.lt_of_lt_of_le hz4 hz5)).trans m4
  have hz6 : w5.heap.size ≤ w6.heap.size := hb6.size
  have hB6 : Hid (Below w.heap.size w w6) := hB5.out.trans (hb6.mono (by omega))
  clear hb6 hB5 m0 m1 m2 m3 m4
  go_wp2_with fail
  have hU := undef_yes i2 g2 e2 w6
  simp only [sing] at hU
  refine hU.mono ?_
  clear hU
  rintro e w7 ⟨rfl, hb7⟩
  go_wp2_with fail
  go_ret
  exact ⟨rfl, hB6.out.trans (hb7.mono (by omega))⟩

set_option maxRecDepth 100000 in
set_option maxHeartbeats 1000000 in
theorem law_ff (p1 i1 g1 e1 s1 f1 p2 i2 g2 e2 s2 f2 : Int) (w : World)
    (hi1 : 0 ≤ i1) (hi1' : i1 ≤ 4294967295) (hg1 : 0 ≤ g1) (hg1' : g1 ≤ 65535) (he1 : 0 ≤ e1) (he1' : e1 ≤ 65535) (hs1 : 0 ≤ s1) (hs1' : s1 ≤ 4294967295) (hf1 : 0 ≤ f1) (hf1' : f1 ≤ 4294967295)
    (hi2 : 0 ≤ i2) (hi2' : i2 ≤ 4294967295) (hg2 : 0 ≤ g2) (hg2' : g2 ≤ 65535) (he2 : 0 ≤ e2) (he2' : e2 ≤ 65535) (hs2 : 0 ≤ s2) (hs2' : s2 ≤ 4294967295) (hf2 : 0 ≤ f2) (hf2' : f2 ≤ 4294967295)
    (ht1 : timeB s1 f1 = false) (ht2 : timeB s2 f2 = false) :
    Calls Try.prog 3 #[.int .u8 p1, .int .u32 i1, .int .u16 g1, .int .u16 e1, .int .u32 s1, .int .u32 f1, .int .u8 p2, .int .u32 i2, .int .u16 g2, .int .u16 e2, .int .u32 s2, .int .u32 f2] w
      fun e w' => e = .returned (.bool true) ∧ Below w.heap.size w w' := by
  go_enter Try.func3, Try.ntmps3
  go_wp2_with fail
  refine (zzPosix_f s1 f1 w ht1).mono ?_
  rintro e w1 ⟨rfl, hb1⟩
  go_wp2_with fail
  refine (holds_f s1 f1 _ hf1' ht1).mono ?_
  rintro e w1' ⟨rfl, hw1⟩
  subst hw1
  go_wp2_with fail
  have hS := zzSingle_n 0 false p1 i1 g1 e1 s1 f1 w1' ht1 hi1 hi1' hg1 hg1' he1 he1'
  simp only [sing] at hS
  refine hS.mono ?_
  clear hS
  rintro e w2 ⟨rfl, hb2⟩
  go_wp2_with fail
  have hS := zzSingle_n 0 false p2 i2 g2 e2 s2 f2 (w2.alloc (Obj.cells #[.int .u64 i1, .int .u32 g1, .int .u32 e1, .int .i64 0, .bool true] 31)) ht2 hi2 hi2' hg2 hg2' he2 he2'
  simp only [sing] at hS
  refine hS.mono ?_
  clear hS
  rintro e w3 ⟨rfl, hb3⟩
  have c0 : w3.cell? ⟨w2.heap.size, 0, none⟩ = some (.int .u64 i1) := (hb3.cell (p := ⟨w2.heap.size, 0, none⟩) (by simp)).trans (by simp)
  have c1 : w3.cell? ⟨w2.heap.size, 1, none⟩ = some (.int .u32 g1) := (hb3.cell (p := ⟨w2.heap.size, 1, none⟩) (by simp)).trans (by simp)
  have c2 : w3.cell? ⟨w2.heap.size, 2, none⟩ = some (.int .u32 e1) := (hb3.cell (p := ⟨w2.heap.size, 2, none⟩) (by simp)).trans (by simp)
  have c3 : w3.cell? ⟨w2.heap.size, 3, none⟩ = some (.int .i64 0) := (hb3.cell (p := ⟨w2.heap.size, 3, none⟩) (by simp)).trans (by simp)
  have c4 : w3.cell? ⟨w2.heap.size, 4, none⟩ = some (.bool true) := (hb3.cell (p := ⟨w2.heap.size, 4, none⟩) (by simp)).trans (by simp)
  have hz3 : w2.heap.size < w3.heap.size := by have := hb3.size; simp at this; omega
  have hB3 : Hid (Below w.heap.size w w3) := ((hb1.trans (hb2.mono hb1.size)).alloc (Nat.le_trans hb1.size hb2.size) _).trans (hb3.mono (by have := hb1.size; have := hb2.size; simp; omega))
  have hs0 : w.heap.size ≤ w3.heap.size := hB3.out.size
  clear hb1 hb2 hb3
  go_wp2_with fail
  refine (point_yes i1 g1 e1 _ hi1 hi1' hg1 hg1' he1 he1').mono ?_
  rintro e w4 ⟨rfl, hb4⟩
  have d0 : w4.cell? ⟨w2.heap.size, 0, none⟩ = some (.int .u64 i1) := (hb4.cell (p := ⟨w2.heap.size, 0, none⟩) (by simp; omega)).trans (by simp [World.cell?_alloc_some, c0])
  have d1 : w4.cell? ⟨w2.heap.size, 1, none⟩ = some (.int .u32 g1) := (hb4.cell (p := ⟨w2.heap.size, 1, none⟩) (by simp; omega)).trans (by simp [World.cell?_alloc_some, c1])
  have d2 : w4.cell? ⟨w2.heap.size, 2, none⟩ = some (.int .u32 e1) := (hb4.cell (p := ⟨w2.heap.size, 2, none⟩) (by simp; omega)).trans (by simp [World.cell?_alloc_some, c2])
  have d3 : w4.cell? ⟨w2.heap.size, 3, none⟩ = some (.int .i64 0) := (hb4.cell (p := ⟨w2.heap.size, 3, none⟩) (by simp; omega)).trans (by simp [World.cell?_alloc_some, c3])
  have d4 : w4.cell? ⟨w2.heap.size, 4, none⟩ = some (.bool true) := (hb4.cell (p := ⟨w2.heap.size, 4, none⟩) (by simp; omega)).trans (by simp [World.cell?_alloc_some, c4])
  have k0 : w4.cell? ⟨w3.heap.size, 0, none⟩ = some (.int .u64 i2) := (hb4.cell (p := ⟨w3.heap.size, 0, none⟩) (by simp)).trans (by simp)
  have k1 : w4.cell? ⟨w3.heap.size, 1, none⟩ = some (.int .u32 g2) := (hb4.cell (p := ⟨w3.heap.size, 1, none⟩) (by simp)).trans (by simp)
  have k2 : w4.cell? ⟨w3.heap.size, 2, none⟩ = some (.int .u32 e2) := (hb4.cell (p := ⟨w3.heap.size, 2, none⟩) (by simp)).trans (by simp)
  have k3 : w4.cell? ⟨w3.heap.size, 3, none⟩ = some (.int .i64 0) := (hb4.cell (p := ⟨w3.heap.size, 3, none⟩) (by simp)).trans (by simp)
  have k4 : w4.cell? ⟨w3.heap.size, 4, none⟩ = some (.bool true) := (hb4.cell (p := ⟨w3.heap.size, 4, none⟩) (by simp)).trans (by simp)
  have hz4 : w3.heap.size < w4.heap.size := by have := hb4.size; simp at this; omega
  have hB4 : Hid (Below w.heap.size w w4) := (hB3.out.alloc hs0 _).trans (hb4.mono (by simp; omega))
  clear hb4 hB3 c0 c1 c2 c3 c4
  go_wp2_with fail
  refine (point_yes i2 g2 e2 _ hi2 hi2' hg2 hg2' he2 he2').mono ?_
  rintro e w5 ⟨rfl, hb5⟩
  have c0 : w5.cell? ⟨w2.heap.size, 0, none⟩ = some (.int .u64 i1) := (hb5.cell (p := ⟨w2.heap.size, 0, none⟩) (Nat.lt_trans hz3 hz4)).trans d0
  have c1 : w5.cell? ⟨w2.heap.size, 1, none⟩ = some (.int .u32 g1) := (hb5.cell (p := ⟨w2.heap.size, 1, none⟩) (Nat.lt_trans hz3 hz4)).trans d1
  have c2 : w5.cell? ⟨w2.heap.size, 2, none⟩ = some (.int .u32 e1) := (hb5.cell (p := ⟨w2.heap.size, 2, none⟩) (Nat.lt_trans hz3 hz4)).trans d2
  have c3 : w5.cell? ⟨w2.heap.size, 3, none⟩ = some (.int .i64 0) := (hb5.cell (p := ⟨w2.heap.size, 3, none⟩) (Nat.lt_trans hz3 hz4)).trans d3
  have c4 : w5.cell? ⟨w2.heap.size, 4, none⟩ = some (.bool true) := (hb5.cell (p := ⟨w2.heap.size, 4, none⟩) (Nat.lt_trans hz3 hz4)).trans d4
  have m0 : w5.cell? ⟨w3.heap.size, 0, none⟩ = some (.int .u64 i2) := (hb5.cell (p := ⟨w3.heap.size, 0, none⟩) hz4).trans k0
  have m1 : w5.cell? ⟨w3.heap.size, 1, none⟩ = some (.int .u32 g2) := (hb5.cell (p := ⟨w3.heap.size, 1, none⟩) hz4).trans k1
  have m2 : w5.cell? ⟨w3.heap.size, 2, none⟩ = some (.int .u32 e2) := (hb5.cell (p := ⟨w3.heap.size, 2, none⟩) hz4).trans k2
  have m3 : w5.cell? ⟨w3.heap.size, 3, none⟩ = some (.int .i64 0) := (hb5.cell (p := ⟨w3.heap.size, 3, none⟩) hz4).trans k3
  have m4 : w5.cell? ⟨w3.heap.size, 4, none⟩ = some (.bool true) := (hb5.cell (p := ⟨w3.heap.size, 4, none⟩) hz4).trans k4
  have hz5 : w4.heap.size ≤ w5.heap.size := hb5.size
  have hB5 : Hid (Below w.heap.size w w5) := hB4.out.trans (hb5.mono (by omega))
  clear hb5 hB4 d0 d1 d2 d3 d4 k0 k1 k2 k3 k4
  go_wp2_with fail
  have hU := undef_yes i1 g1 e1 w5
  simp only [sing] at hU
  refine hU.mono ?_
  clear hU
  rintro e w6 ⟨rfl, hb6⟩
  have k0 : w6.cell? ⟨w3.heap.size, 0, none⟩ = some (.int .u64 i2) := (hb6.cell (p := ⟨w3.heap.size, 0, none⟩) (Nat.lt_of_lt_of_le hz4 hz5)).trans m0
  have k1 : w6.cell? ⟨w3.heap.size, 1, none⟩ = some (.int .u32 g2) := (hb6.cell (p := ⟨w3.heap.size, 1, none⟩) (Nat.lt_of_lt_of_le hz4 hz5)).trans m1
  have k2 : w6.cell? ⟨w3.heap.size, 2, none⟩ = some (.int .u32 e2) := (hb6.cell (p := ⟨w3.heap.size, 2, none⟩) (Nat.lt_of_lt_of_le hz4 hz5)).trans m2
  have k3 : w6.cell? ⟨w3.heap.size, 3, none⟩ = some (.int .i64 0) := (hb6.cell (p := ⟨w3.heap.size, 3, none⟩) (Nat.lt_of_lt_of_le hz4 hz5)).trans m3
  have k4 : w6.cell? ⟨w3.heap.size, 4, none⟩ = some (.bool true) := (hb6.cell (p := ⟨w3.heap.size, 4, none⟩) (Nat.lt_of_lt_of_le hz4 hz5)).trans m4
  have hz6 : w5.heap.size ≤ w6.heap.size := hb6.size
  have hB6 : Hid (Below w.heap.size w w6) := hB5.out.trans (hb6.mono (by omega))
  clear hb6 hB5 m0 m1 m2 m3 m4
  go_wp2_with fail
  have hU := undef_yes i2 g2 e2 w6
  simp only [sing] at hU
  refine hU.mono ?_
  clear hU
  rintro e w7 ⟨rfl, hb7⟩
  go_wp2_with fail
  go_ret
  exact ⟨rfl, hB6.out.trans (hb7.mono (by omega))⟩

end Go.Proofs.Qxb6615210a
