import Derived.Test.Qxb6615210aPosix
namespace Go.Proofs.Qxb6615210a
open Go.RowKit

set_option maxHeartbeats 400000 in
theorem single_t (bd bn : Nat) (fi : Int) (id ig eg s f : Int) (w : World) (h0 : 0 ≤ s) (h1 : s ≤ 4294967295) (h2 : 0 ≤ f) (ht : timeB s f = true)
    (hid : 0 ≤ id) (hid' : id ≤ 4294967295) (hig : 0 ≤ ig) (hig' : ig ≤ 65535) (heg : 0 ≤ eg) (heg' : eg ≤ 65535) (hf0 : 0 ≤ fi) (hf1 : fi ≤ 4294967295999999)
    (d20 : w.cell? ⟨bd, 20, none⟩ = some (.int .i64 fi)) (d21 : w.cell? ⟨bd, 21, none⟩ = some (.bool true))
    (c1 : w.cell? ⟨bn, 1, none⟩ = some (.int .u32 id)) (c2 : w.cell? ⟨bn, 2, none⟩ = some (.int .u16 ig)) (c3 : w.cell? ⟨bn, 3, none⟩ = some (.int .u16 eg))
    (c4 : w.cell? ⟨bn, 4, none⟩ = some (.int .u32 s)) (c5 : w.cell? ⟨bn, 5, none⟩ = some (.int .u32 f)) :
    Calls Try.prog 15 #[.pointer (some ⟨bd, 0, none⟩), .pointer (some ⟨bn, 0, none⟩)] w fun e w' => e = .returned (.agg #[.int .u64 id, .int .u32 ig, .int .u32 eg, .int .i64 (s * 1000000 + f - fi), .bool false]) ∧ Below w.heap.size w w' := by
  have hn1 := World.new_ne w _ c1
  have hn2 := World.new_ne w _ d20
  go_enter Try.func15, Try.ntmps15
  go_wp2_with fail
  go_region_held3 (fun w' => w'.cell? ⟨bn, 1, none⟩ = some (.int .u32 id) ∧ w'.cell? ⟨bn, 2, none⟩ = some (.int .u16 ig) ∧ w'.cell? ⟨bn, 3, none⟩ = some (.int .u16 eg)) (go_keep) (fail)
  go_wp2_with fail
  refine (posix_t bn s f _ h0 h1 h2 ht (by simp [World.cell?_alloc_some, c4]) (by simp [World.cell?_alloc_some, c5])).mono ?_
  rintro e w' ⟨rfl, m, rfl⟩
  have e20 : ∀ o1 o2, ((w.alloc o1).alloc o2).cell? ⟨bd, 20, none⟩ = some (.int .i64 fi) := fun o1 o2 => by simp [World.cell?_alloc_some, d20]
  have e21 : ∀ o1 o2, ((w.alloc o1).alloc o2).cell? ⟨bd, 21, none⟩ = some (.bool true) := fun o1 o2 => by simp [World.cell?_alloc_some, d21]
  have hff := (timeB_yes ht).2
  go_wp2_with fail
  refine bodyPost_ret (v := .agg #[.int .u64 id, .int .u32 ig, .int .u32 eg, .int .i64 (s * 1000000 + f - fi), .bool false]) (by simp [results, Try.results15, go_sem]) rfl ⟨rfl, ?_⟩
  exact ((((((below_drewN (((Below.refl _ w).alloc (Nat.le_refl _) _).alloc (by simp) _) _).setCell (by simp) _).setCell (by simp) _).setCell (by simp) _).setCell (by simp) _).setCell (by simp) _).setCell (by simp) _

set_option maxHeartbeats 400000 in
theorem single_n (bd bn : Nat) (id ig eg s f : Int) (w : World) (ht : timeB s f = false)
    (hid : 0 ≤ id) (hid' : id ≤ 4294967295) (hig : 0 ≤ ig) (hig' : ig ≤ 65535) (heg : 0 ≤ eg) (heg' : eg ≤ 65535)
    (c1 : w.cell? ⟨bn, 1, none⟩ = some (.int .u32 id)) (c2 : w.cell? ⟨bn, 2, none⟩ = some (.int .u16 ig)) (c3 : w.cell? ⟨bn, 3, none⟩ = some (.int .u16 eg))
    (c4 : w.cell? ⟨bn, 4, none⟩ = some (.int .u32 s)) (c5 : w.cell? ⟨bn, 5, none⟩ = some (.int .u32 f)) :
    Calls Try.prog 15 #[.pointer (some ⟨bd, 0, none⟩), .pointer (some ⟨bn, 0, none⟩)] w fun e w' => e = .returned (.agg #[.int .u64 id, .int .u32 ig, .int .u32 eg, .int .i64 0, .bool true]) ∧ Below w.heap.size w w' := by
  have hn1 := World.new_ne w _ c1
  go_enter Try.func15, Try.ntmps15
  go_wp2_with fail
  go_region_held3 (fun w' => w'.cell? ⟨bn, 1, none⟩ = some (.int .u32 id) ∧ w'.cell? ⟨bn, 2, none⟩ = some (.int .u16 ig) ∧ w'.cell? ⟨bn, 3, none⟩ = some (.int .u16 eg)) (go_keep) (fail)
  go_wp2_with fail
  refine (posix_f bn s f _ ht (by simp [World.cell?_alloc_some, c4]) (by simp [World.cell?_alloc_some, c5])).mono ?_
  rintro e w' ⟨rfl, m, rfl⟩
  go_wp2_with fail
  refine bodyPost_ret (v := .agg #[.int .u64 id, .int .u32 ig, .int .u32 eg, .int .i64 0, .bool true]) (by simp [results, Try.results15, go_sem]) rfl ⟨rfl, ?_⟩
  exact ((((((below_drewN (((Below.refl _ w).alloc (Nat.le_refl _) _).alloc (by simp) _) _).setCell (by simp) _).setCell (by simp) _).setCell (by simp) _).setCell (by simp) _).setCell (by simp) _).setCell (by simp) _

set_option maxHeartbeats 400000 in
theorem single_x (bd bn : Nat) (id ig eg s f : Int) (w : World) (h0 : 0 ≤ s) (h1 : s ≤ 4294967295) (h2 : 0 ≤ f) (ht : timeB s f = true)
    (hid : 0 ≤ id) (hid' : id ≤ 4294967295) (hig : 0 ≤ ig) (hig' : ig ≤ 65535) (heg : 0 ≤ eg) (heg' : eg ≤ 65535)
    (d21 : w.cell? ⟨bd, 21, none⟩ = some (.bool false))
    (c1 : w.cell? ⟨bn, 1, none⟩ = some (.int .u32 id)) (c2 : w.cell? ⟨bn, 2, none⟩ = some (.int .u16 ig)) (c3 : w.cell? ⟨bn, 3, none⟩ = some (.int .u16 eg))
    (c4 : w.cell? ⟨bn, 4, none⟩ = some (.int .u32 s)) (c5 : w.cell? ⟨bn, 5, none⟩ = some (.int .u32 f)) :
    Calls Try.prog 15 #[.pointer (some ⟨bd, 0, none⟩), .pointer (some ⟨bn, 0, none⟩)] w fun e w' => e = .returned (.agg #[.int .u64 id, .int .u32 ig, .int .u32 eg, .int .i64 0, .bool true]) ∧ Below w.heap.size w w' := by
  have hn1 := World.new_ne w _ c1
  go_enter Try.func15, Try.ntmps15
  go_wp2_with fail
  go_region_held3 (fun w' => w'.cell? ⟨bn, 1, none⟩ = some (.int .u32 id) ∧ w'.cell? ⟨bn, 2, none⟩ = some (.int .u16 ig) ∧ w'.cell? ⟨bn, 3, none⟩ = some (.int .u16 eg)) (go_keep) (fail)
  go_wp2_with fail
  refine (posix_t bn s f _ h0 h1 h2 ht (by simp [World.cell?_alloc_some, c4]) (by simp [World.cell?_alloc_some, c5])).mono ?_
  rintro e w' ⟨rfl, m, rfl⟩
  have e21 : ∀ o1 o2, ((w.alloc o1).alloc o2).cell? ⟨bd, 21, none⟩ = some (.bool false) := fun o1 o2 => by simp [World.cell?_alloc_some, d21]
  go_wp2_with fail
  refine bodyPost_ret (v := .agg #[.int .u64 id, .int .u32 ig, .int .u32 eg, .int .i64 0, .bool true]) (by simp [results, Try.results15, go_sem]) rfl ⟨rfl, ?_⟩
  exact ((((((below_drewN (((Below.refl _ w).alloc (Nat.le_refl _) _).alloc (by simp) _) _).setCell (by simp) _).setCell (by simp) _).setCell (by simp) _).setCell (by simp) _).setCell (by simp) _).setCell (by simp) _

end Go.Proofs.Qxb6615210a
