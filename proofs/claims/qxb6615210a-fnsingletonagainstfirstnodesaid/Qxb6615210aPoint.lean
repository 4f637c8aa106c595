import Derived.Test.Qxb6615210aSingleB
namespace Go.Proofs.Qxb6615210a
open Go.RowKit

theorem point_yes (id ig eg : Int) (w : World) (hid : 0 ≤ id) (hid' : id ≤ 4294967295) (hig : 0 ≤ ig) (hig' : ig ≤ 65535) (heg : 0 ≤ eg) (heg' : eg ≤ 65535) :
    Calls Try.prog 9 #[.agg #[.int .u64 id, .int .u32 ig, .int .u32 eg], .int .u32 id, .int .u16 ig, .int .u16 eg] w fun e w' => e = .returned (.bool true) ∧ Below w.heap.size w w' := by
  go_enter Try.func9, Try.ntmps9
  go_wp2
  go_ret
  exact ⟨rfl, (Below.refl _ _).alloc (Nat.le_refl _) _⟩

theorem undef_yes (id ig eg : Int) (w : World) :
    Calls Try.prog 10 #[sing id ig eg 0 true] w fun e w' => e = .returned (.bool true) ∧ Below w.heap.size w w' := by
  unfold sing
  go_enter Try.func10, Try.ntmps10
  go_wp2
  go_ret
  exact ⟨rfl, (Below.refl _ _).alloc (Nat.le_refl _) _⟩
end Go.Proofs.Qxb6615210a
