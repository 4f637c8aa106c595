import Derived.Test.Qxb6615150aFmtLaw3
import Derived.WalkKit
import Derived.ProofKit
import Derived.OpenShut
import Derived.ChangeSlices
import Derived.ChangeOld
import Derived.Below
namespace Go.Proofs.Qxb6615150aFmt
open Go.ChangeShapes Go.WideShapes Go.ChangeAt Go.RowKit

theorem cells43 : Tryf.prog.cellsOf 43 = 1 := by kernel_rfl

/-- A slice of uint64 that came in. -/
theorem u64s_open {H : Type} {enc : TypeId × Value → H} {W : World} {fuel : Nat} {ao : Option Addr} {len cap : Nat} {x : DataW H × List MemPlace} (h : DataW.trod enc Tryf.prog W 0 (fun _ => true) true fuel 22 [.slice ao len cap] = some x) :
    ∃ zs : List Int, InL (fun _ => True) W (.slice ao len cap) zs ∧ ∀ x, x ∈ zs → 0 ≤ x := by
  rcases open_ints Tryf.underlying22 Tryf.underlying43 cells43 h with ⟨hcs, _⟩ | ⟨a, len', cap', zs, hcs, _, hl, hm, hz, _, hcell, hwz⟩
  · simp at hcs
    obtain ⟨rfl, rfl, rfl⟩ := hcs
    exact ⟨[], ⟨none, 0, rfl, .inl rfl⟩, fun x hx => by cases hx⟩
  · simp at hcs
    obtain ⟨rfl, rfl, rfl⟩ := hcs
    simp only [if_true] at hz
    have hlen : (zs.take len).length = len := by rw [List.length_take]; omega
    refine ⟨zs.take len, ⟨some a, cap, by rw [hlen], ?_⟩, fun x hx => ?_⟩
    · by_cases h0 : len = 0
      · subst h0; exact .inl rfl
      · obtain ⟨b, off, spot⟩ := a
        have hc0 := hcell 0 (by omega)
        obtain rfl : spot = none := by simpa [Addr.add] using World.cell?_spot hc0
        refine .inr ⟨b, off, rfl, trivial, by simpa [Addr.add] using World.block_lt_of_cell? W _ hc0, fun j hj => ?_⟩
        have hj' : j < len := by omega
        rw [← add_plain, hcell j (by omega)]
        simp [gl, hj', show j < zs.length by omega, List.getD]
    · have := bounds_u64 (hwz x (List.mem_of_mem_take hx))
      omega
end Go.Proofs.Qxb6615150aFmt
