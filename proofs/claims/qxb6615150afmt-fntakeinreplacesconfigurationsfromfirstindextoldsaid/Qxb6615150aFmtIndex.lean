import Derived.Test.Qxb6615150aFmtLst
import Derived.Test.Qxb6615150aFmtReadB
namespace Go.Proofs.Qxb6615150aFmt
open Go.RowKit

/-- slices.IndexFunc(learners, v.has). -/
theorem indexFunc_any (p : Nat → Prop) (s0 s1 s2 s3 s4 x : Value) (al ls : List Int) (w : World) (hn : al.length ≤ 4000000) (hl : ls.length ≤ 4000000) (h2 : Lst p w s2 al) (hs : al.Pairwise (· ≤ ·)) (hx : Lst p w x ls) :
    Calls Tryf.prog 46 #[x, .func (.func 47) #[.agg #[s0, s1, s2, s3, s4]] #[]] w fun e w' => ∃ i : Int, e = .returned (.int .i64 i) ∧ Below w.heap.size w w' ∧ ((i = -1 ∧ ∀ z, z ∈ ls → z ∉ al) ∨ (0 ≤ i ∧ i < ls.length ∧ gl ls i.toNat ∈ al)) := by
  obtain ⟨a2, c2, rfl, hG, _⟩ := h2.open
  obtain ⟨ax, cx, rfl, hX, _⟩ := hx.open
  have hH := fun x w1 (hb : Below w.heap.size w w1) => has_any s0 s1 s3 s4 a2 al.length c2 (gl al) x w1 hn (hG.below hb) (asc_gl hs)
  clear hG hs
  go_enter Tryf.func46, Tryf.ntmps46
  go_wp2_with fail
  go_loopw [8] (fun vi wr => ∃ k : Nat, k ≤ ls.length ∧ vi = .int .i64 k ∧ Below w.heap.size w wr ∧ ∀ j, j < k → gl ls j ∉ al) (fun vi _ => ls.length - (intOf vi).toNat)
  case atStart => exact ⟨0, by omega, rfl, Below.refl _ w, fun j hj => by omega⟩
  case round =>
    obtain ⟨k, hk, rfl, hb, hj⟩ := hrel
    have HJ : Hid (∀ j, j < k → gl ls j ∉ al) := hj
    have HB : Hid (Below w.heap.size w wr) := hb
    clear hj
    by_cases hlt : k < ls.length
    · rcases hX with h0 | ⟨b1, o1, rfl, hb1, cc⟩
      · omega
      have e1 : wr.cell? ⟨b1, o1 + k, none⟩ = some (.int .u64 (gl ls k)) := (hb.cell (p := ⟨b1, o1 + k, none⟩) hb1).trans (cc k hlt)
      clear cc hb
      go_wp2_with fail
      refine (hH _ _ HB.out).mono ?_
      rintro e w' ⟨⟨r, rfl, hr⟩, rfl⟩
      have HB2 : Hid _ := HB.out.alloc HB.out.size (.cells #[s0, s1, .slice a2 al.length c2, s3, s4] 27)
      clear hH
      cases r with
      | true =>
        have Y : Hid _ := hr.1 rfl
        clear hr
        go_wp2_with fail
        go_ret
        refine ⟨k, rfl, HB2.out, .inr ⟨by omega, by omega, ?_⟩⟩
        obtain ⟨j, hj, he⟩ := Y.out
        rw [Int.toNat_natCast, ← he]
        exact gl_mem hj
      | false =>
        have Y : Hid (¬ ∃ j, j < al.length ∧ gl al j = gl ls k) := fun h => by simpa using hr.2 h
        clear hr
        go_wp2_with fail
        go_roundw
        case rel =>
          refine ⟨k + 1, by omega, by go_num, HB2.out, fun j hj => ?_⟩
          by_cases e : j = k
          · subst e
            intro hm
            obtain ⟨t, ht, he⟩ := mem_gl hm
            exact Y.out ⟨t, ht, he⟩
          · exact HJ.out j (by omega)
        case measure => simp [intOf]; omega
    · have hd : decide ((k : Int) < (ls.length : Int)) = false := by simp; omega
      clear hb
      go_wp2_with fail
      go_ret
      refine ⟨-1, rfl, HB.out, .inl ⟨rfl, fun z hz => ?_⟩⟩
      obtain ⟨t, ht, rfl⟩ := mem_gl hz
      exact HJ.out t (by omega)
end Go.Proofs.Qxb6615150aFmt
