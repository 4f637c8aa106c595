import Derived.Test.Qxb6615150aFmtTakeP
import Derived.Test.Qxb6615150aFmtOpen
import Derived.Deep.Slices
namespace Go.Proofs.Qxb6615150aFmt
open Go.ChangeShapes Go.WideShapes Go.ChangeAt Go.RowKit Go.Deep

theorem six_of {α : Type} {l : List α} (h : l.length = 6) : ∃ a b c d e f, l = [a, b, c, d, e, f] := by
  match l, h with
  | [a, b, c, d, e, f], _ => exact ⟨a, b, c, d, e, f, rfl⟩

theorem cells46 : Tryf.prog.cellsOf 46 = 6 := by kernel_rfl
theorem cells43' : Tryf.prog.cellsOf 43 = 1 := by kernel_rfl
theorem cells5' : Tryf.prog.cellsOf 5 = 1 := by kernel_rfl
theorem cells44 : Tryf.prog.cellsOf 44 = 1 := by kernel_rfl

/-- One entry's six cells. -/
theorem ent_cells {H : Type} {enc : TypeId × Value → H} {W : World} {n : Nat} {cs : List Value} {x : DataW H × List MemPlace} (h : DataW.trod enc Tryf.prog W 0 (fun _ => true) true n 46 cs = some x) :
    ∃ i t k q s a l c, cs = [.int .u64 i, .int .u64 t, .int .u8 k, .int .u64 q, .int .u64 s, .slice a l c] ∧ l ≤ maxLen ∧ (0 ≤ i ∧ i ≤ 18446744073709551615) ∧ ∃ d, InB W (.slice a l c) d := by
  obtain ⟨xs, m, _, _, hl, hx, hf⟩ := DataW.trod_struct Tryf.underlying46 h
  rw [cells46] at hl
  obtain ⟨c0, c1, c2, c3, c4, c5, rfl⟩ := six_of hl
  obtain ⟨y0, y1, y2, y3, y4, y5, rfl⟩ := six_of (show xs.length = 6 from hx)
  have f0 : DataW.trod enc Tryf.prog W 0 (fun _ => true) true m 43 (([c0, c1, c2, c3, c4, c5].drop 0).take (Tryf.prog.cellsOf 43)) = some y0 := hf 0 _ rfl
  rw [cells43'] at f0
  have f1 : DataW.trod enc Tryf.prog W 0 (fun _ => true) true m 43 (([c0, c1, c2, c3, c4, c5].drop 1).take (Tryf.prog.cellsOf 43)) = some y1 := hf 1 _ rfl
  rw [cells43'] at f1
  have f2 : DataW.trod enc Tryf.prog W 0 (fun _ => true) true m 5 (([c0, c1, c2, c3, c4, c5].drop 2).take (Tryf.prog.cellsOf 5)) = some y2 := hf 2 _ rfl
  rw [cells5'] at f2
  have f3 : DataW.trod enc Tryf.prog W 0 (fun _ => true) true m 43 (([c0, c1, c2, c3, c4, c5].drop 3).take (Tryf.prog.cellsOf 43)) = some y3 := hf 3 _ rfl
  rw [cells43'] at f3
  have f4 : DataW.trod enc Tryf.prog W 0 (fun _ => true) true m 43 (([c0, c1, c2, c3, c4, c5].drop 4).take (Tryf.prog.cellsOf 43)) = some y4 := hf 4 _ rfl
  rw [cells43'] at f4
  have f5 : DataW.trod enc Tryf.prog W 0 (fun _ => true) true m 44 (([c0, c1, c2, c3, c4, c5].drop 5).take (Tryf.prog.cellsOf 44)) = some y5 := hf 5 _ rfl
  rw [cells44] at f5
  simp at f0 f1 f2 f3 f4 f5
  obtain ⟨i, e0, hi⟩ := DataW.trod_int Tryf.underlying43 f0
  obtain ⟨t, e1, _⟩ := DataW.trod_int Tryf.underlying43 f1
  obtain ⟨k, e2, _⟩ := DataW.trod_int Tryf.underlying5 f2
  obtain ⟨q, e3, _⟩ := DataW.trod_int Tryf.underlying43 f3
  obtain ⟨s, e4, _⟩ := DataW.trod_int Tryf.underlying43 f4
  simp at e0 e1 e2 e3 e4
  subst e0 e1 e2 e3 e4
  have hib : 0 ≤ i ∧ i ≤ 18446744073709551615 := bounds_u64 hi.2
  rcases open_ints Tryf.underlying44 Tryf.underlying5 cells5' f5 with ⟨e5, _⟩ | ⟨a, l, c, zs, e5, _, h1, h2, hz, _, hcell, hwz⟩
  · simp at e5; subst e5
    exact ⟨i, t, k, q, s, none, 0, 0, rfl, Nat.zero_le _, hib, [], none, 0, rfl, .inl rfl⟩
  · simp at e5; subst e5
    simp only [if_true] at hz
    refine ⟨i, t, k, q, s, some a, l, c, rfl, by omega, hib, (zs.take l).map (fun z => UInt8.ofNat z.toNat), some a, c, by simp; omega, ?_⟩
    by_cases h0 : l = 0
    · subst h0; exact .inl rfl
    · obtain ⟨b, off, spot⟩ := a
      have hc0 := hcell 0 (by omega)
      obtain rfl : spot = none := by simpa [Addr.add] using World.cell?_spot hc0
      refine .inr ⟨b, off, rfl, by simp; omega, h2, by simpa [Addr.add] using World.block_lt_of_cell? W _ hc0, fun j hj => ?_⟩
      simp at hj
      rw [← add_plain, hcell j (by omega)]
      have hzj : j < zs.length := by omega
      have hb8 := bounds_u8 (hwz zs[j] (List.getElem_mem hzj))
      simp [List.getD, hzj]
      omega

structure Ent where
  i : Int
  t : Int
  k : Int
  q : Int
  s : Int
  a : Option Addr
  l : Nat
  c : Nat
  d : List UInt8

/-- A slice of entries that came in, as the walks ask it. -/
theorem ents_open {H : Type} {enc : TypeId × Value → H} {W : World} {fuel : Nat} {ao : Option Addr} {len cap : Nat} {x : DataW H × List MemPlace} (h : DataW.trod enc Tryf.prog W 0 (fun _ => true) true fuel 40 [.slice ao len cap] = some x) :
    ∃ (b off : Nat) (I T K Q S : Nat → Int) (A : Nat → Option Addr) (L C : Nat → Nat) (D : Nat → List UInt8), len ≤ maxLen ∧ (len ≠ 0 → ao = some ⟨b, off, none⟩) ∧ (len ≠ 0 → b < W.heap.size) ∧ Ents W b off len I T K Q S A L C ∧ (∀ i, i < len → L i ≤ maxLen) ∧ (∀ i, i < len → 0 ≤ I i ∧ I i ≤ 18446744073709551615) ∧ ∀ i, i < len → InB W (.slice (A i) (L i) (C i)) (D i) := by
  rcases open_slice Tryf.underlying40 h with ⟨hcs, _⟩ | ⟨a, len', cap', m, n, D, Pl, hcs, _, h1, h2, hm, _, hx⟩
  · simp at hcs
    obtain ⟨rfl, rfl, rfl⟩ := hcs
    exact ⟨0, 0, fun _ => 0, fun _ => 0, fun _ => 0, fun _ => 0, fun _ => 0, fun _ => none, fun _ => 0, fun _ => 0, fun _ => [], Nat.zero_le _, fun h => absurd rfl h, fun h => absurd rfl h,
      ⟨fun i hi => by omega, fun i hi => by omega, fun i hi => by omega, fun i hi => by omega, fun i hi => by omega, fun i hi => by omega⟩, fun i hi => by omega, fun i hi => by omega, fun i hi => by omega⟩
  · simp at hcs
    obtain ⟨rfl, rfl, rfl⟩ := hcs
    simp only [if_true] at hm
    rw [cells46] at hx
    have hE : ∀ i, i < len → ∃ e : Ent, W.cell? (a.add (i * 6)) = some (.int .u64 e.i) ∧ W.cell? (a.add (i * 6 + 1)) = some (.int .u64 e.t) ∧ W.cell? (a.add (i * 6 + 2)) = some (.int .u8 e.k) ∧
        W.cell? (a.add (i * 6 + 3)) = some (.int .u64 e.q) ∧ W.cell? (a.add (i * 6 + 4)) = some (.int .u64 e.s) ∧ W.cell? (a.add (i * 6 + 5)) = some (.slice e.a e.l e.c) ∧ e.l ≤ maxLen ∧ (0 ≤ e.i ∧ e.i ≤ 18446744073709551615) ∧ InB W (.slice e.a e.l e.c) e.d := by
      intro i hi
      obtain ⟨cs, g1, g2⟩ := hx i (by omega)
      obtain ⟨vi, vt, vk, vq, vs, va, vl, vc, rfl, hl, hvb, vd, hvd⟩ := ent_cells g2
      obtain ⟨_, _, g3⟩ := World.cells?_some g1
      have g0 := g3 0 (by omega)
      have k1 := g3 1 (by omega)
      have k2 := g3 2 (by omega)
      have k3 := g3 3 (by omega)
      have k4 := g3 4 (by omega)
      have k5 := g3 5 (by omega)
      rw [add_add] at g0 k1 k2 k3 k4 k5
      exact ⟨⟨vi, vt, vk, vq, vs, va, vl, vc, vd⟩, by simpa using g0, by simpa using k1, by simpa using k2, by simpa using k3, by simpa using k4, by simpa using k5, hl, hvb, hvd⟩
    haveI : Inhabited Ent := ⟨⟨0, 0, 0, 0, 0, none, 0, 0, []⟩⟩
    obtain ⟨E, hE⟩ := choose_lt hE
    obtain ⟨b, off, spot⟩ := a
    have hspot : len ≠ 0 → spot = none := fun h0 => by
      have := (hE 0 (by omega)).1
      simpa [Addr.add] using World.cell?_spot this
    refine ⟨b, off, fun i => (E i).i, fun i => (E i).t, fun i => (E i).k, fun i => (E i).q, fun i => (E i).s, fun i => (E i).a, fun i => (E i).l, fun i => (E i).c, fun i => (E i).d, by omega, fun h0 => by rw [hspot h0], fun h0 => ?_, ?_, fun i hi => (hE i hi).2.2.2.2.2.2.1, fun i hi => (hE i hi).2.2.2.2.2.2.2.1, fun i hi => (hE i hi).2.2.2.2.2.2.2.2⟩
    · have := World.block_lt_of_cell? W _ (hE 0 (by omega)).1
      simpa [Addr.add] using this
    · by_cases h0 : len = 0
      · subst h0
        exact ⟨fun i hi => by omega, fun i hi => by omega, fun i hi => by omega, fun i hi => by omega, fun i hi => by omega, fun i hi => by omega⟩
      · obtain rfl := hspot h0
        simp only [add_plain] at hE
        exact ⟨fun i hi => (hE i hi).1, fun i hi => (hE i hi).2.1, fun i hi => (hE i hi).2.2.1, fun i hi => (hE i hi).2.2.2.1, fun i hi => (hE i hi).2.2.2.2.1, fun i hi => (hE i hi).2.2.2.2.2.1⟩
end Go.Proofs.Qxb6615150aFmt
