import Derived.Test.Qxb6615150aRows
import Derived.Test.Qxb6615150aLastA
import Derived.ProofKit
import Derived.Deep.Slices
namespace Go.Proofs.Qxb6615150a
open Go.ChangeShapes Go.WideShapes Go.ChangeAt Go.RowKit Go.Deep

theorem six_of {α : Type} {l : List α} (h : l.length = 6) : ∃ a b c d e f, l = [a, b, c, d, e, f] := by
  match l, h with
  | [a, b, c, d, e, f], _ => exact ⟨a, b, c, d, e, f, rfl⟩

theorem Try.cells28 : Try.prog.cellsOf 28 = 6 := by kernel_rfl
theorem Try.cells22 : Try.prog.cellsOf 22 = 1 := by kernel_rfl
theorem Try.cells5 : Try.prog.cellsOf 5 = 1 := by kernel_rfl
theorem Try.cells26 : Try.prog.cellsOf 26 = 1 := by kernel_rfl

/-- One entry's six cells. -/
theorem ent_cells {H : Type} {enc : TypeId × Value → H} {W : World} {base : Nat} {sp : Nat → Bool} {held : Bool} {n : Nat} {cs : List Value} {x : DataW H × List MemPlace} (h : DataW.trod enc Try.prog W base sp held n 28 cs = some x) :
    ∃ i t k q s a l c, cs = [.int .u64 i, .int .u64 t, .int .u8 k, .int .u64 q, .int .u64 s, .slice a l c] ∧ l ≤ maxLen := by
  obtain ⟨xs, m, _, _, hl, hx, hf⟩ := DataW.trod_struct Try.underlying28 h
  rw [Try.cells28] at hl
  obtain ⟨c0, c1, c2, c3, c4, c5, rfl⟩ := six_of hl
  obtain ⟨y0, y1, y2, y3, y4, y5, rfl⟩ := six_of (show xs.length = 6 from hx)
  have f0 : DataW.trod enc Try.prog W base sp held m 22 (([c0, c1, c2, c3, c4, c5].drop 0).take (Try.prog.cellsOf 22)) = some y0 := hf 0 _ rfl
  rw [Try.cells22] at f0
  have f1 : DataW.trod enc Try.prog W base sp held m 22 (([c0, c1, c2, c3, c4, c5].drop 1).take (Try.prog.cellsOf 22)) = some y1 := hf 1 _ rfl
  rw [Try.cells22] at f1
  have f2 : DataW.trod enc Try.prog W base sp held m 5 (([c0, c1, c2, c3, c4, c5].drop 2).take (Try.prog.cellsOf 5)) = some y2 := hf 2 _ rfl
  rw [Try.cells5] at f2
  have f3 : DataW.trod enc Try.prog W base sp held m 22 (([c0, c1, c2, c3, c4, c5].drop 3).take (Try.prog.cellsOf 22)) = some y3 := hf 3 _ rfl
  rw [Try.cells22] at f3
  have f4 : DataW.trod enc Try.prog W base sp held m 22 (([c0, c1, c2, c3, c4, c5].drop 4).take (Try.prog.cellsOf 22)) = some y4 := hf 4 _ rfl
  rw [Try.cells22] at f4
  have f5 : DataW.trod enc Try.prog W base sp held m 26 (([c0, c1, c2, c3, c4, c5].drop 5).take (Try.prog.cellsOf 26)) = some y5 := hf 5 _ rfl
  rw [Try.cells26] at f5
  simp at f0 f1 f2 f3 f4 f5
  obtain ⟨i, e0, _⟩ := DataW.trod_int Try.underlying22 f0
  obtain ⟨t, e1, _⟩ := DataW.trod_int Try.underlying22 f1
  obtain ⟨k, e2, _⟩ := DataW.trod_int Try.underlying5 f2
  obtain ⟨q, e3, _⟩ := DataW.trod_int Try.underlying22 f3
  obtain ⟨s, e4, _⟩ := DataW.trod_int Try.underlying22 f4
  simp at e0 e1 e2 e3 e4
  subst e0 e1 e2 e3 e4
  rcases open_slice Try.underlying26 f5 with ⟨e5, _⟩ | ⟨a, l, c, _, _, _, _, e5, _, h1, h2, _⟩
  · simp at e5; subst e5
    exact ⟨i, t, k, q, s, none, 0, 0, rfl, Nat.zero_le _⟩
  · simp at e5; subst e5
    exact ⟨i, t, k, q, s, some a, l, c, rfl, by omega⟩

structure Ent where
  i : Int
  t : Int
  k : Int
  q : Int
  s : Int
  a : Option Addr
  l : Nat
  c : Nat

/-- A slice of entries that came in, as the walks ask it. -/
theorem ents_open {H : Type} {enc : TypeId × Value → H} {W : World} {fuel : Nat} {ao : Option Addr} {len cap : Nat} {x : DataW H × List MemPlace} (h : DataW.trod enc Try.prog W 0 (fun _ => true) true fuel 23 [.slice ao len cap] = some x) :
    ∃ b off I T K Q S A L C, len ≤ maxLen ∧ (len ≠ 0 → ao = some ⟨b, off, none⟩) ∧ (len ≠ 0 → b < W.heap.size) ∧ Ents W b off len I T K Q S A L C := by
  rcases open_slice Try.underlying23 h with ⟨hcs, _⟩ | ⟨a, len', cap', m, n, D, Pl, hcs, _, h1, h2, hm, _, hx⟩
  · simp at hcs
    obtain ⟨rfl, rfl, rfl⟩ := hcs
    exact ⟨0, 0, fun _ => 0, fun _ => 0, fun _ => 0, fun _ => 0, fun _ => 0, fun _ => none, fun _ => 0, fun _ => 0, Nat.zero_le _, fun h => absurd rfl h, fun h => absurd rfl h,
      ⟨fun i hi => by omega, fun i hi => by omega, fun i hi => by omega, fun i hi => by omega, fun i hi => by omega, fun i hi => by omega, fun i hi => by omega⟩⟩
  · simp at hcs
    obtain ⟨rfl, rfl, rfl⟩ := hcs
    simp only [if_true] at hm
    rw [Try.cells28] at hx
    have hE : ∀ i, i < len → ∃ e : Ent, W.cell? (a.add (i * 6)) = some (.int .u64 e.i) ∧ W.cell? (a.add (i * 6 + 1)) = some (.int .u64 e.t) ∧ W.cell? (a.add (i * 6 + 2)) = some (.int .u8 e.k) ∧
        W.cell? (a.add (i * 6 + 3)) = some (.int .u64 e.q) ∧ W.cell? (a.add (i * 6 + 4)) = some (.int .u64 e.s) ∧ W.cell? (a.add (i * 6 + 5)) = some (.slice e.a e.l e.c) ∧ e.l ≤ maxLen := by
      intro i hi
      obtain ⟨cs, g1, g2⟩ := hx i (by omega)
      obtain ⟨vi, vt, vk, vq, vs, va, vl, vc, rfl, hl⟩ := ent_cells g2
      obtain ⟨_, _, g3⟩ := World.cells?_some g1
      have g0 := g3 0 (by omega)
      have k1 := g3 1 (by omega)
      have k2 := g3 2 (by omega)
      have k3 := g3 3 (by omega)
      have k4 := g3 4 (by omega)
      have k5 := g3 5 (by omega)
      rw [add_add] at g0 k1 k2 k3 k4 k5
      exact ⟨⟨vi, vt, vk, vq, vs, va, vl, vc⟩, by simpa using g0, by simpa using k1, by simpa using k2, by simpa using k3, by simpa using k4, by simpa using k5, hl⟩
    haveI : Inhabited Ent := ⟨⟨0, 0, 0, 0, 0, none, 0, 0⟩⟩
    obtain ⟨E, hE⟩ := choose_lt hE
    obtain ⟨b, off, spot⟩ := a
    have hspot : len ≠ 0 → spot = none := fun h0 => by
      have := (hE 0 (by omega)).1
      simpa [Addr.add] using World.cell?_spot this
    refine ⟨b, off, fun i => (E i).i, fun i => (E i).t, fun i => (E i).k, fun i => (E i).q, fun i => (E i).s, fun i => (E i).a, fun i => (E i).l, fun i => (E i).c, by omega, fun h0 => by rw [hspot h0], fun h0 => ?_, ?_⟩
    · have := World.block_lt_of_cell? W _ (hE 0 (by omega)).1
      simpa [Addr.add] using this
    · by_cases h0 : len = 0
      · subst h0
        exact ⟨fun i hi => by omega, fun i hi => by omega, fun i hi => by omega, fun i hi => by omega, fun i hi => by omega, fun i hi => by omega, fun i hi => by omega⟩
      · obtain rfl := hspot h0
        simp only [add_plain] at hE
        exact ⟨fun i hi => (hE i hi).1, fun i hi => (hE i hi).2.1, fun i hi => (hE i hi).2.2.1, fun i hi => (hE i hi).2.2.2.1, fun i hi => (hE i hi).2.2.2.2.1, fun i hi => (hE i hi).2.2.2.2.2.1, fun i hi => (hE i hi).2.2.2.2.2.2⟩
end Go.Proofs.Qxb6615150a
