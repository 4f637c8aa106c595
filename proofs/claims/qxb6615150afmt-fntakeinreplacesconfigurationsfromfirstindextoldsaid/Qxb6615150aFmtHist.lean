import Derived.Test.Qxb6615150aFmtMemW
import Derived.Test.Qxb6615150aFmtSrch
namespace Go.Proofs.Qxb6615150aFmt
open Go.RowKit Go.Lib

theorem info69 : (Tryf.prog.info? 69).map (fun i => (i.zero, i.size, i.bytes)) = some (some (.agg #[.int .u64 0, .slice none 0 0, .slice none 0 0, .slice none 0 0, .slice none 0 0, .slice none 0 0]), 6, 128) := by kernel_rfl
theorem und64 : Tryf.prog.underlying 64 = some (.slice 69) := Tryf.underlying64

/-- A change as it lies in memory: its index, the data that brought it in, its voters' five slices. -/
structure Chg where
  idx : Int
  d : List UInt8
  s0 : Value
  s1 : Value
  s2 : Value
  s3 : Value
  s4 : Value
def Chg.cells (c : Chg) : List Value := [.int .u64 c.idx, c.s0, c.s1, c.s2, c.s3, c.s4]
def cellsOf (cs : List Chg) : List Value := cs.flatMap Chg.cells
theorem cellsOf_length (cs : List Chg) : (cellsOf cs).length = cs.length * 6 := by
  induction cs with
  | nil => rfl
  | cons c cs ih => simp [cellsOf, Chg.cells] at ih ⊢; omega
theorem cellsOf_append (a b : List Chg) : cellsOf (a ++ b) = cellsOf a ++ cellsOf b := by simp [cellsOf]
theorem cellsOf_take (cs : List Chg) (k : Nat) : cellsOf (cs.take k) = (cellsOf cs).take (k * 6) := by
  induction cs generalizing k with
  | nil => simp [cellsOf]
  | cons c cs ih =>
    cases k with
    | zero => simp [cellsOf]
    | succ k =>
      have := ih k
      simp only [List.take_succ_cons]
      show c.cells ++ cellsOf (cs.take k) = (c.cells ++ cellsOf cs).take ((k + 1) * 6)
      rw [this, show (k + 1) * 6 = c.cells.length + k * 6 by simp [Chg.cells]; omega, List.take_length_add_append]
theorem cellsOf_get (cs : List Chg) (k j : Nat) (hk : k < cs.length) (hj : j < 6) : (cellsOf cs)[k * 6 + j]? = (cs[k]).cells[j]? := by
  induction cs generalizing k with
  | nil => simp at hk
  | cons c cs ih =>
    show (c.cells ++ cellsOf cs)[k * 6 + j]? = _
    cases k with
    | zero => rw [List.getElem?_append_left (by simp [Chg.cells]; omega)]; simp
    | succ k =>
      rw [List.getElem?_append_right (by simp [Chg.cells]; omega)]
      have := ih k (by simpa using hk)
      rw [show (k + 1) * 6 + j - c.cells.length = k * 6 + j by simp [Chg.cells]; omega, this]
      simp

/-- The slices of a change. -/
def Chg.ok (p : Nat → Prop) (w : World) (c : Chg) : Prop := ∃ a b e m1 m2, DecRes c.d a b e ∧ Lst p w c.s0 a ∧ Lst p w c.s1 b ∧ Lst p w c.s3 e ∧ Lst p w c.s2 m1 ∧ Lst p w c.s4 m2

/-- The history at hb holds the changes cs; v: its slice; g: the block of their row. -/
structure HS (wr : World) (hb g : Nat) (v : Value) (cs : List Chg) : Prop where
  rh : wr.rowIs hb 66 6 (fun j => if j = 5 then v else .slice none 0 0)
  own : wr.ownsRow (hb + 1) 69 6 v cs.length (cellsOf cs)
  blk : ∀ k, v.ownBlock = some k → k = g
  ok : ∀ c, c ∈ cs → c.ok (fun b => b ≠ hb ∧ b ≠ g) wr
  gne : hb < g

/-- append of one change, with the block told. -/
theorem append_chg (base : Nat) (w : World) (hbase : base ≤ w.heap.size) (v : Value) (cs : List Chg) (hl : cs.length < 100000) (hown : w.ownsRow base 69 6 v cs.length (cellsOf cs)) (a : Addr) (c : Chg)
    (hc : ∀ j u, c.cells[j]? = some u → w.cell? (a.add j) = some u) (h1 : ∀ u ∈ c.cells, u.oneCell' = true) (ty : TypeId) :
    ∃ v' w', (Builtin.append_ #[64, 64] ty #[v, .slice (some a) 1 1]).run Tryf.prog w = .ok v' w' ∧ w'.ownsRow base 69 6 v' (cs ++ [c]).length (cellsOf (cs ++ [c])) ∧ w.grownBy w' v.ownBlock ∧ (v'.ownBlock = v.ownBlock ∨ v'.ownBlock = some w.heap.size) ∧ v'.ownBlock ≠ none := by
  obtain ⟨i0, hi, hz0, hz1, hz2⟩ := info_parts info69
  have hcl : c.cells.length = 1 * 6 := rfl
  obtain ⟨v', w', hr, h2, h3, _⟩ := run_append_own (P := Tryf.prog) w base 64 ty 69 i0 _ 6 128 und64 hi hz0 hz1 hz2 rfl (by decide) v cs.length (cellsOf cs) hown a 1 1 c.cells hcl hc h1 (by unfold maxLen; omega) (by omega) hbase
  have hbk : v'.ownBlock = v.ownBlock ∨ v'.ownBlock = some w.heap.size := by
    have hcl' : c.cells.length = 1 * i0.size := by rw [hz1]; rfl
    rcases hown.2 with ⟨rfl, h0⟩ | ⟨g, cap, cur, rfl, hbg, hg, hnc, hcm, hcs, htake⟩
    · have e := run_append_nil (P := Tryf.prog) w 64 ty 69 i0 _ und64 hi hz0 a 1 1 c.cells hcl' hc (by omega) (by omega) (by rw [hz2]; omega)
      rw [hr] at e
      cases e
      exact .inr rfl
    · by_cases hroom : cs.length + 1 ≤ cap
      · have hfit : cs.length * i0.size + c.cells.length ≤ cur.size := by rw [hz1, hcl, hcs]; omega
        have e := run_append_room (P := Tryf.prog) w 64 ty 69 i0 und64 hi g cs.length cap cur hg a 1 1 c.cells hcl' hc h1 hroom hfit
        rw [hr] at e
        cases e
        exact .inl rfl
      · have holds := hown.cells (g := g) rfl
        have e := run_append_grow (P := Tryf.prog) w 64 ty 69 i0 _ und64 hi hz0 ⟨g, 0, none⟩ cs.length cap (cellsOf cs) (by rw [hz1]; exact cellsOf_length cs) holds a 1 1 c.cells hcl' hc (by omega) (by omega) (growslice_fits (by omega) (by rw [hz2]; omega))
        rw [hr] at e
        cases e
        exact .inr rfl
  refine ⟨v', w', hr, by rw [cellsOf_append]; simpa [cellsOf] using h2, h3, hbk, ?_⟩
  rcases h2.2 with ⟨_, h0⟩ | ⟨g, cap, cur, rfl, _⟩
  · omega
  · simp [Value.ownBlock]

theorem Chg.ok.keep {p q : Nat → Prop} {w w' : World} {c : Chg} (h : c.ok p w) (hsz : w.heap.size ≤ w'.heap.size) (hb : ∀ b, p b → b < w.heap.size → w'.heap[b]? = w.heap[b]? ∧ q b) : c.ok q w' := by
  obtain ⟨a, b, e, m1, m2, hr, l0, l1, l3, l2, l4⟩ := h
  have hk : ∀ v zs, Lst p w v zs → Lst q w' v zs := fun v zs h => by
    have h1 : Lst (fun b => p b ∧ b < w.heap.size) w v zs := h.mono' (fun b hb hp => ⟨hp, hb⟩)
    exact (h1.keep hsz (fun b hp hlt => (hb b hp.1 hlt).1)).mono (fun b hp => (hb b hp.1 hp.2).2)
  exact ⟨a, b, e, m1, m2, hr, hk _ _ l0, hk _ _ l1, hk _ _ l3, hk _ _ l2, hk _ _ l4⟩
theorem HS.below {wr w' : World} {hb g : Nat} {v : Value} {cs : List Chg} (h : HS wr hb g v cs) (hw : Below wr.heap.size wr w') : HS w' hb g v cs := by
  refine ⟨h.rh.of_block (hw.block _ h.rh.lt), ?_, h.blk, fun c hc => (h.ok c hc).keep hw.size (fun b hb hlt => ⟨hw.block b hlt, hb⟩), h.gne⟩
  refine ⟨h.own.1, ?_⟩
  rcases h.own.2 with e | ⟨g', cap, cur, e, hg, hc, rest⟩
  · exact .inl e
  · exact .inr ⟨g', cap, cur, e, hg, (hw.block _ (Array.getElem?_eq_some_iff.1 hc).1).trans hc, rest⟩
theorem HS.open {wr : World} {hb g : Nat} {v : Value} {cs : List Chg} (h : HS wr hb g v cs) :
    ∃ ao cap, v = .slice ao cs.length cap ∧ cs.length ≤ cap ∧ cap ≤ maxLen ∧ (cs.length ≠ 0 → ao = some ⟨g, 0, none⟩) ∧ (cs.length ≠ 0 → g < wr.heap.size) ∧ (cs ≠ [] → ∀ k j u, k < cs.length → j < 6 → (cs[k]?.bind fun c => c.cells[j]?) = some u → wr.cell? ⟨g, k * 6 + j, none⟩ = some u) ∧ (∀ k, ao = some k → ∃ b, k = ⟨b, 0, none⟩) := by
  rcases h.own.2 with ⟨rfl, h0⟩ | ⟨g', cap, cur, rfl, hg, hc, hn, hm, hcs, ht⟩
  · have : cs = [] := List.length_eq_zero_iff.1 h0
    subst this
    exact ⟨none, 0, rfl, Nat.le_refl _, by unfold maxLen; omega, fun h => absurd rfl h, fun h => absurd rfl h, fun h => absurd rfl h, fun k hk => by cases hk⟩
  · have hgg : g' = g := h.blk g' rfl
    subst hgg
    refine ⟨_, cap, rfl, hn, hm, fun _ => rfl, fun _ => (Array.getElem?_eq_some_iff.1 hc).1, fun _ k j u hk hj hu => ?_, fun k hk => ⟨g', by cases hk; rfl⟩⟩
    have hg2 := cellsOf_get cs k j hk hj
    rw [List.getElem?_eq_getElem hk] at hu
    simp only [Option.bind_some] at hu
    rw [← ht, List.getElem?_take_of_lt (by omega), hu] at hg2
    rw [Array.getElem?_toList] at hg2
    simp [World.cell?, hc, hg2]
end Go.Proofs.Qxb6615150aFmt
