import Derived.Test.Qxb6615150aFmtHist
namespace Go.Proofs.Qxb6615150aFmt
open Go.RowKit Go.Lib

theorem newHist_any (w : World) : Calls Tryf.prog 21 #[] w fun e w' => e = .returned (.pointer (some ⟨w.heap.size, 0, none⟩)) ∧ HS w' w.heap.size (w.heap.size + 1) (.slice none 0 0) [] ∧ Below w.heap.size w w' ∧ w'.heap.size = w.heap.size + 1 := by
  go_enter Tryf.func21, Tryf.ntmps21
  go_wp2
  go_ret
  refine ⟨rfl, ⟨⟨_, heap_alloc_new w _, rfl, ?_⟩, World.ownsRow_nil _ _ 69 6, (fun k h => by cases h), (fun c hc => by cases hc), by omega⟩, (Below.refl _ w).alloc (Nat.le_refl _) _, by simp⟩
  intro i hi
  rcases (show i = 0 ∨ i = 1 ∨ i = 2 ∨ i = 3 ∨ i = 4 ∨ i = 5 by omega) with rfl | rfl | rfl | rfl | rfl | rfl <;> rfl

theorem owns6_setOther {w : World} {base n : Nat} {v : Value} {xs : List Value} (h : w.ownsRow base 69 6 v n xs) {a : Addr} (ha : a.block < base) (x : Value) : (w.setCell a x).ownsRow base 69 6 v n xs := by
  refine ⟨h.1, ?_⟩
  rcases h.2 with e | ⟨g, cap, cur, rfl, hbase, hb, rest⟩
  · exact .inl e
  · exact .inr ⟨g, cap, cur, rfl, hbase, (Go.Deep.blk_setCell_other w a x g (by omega)).trans hb, rest⟩

set_option maxRecDepth 100000 in
set_option maxHeartbeats 2000000 in
theorem add_any (hb g : Nat) (v : Value) (cs : List Chg) (c : Chg) (w : World) (hl : cs.length < 100000) (h : HS w hb g v cs) (hc : c.ok (fun b => b ≠ hb ∧ b ≠ g) w) :
    Calls Tryf.prog 50 #[.pointer (some ⟨hb, 0, none⟩), .int .u64 c.idx, .agg #[c.s0, c.s1, c.s2, c.s3, c.s4]] w fun e w' => e = .returned (.tuple #[]) ∧ (∃ g' v', HS w' hb g' v' (cs ++ [c])) ∧ Below hb w w' := by
  obtain ⟨ao, cap, ev, hcap1, hcap2, _⟩ := h.open
  obtain ⟨a, b, e, m1, m2, hr, l0, l1, l3, l2, l4⟩ := hc
  obtain ⟨x0, y0, e0, _, _⟩ := l0.open
  obtain ⟨x1, y1, e1, _, _⟩ := l1.open
  obtain ⟨x2, y2, e2, _, _⟩ := l2.open
  obtain ⟨x3, y3, e3, _, _⟩ := l3.open
  obtain ⟨x4, y4, e4, _, _⟩ := l4.open
  have hcok : c.ok (fun b => b ≠ hb ∧ b ≠ g) w := ⟨a, b, e, m1, m2, hr, l0, l1, l3, l2, l4⟩
  have k5 : w.cell? ⟨hb, 5, none⟩ = some v := by have := h.rh.cell (i := 5) (by omega); simpa using this
  have f5 := h.rh.frozen 5
  have hhb := h.rh.lt
  have hB1 : Below w.heap.size w ((w.alloc (.cells #[c.s0, c.s1, c.s2, c.s3, c.s4] 27)).drew.alloc (.cells #[.int .u64 c.idx, c.s0, c.s1, c.s2, c.s3, c.s4] 69)) := (((Below.refl _ w).alloc (Nat.le_refl _) _).drew).alloc (by simp) _
  have h1 := h.below hB1
  obtain ⟨v', w', hrun, hown', hgb, hbk, hnn⟩ := append_chg (hb + 1) ((w.alloc (.cells #[c.s0, c.s1, c.s2, c.s3, c.s4] 27)).drew.alloc (.cells #[.int .u64 c.idx, c.s0, c.s1, c.s2, c.s3, c.s4] 69)) (by simp; omega) v cs hl h1.own ⟨w.heap.size + 1, 0, none⟩ c (fun j u hj => by
      rw [Go.WideShapes.add_plain]
      have hh : ((w.alloc (.cells #[c.s0, c.s1, c.s2, c.s3, c.s4] 27)).drew.alloc (.cells #[.int .u64 c.idx, c.s0, c.s1, c.s2, c.s3, c.s4] 69)).heap[w.heap.size + 1]? = some (.cells #[.int .u64 c.idx, c.s0, c.s1, c.s2, c.s3, c.s4] 69) := by simpa using heap_alloc_new (w.alloc (.cells #[c.s0, c.s1, c.s2, c.s3, c.s4] 27)).drew (.cells #[.int .u64 c.idx, c.s0, c.s1, c.s2, c.s3, c.s4] 69)
      simp only [World.cell?, hh]
      simpa [Chg.cells] using hj) (by rw [Chg.cells, e0, e1, e2, e3, e4]; simp [Value.oneCell']) 64
  -- the frame behind the append
  obtain ⟨g', hg'⟩ : ∃ g', v'.ownBlock = some g' := Option.ne_none_iff_exists'.1 hnn
  have hblk : ∀ k, k < w.heap.size → k ≠ g → w'.heap[k]? = w.heap[k]? := fun k hk hne => by
    rw [hgb.block k (by simp; omega) (fun e => hne (h.blk k e.symm)), hB1.block k hk]
  have hg2 : g' = g ∨ w.heap.size ≤ g' := by
    rcases hbk with e | e
    · exact .inl (h.blk g' (by rw [← e]; exact hg'))
    · right; rw [hg'] at e; simp at e; omega
  have hgne := (hown'.lt g' hg').1
  have hws : w.heap.size ≤ w'.heap.size := Nat.le_trans (by simp; omega) hgb.size
  have hrh' : w'.rowIs hb 66 6 (fun j => if j = 5 then v else .slice none 0 0) := h.rh.of_block (hblk hb hhb (by have := h.gne; omega))
  have k5' : w'.cell? ⟨hb, 5, none⟩ = some v := by have := hrh'.cell (i := 5) (by omega); simpa using this
  have f5' := hrh'.frozen 5
  have HF : Hid (HS (w'.setCell ⟨hb, 5, none⟩ v') hb g' v' (cs ++ [c]) ∧ Below hb w (w'.setCell ⟨hb, 5, none⟩ v')) := by
    have hS := Same.set (B := w'.heap.size) (vb := hb) (j := 5) w' v'
    refine ⟨⟨(hrh'.set 5 v').congr (fun j _ => by show (if j = 5 then v' else if j = 5 then v else .slice none 0 0) = if j = 5 then v' else .slice none 0 0; split <;> rfl), owns6_setOther hown' (show hb < hb + 1 by omega) v', fun k hk => by rw [hg'] at hk; cases hk; rfl, fun c' hc' => ?_, by omega⟩, ?_⟩
    · have hk : c'.ok (fun b => b ≠ hb ∧ b ≠ g) w := by
        rcases List.mem_append.1 hc' with hm | hm
        · exact h.ok c' hm
        · simp at hm; subst hm; exact hcok
      exact hk.keep (Nat.le_trans hws hS.size) (fun b hb' hlt => ⟨by rw [hS.block b (by omega) hb'.1, hblk b hlt hb'.2], hb'.1, by rcases hg2 with e | e; exact e ▸ hb'.2; omega⟩)
    · exact ⟨by rw [hS.os, hgb.os, hB1.os], by rw [hS.tape, hgb.tape, hB1.tape], by rw [hS.output, hgb.output, hB1.output], Nat.le_trans hws hS.size, fun k hk => by
        rw [hS.block k (by omega) (by omega), hblk k (by omega) (by have := h.gne; omega)]⟩
  have hsh : ∃ x9 y9, v' = .slice x9 (cs.length + 1) y9 := by
    rcases hown'.2 with ⟨_, h0⟩ | ⟨g9, cap9, _, e9, _⟩
    · simp at h0
    · exact ⟨some ⟨g9, 0, none⟩, cap9, by rw [e9]; simp⟩
  obtain ⟨x9, y9, rfl⟩ := hsh
  have hw1 : ∀ o, (w.alloc o).cell? ⟨hb, 5, none⟩ = some v := fun o => (World.cell?_alloc_lt _ _ _ hhb).trans k5
  have hw2 : ∀ o1 o2, ((w.alloc o1).alloc o2).cell? ⟨hb, 5, none⟩ = some v := fun o1 o2 => (World.cell?_alloc_lt _ _ _ (by simp; omega)).trans (hw1 o1)
  clear h h1 hcok hr l0 l1 l2 l3 l4 hB1 hown' hgb hbk hnn hg' hblk hg2 hgne hws hrh'
  obtain ⟨ci, cd, c0, c1, c2, c3, c4⟩ := c
  simp only at e0 e1 e2 e3 e4 hrun HF hw1 ⊢
  subst e0 e1 e2 e3 e4 ev
  go_enter Tryf.func50, Tryf.ntmps50
  go_wp2_with fail
  go_region_law (refine step_append_run rfl _ _ 64 64 rfl hrun ?_)
  all_goals go_wp2_with fail
  all_goals go_end0
  all_goals exact ⟨rfl, ⟨_, _, HF.out.1⟩, HF.out.2⟩

/-- The indices of the changes. -/
def ix (cs : List Chg) (k : Nat) : Int := (cs[k]?.map Chg.idx).getD 0
def sx (cs : List Chg) (k j : Nat) : Value := ((cs[k]?.map fun c => [c.s0, c.s1, c.s2, c.s3, c.s4][j]?.getD undef)).getD undef
theorem HS.rowC {wr : World} {hb g : Nat} {v : Value} {cs : List Chg} (h : HS wr hb g v cs) (hne : cs.length ≠ 0) : RowC wr g cs.length (ix cs) (sx cs) := by
  obtain ⟨ao, cap, ev, _, _, _, hlt, hc, _⟩ := h.open
  have hc' := hc (fun e => hne (by rw [e]; rfl))
  refine ⟨hlt hne, fun k hk => ⟨?_, fun j hj => ?_⟩⟩
  · have := hc' k 0 (.int .u64 (ix cs k)) hk (by omega) (by simp [ix, Chg.cells, hk])
    simpa using this
  · have := hc' k (j + 1) (sx cs k j) hk (by omega) (by
      rcases (show j = 0 ∨ j = 1 ∨ j = 2 ∨ j = 3 ∨ j = 4 by omega) with rfl | rfl | rfl | rfl | rfl <;> simp [sx, Chg.cells, hk])
    rw [show k * 6 + 1 + j = k * 6 + (j + 1) by omega]; exact this

theorem HS.take {wr : World} {hb g : Nat} {ao : Option Addr} {n cap : Nat} {cs : List Chg} (h : HS wr hb g (.slice ao n cap) cs) (p : Nat) (hp : p ≤ cs.length) :
    HS (wr.setCell ⟨hb, 5, none⟩ (.slice ao p cap)) hb g (.slice ao p cap) (cs.take p) := by
  have hlen : (cs.take p).length = p := by simp; omega
  have hS := Same.set (B := wr.heap.size) (vb := hb) (j := 5) wr (.slice ao p cap)
  refine ⟨(h.rh.set 5 _).congr (fun j _ => by show (if j = 5 then _ else if j = 5 then _ else _) = if j = 5 then _ else _; split <;> rfl), ?_, fun k hk => h.blk k (by cases ao <;> exact hk), fun c hc => (h.ok c (List.mem_of_mem_take hc)).keep hS.size (fun b hb' hlt => ⟨hS.block b hlt hb'.1, hb'⟩), h.gne⟩
  refine owns6_setOther (base := hb + 1) ?_ (show hb < hb + 1 by omega) _
  refine ⟨by rw [cellsOf_length], ?_⟩
  rcases h.own.2 with ⟨e, h0⟩ | ⟨g', cap', cur, e, hg, hc, hn, hm, hcs, ht⟩
  · simp at e
    obtain ⟨rfl, rfl, rfl⟩ := e
    refine .inl ⟨?_, by omega⟩
    rw [show p = 0 by omega]
  · simp at e
    obtain ⟨rfl, rfl, rfl⟩ := e
    refine .inr ⟨g', cap, cur, by rw [hlen], hg, hc, by omega, hm, hcs, ?_⟩
    rw [cellsOf_take, hlen, ← ht, List.take_take]
    congr 1
    omega

set_option maxRecDepth 100000 in
theorem cut_any (hb g : Nat) (v : Value) (cs : List Chg) (x : Int) (hx0 : 0 ≤ x) (hx1 : x ≤ 18446744073709551615) (w : World) (hl : cs.length ≤ 100000) (h : HS w hb g v cs) (hs : ∀ i j, i < j → j < cs.length → ix cs i ≤ ix cs j) :
    Calls Tryf.prog 48 #[.pointer (some ⟨hb, 0, none⟩), .int .u64 x] w fun e w' => e = .returned (.tuple #[]) ∧ (∃ v' p, Parts cs.length (ix cs) x p ∧ HS w' hb g v' (cs.take p)) ∧ Below hb w w' := by
  obtain ⟨ao, cap, rfl, hcap1, hcap2, hao, _⟩ := h.open
  unfold maxLen at hcap2
  have k5 : w.cell? ⟨hb, 5, none⟩ = some (.slice ao cs.length cap) := by have := h.rh.cell (i := 5) (by omega); simpa using this
  have f5 := h.rh.frozen 5
  have hhb := h.rh.lt
  have hwr : IntKind.u64.wrap (IntKind.u64.wrap (x - 1) + 1) = x := by simp [IntKind.wrap, IntKind.bits, IntKind.signed]; omega
  have haf := after_any hb ao g cs.length cap (ix cs) (sx cs) (IntKind.u64.wrap (x - 1)) x hwr w.drew (by omega) k5 hao h.rowC hs
  have haf' : Calls Tryf.prog 58 #[.pointer (some ⟨hb, 0, none⟩), .int .u64 (IntKind.u64.wrap (x - 1))] w.drew fun e w1 => ∃ p : Nat, e = .returned (.int .i64 p) ∧ p ≤ cs.length ∧ w1.cell? ⟨hb, 5, none⟩ = some (.slice ao cs.length cap) ∧ w1.frozen? ⟨hb, 5, none⟩ = false ∧ Hid (Parts cs.length (ix cs) x p ∧ HS w1 hb g (.slice ao cs.length cap) cs ∧ Below w.heap.size w w1) := by
    refine haf.mono ?_
    rintro e w1 ⟨⟨p, rfl, hp⟩, hb1⟩
    have hb2 : Below w.heap.size w w1 := ((Below.refl _ w).drew).trans hb1
    have h2 := h.below hb2
    exact ⟨p, rfl, hp.1, by have := h2.rh.cell (i := 5) (by omega); simpa using this, h2.rh.frozen 5, hp, h2, hb2⟩
  have hsh : (ao = none ∧ cap = 0 ∧ cs.length = 0) ∨ ao = some ⟨g, 0, none⟩ := by
    rcases h.own.2 with ⟨e, h0⟩ | ⟨g', cap', cur, e, _⟩
    · simp at e; exact .inl ⟨e.1, e.2.2, h0⟩
    · simp at e
      have := h.blk g' (by rw [e.1]; rfl)
      rw [e.1, this]; exact .inr rfl
  clear hs h hwr haf
  rcases hsh with ⟨rfl, rfl, hc0⟩ | rfl
  · have hcs : cs = [] := List.length_eq_zero_iff.1 hc0
    subst hcs
    clear hc0 hao
    have haf'' := haf'
    simp only [List.length_nil] at haf'' k5
    clear haf'
    go_enter Tryf.func48, Tryf.ntmps48
    go_wp2_with fail
    go_region_with (go_at_call 58; refine haf''.mono ?_; rintro e w1 ⟨p, rfl, hp0, hk5, hf5, HX⟩; obtain rfl : p = 0 := Nat.le_zero.1 hp0)
    all_goals go_wp2_with fail
    all_goals go_end0
    all_goals exact ⟨rfl, ⟨_, 0, HX.out.1, HX.out.2.1.take 0 (Nat.le_refl _)⟩, (HX.out.2.2.mono (Nat.le_of_lt hhb)).setCell (p := ⟨hb, 5, none⟩) (Nat.le_refl _) _⟩
  · clear hao
    go_enter Tryf.func48, Tryf.ntmps48
    go_wp2_with fail
    go_region_with (go_at_call 58; refine haf'.mono ?_; rintro e w1 ⟨p, rfl, hp0, hk5, hf5, HX⟩)
    all_goals go_wp2_with fail
    all_goals go_end0
    all_goals exact ⟨rfl, ⟨_, p, HX.out.1, HX.out.2.1.take p hp0⟩, (HX.out.2.2.mono (Nat.le_of_lt hhb)).setCell (p := ⟨hb, 5, none⟩) (Nat.le_refl _) _⟩
end Go.Proofs.Qxb6615150aFmt
