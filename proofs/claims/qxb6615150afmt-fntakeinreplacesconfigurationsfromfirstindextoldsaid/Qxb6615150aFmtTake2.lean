import Derived.Test.Qxb6615150aFmtTake
namespace Go.Proofs.Qxb6615150aFmt
open Go.RowKit Go.Lib

theorem count_any (hb g : Nat) (v : Value) (cs : List Chg) (w : World) (h : HS w hb g v cs) : Calls Tryf.prog 23 #[.pointer (some ⟨hb, 0, none⟩)] w fun e w' => e = .returned (.int .i64 cs.length) ∧ w' = w := by
  obtain ⟨ao, cap, rfl, _⟩ := h.open
  have k5 : w.cell? ⟨hb, 5, none⟩ = some (.slice ao cs.length cap) := by have := h.rh.cell (i := 5) (by omega); simpa using this
  clear h
  go_enter Tryf.func23, Tryf.ntmps23
  go_wp2
  go_ret
  exact ⟨rfl, rfl⟩

theorem index_any (hb g : Nat) (v : Value) (cs : List Chg) (i : Nat) (hi : i < cs.length) (w : World) (h : HS w hb g v cs) : Calls Tryf.prog 24 #[.pointer (some ⟨hb, 0, none⟩), .int .i64 i] w fun e w' => e = .returned (.int .u64 (cs[i]).idx) ∧ w' = w := by
  obtain ⟨ao, cap, rfl, _, _, hao, _⟩ := h.open
  obtain rfl := hao (by omega)
  have k5 : w.cell? ⟨hb, 5, none⟩ = some (.slice (some ⟨g, 0, none⟩) cs.length cap) := by have := h.rh.cell (i := 5) (by omega); simpa using this
  have c0 := ((h.rowC (by omega)).2 i hi).1
  have hix : ix cs i = (cs[i]).idx := by simp [ix, hi]
  rw [← hix]
  have hi1 : (i : Int) < (cs.length : Int) := by omega
  clear h hix
  go_enter Tryf.func24, Tryf.ntmps24
  go_wp2
  go_ret
  exact ⟨rfl, rfl⟩

set_option maxRecDepth 100000 in
theorem chMembership_any (hb g : Nat) (v : Value) (cs : List Chg) (i : Nat) (hi : i < cs.length) (w : World) (h : HS w hb g v cs) :
    Calls Tryf.prog 26 #[.pointer (some ⟨hb, 0, none⟩), .int .i64 i] w fun e w' => (∃ m, e = .returned m ∧ MR 0 (cs[i]).d m w') ∧ Below w.heap.size w w' := by
  obtain ⟨ao, cap, rfl, _, _, hao, _⟩ := h.open
  obtain rfl := hao (by omega)
  have k5 : w.cell? ⟨hb, 5, none⟩ = some (.slice (some ⟨g, 0, none⟩) cs.length cap) := by have := h.rh.cell (i := 5) (by omega); simpa using this
  have hrc := h.rowC (by omega)
  have hg := hrc.1
  have hcs := (hrc.2 i hi).2
  have hhb := h.rh.lt
  obtain ⟨a, b, e, m1, m2, hres, l0, l1, l3, l2, l4⟩ := h.ok cs[i] (List.getElem_mem hi)
  have hx : ∀ j x, j < 5 → [(cs[i]).s0, (cs[i]).s1, (cs[i]).s2, (cs[i]).s3, (cs[i]).s4][j]? = some x → ∀ o, (w.alloc o).cell? ⟨g, i * 6 + 1 + j, none⟩ = some x := fun j x hj hjx o => by
    have h1 := hcs j hj
    have : sx cs i j = x := by simp [sx, hi, hjx]
    rw [this] at h1
    exact (World.cell?_alloc_lt _ _ _ hg).trans h1
  generalize hc : cs[i] = c at hx l0 l1 l2 l3 l4 hres ⊢
  obtain ⟨ci, cd, s0, s1, s2, s3, s4⟩ := c
  simp only at hx l0 l1 l2 l3 l4 hres ⊢
  obtain ⟨x0, y0, e0, _, _⟩ := l0.open
  obtain ⟨x1, y1, e1, _, _⟩ := l1.open
  obtain ⟨x2, y2, e2, _, _⟩ := l2.open
  obtain ⟨x3, y3, e3, _, _⟩ := l3.open
  obtain ⟨x4, y4, e4, _, _⟩ := l4.open
  have z0 := hx 0 s0 (by omega) rfl
  have z1 := hx 1 s1 (by omega) rfl
  have z2 := hx 2 s2 (by omega) rfl
  have z3 := hx 3 s3 (by omega) rfl
  have z4 := hx 4 s4 (by omega) rfl
  have k5' : ∀ o, (w.alloc o).cell? ⟨hb, 5, none⟩ = some (.slice (some ⟨g, 0, none⟩) cs.length cap) := fun o => (World.cell?_alloc_lt _ _ _ hhb).trans k5
  have hi1 : (i : Int) < (cs.length : Int) := by omega
  have hbo : ∀ o, Below w.heap.size w (w.alloc o) := fun o => (Below.refl _ w).alloc (Nat.le_refl _) o
  have HL : Hid (DecRes cd a b e ∧ Lst (fun b => b < w.heap.size) w s0 a ∧ Lst (fun b => b < w.heap.size) w s1 b ∧ Lst (fun b => b < w.heap.size) w s3 e) := ⟨hres, l0.mono' (fun b hb _ => hb), l1.mono' (fun b hb _ => hb), l3.mono' (fun b hb _ => hb)⟩
  clear l0 l1 l2 l3 l4 hres hx hcs hrc h hc
  subst e0 e1 e2 e3 e4
  have hmm := fun o => membership_any x0 x1 x3 a.length b.length e.length y0 y1 y3 (.slice x2 m1.length y2) (.slice x4 m2.length y4) (w.alloc o)
  go_enter Tryf.func26, Tryf.ntmps26
  go_wp2_with fail
  refine (hmm _).mono ?_
  clear hmm
  rintro e' w1 ⟨rfl, hb1⟩
  have hB1 : Below w.heap.size w w1 := (hbo _).trans (hb1.mono (by simp))
  have hr : w1.rowIs w.heap.size 33 3 (fun _ => .slice none 0 0) := by
    refine ⟨#[.slice none 0 0, .slice none 0 0, .slice none 0 0], ?_, rfl, by intro i hi; rcases (show i = 0 ∨ i = 1 ∨ i = 2 by omega) with rfl | rfl | rfl <;> rfl⟩
    rw [hb1.block _ (by simp)]; exact heap_alloc_new w _
  have q0 := hr.cell (i := 0) (by omega)
  have q1 := hr.cell (i := 1) (by omega)
  have q2 := hr.cell (i := 2) (by omega)
  have qf := hr.frozen
  have hz := ((hr.set 0 (.slice x0 a.length y0)).set 1 (.slice x1 b.length y1)).set 2 (.slice x3 e.length y3)
  have hBz := ((hB1.setCell (p := ⟨w.heap.size, 0, none⟩) (Nat.le_refl _) (.slice x0 a.length y0)).setCell (p := ⟨w.heap.size, 1, none⟩) (Nat.le_refl _) (.slice x1 b.length y1)).setCell (p := ⟨w.heap.size, 2, none⟩) (Nat.le_refl _) (.slice x3 e.length y3)
  have HZ : Hid _ := And.intro hz hBz
  clear hr hz hBz hB1 hb1 hbo z0 z1 z2 z3 z4 k5' k5
  go_wp2_with fail
  obtain ⟨hz, hBz⟩ := HZ.out
  have t0 := World.rowIs.cell hz (i := 0) (by omega)
  have t1 := World.rowIs.cell hz (i := 1) (by omega)
  have t2 := World.rowIs.cell hz (i := 2) (by omega)
  simp only [Nat.reduceEqDiff, if_true, if_false] at t0 t1 t2
  generalize ((w1.setCell ⟨w.heap.size, 0, none⟩ (.slice x0 a.length y0)).setCell ⟨w.heap.size, 1, none⟩ (.slice x1 b.length y1)).setCell ⟨w.heap.size, 2, none⟩ (.slice x3 e.length y3) = wz at hBz t0 t1 t2 ⊢
  refine bodyPost_ret (v := .agg #[.slice x0 a.length y0, .slice x1 b.length y1, .slice x3 e.length y3]) (by simp [results, Tryf.results26, go_sem, t0, t1, t2]) rfl ⟨⟨_, rfl, _, _, _, a, b, e, rfl, HL.out.1, ?_, ?_, ?_⟩, hBz⟩
  · exact (HL.out.2.1.belowAt hBz (fun b hb => hb)).mono (fun b _ => Nat.zero_le _)
  · exact (HL.out.2.2.1.belowAt hBz (fun b hb => hb)).mono (fun b _ => Nat.zero_le _)
  · exact (HL.out.2.2.2.belowAt hBz (fun b hb => hb)).mono (fun b _ => Nat.zero_le _)
end Go.Proofs.Qxb6615150aFmt
