import Derived.Test.Qxb6615150aFmtNew
namespace Go.Proofs.Qxb6615150aFmt
open Go.RowKit

set_option maxRecDepth 100000 in
/-- ZZnewVoters. -/
theorem zznewVoters_any (p : Nat → Prop) (v0 v1 v2 : Value) (V O L : List Int) (w : World) (hV : V.length ≤ 1100000) (hO : O.length ≤ 1100000) (hL : L.length ≤ 1100000) (h0 : InL p w v0 V) (h1 : InL p w v1 O) (h2 : InL p w v2 L) :
    Calls Tryf.prog 10 #[.agg #[v0, v1, v2]] w fun e w' => (NVbad w.heap.size V O L e w' ∨ NVgood w.heap.size V O L e w') ∧ Below w.heap.size w w' := by
  have hB0 : ∀ o1 o2, Below w.heap.size w ((w.alloc o1).alloc o2) := fun o1 o2 => ((Below.refl _ w).alloc (Nat.le_refl _) _).alloc (by simp) _
  have hNV := fun o1 o2 => newVoters_any _ v0 v1 v2 V O L ((w.alloc o1).alloc o2) hV hO hL (h0.below (hB0 o1 o2)) (h1.below (hB0 o1 o2)) (h2.below (hB0 o1 o2))
  obtain ⟨a0, c0, e0, _, _⟩ := h0.open
  obtain ⟨a1, c1, e1, _, _⟩ := h1.open
  obtain ⟨a2, c2, e2, _, _⟩ := h2.open
  clear h0 h1 h2
  subst e0 e1 e2
  go_enter Tryf.func10, Tryf.ntmps10
  go_wp2_with fail
  refine (hNV _ _).mono ?_
  clear hNV
  rintro e w1 ⟨hc, hb⟩
  have hB1 : Below w.heap.size w w1 := (hB0 _ _).trans (hb.mono (by simp; omega))
  have rr : w1.rowIs (w.heap.size + 1) 27 5 (fun _ => .slice none 0 0) := by
    refine World.rowIs.of_block (w := (w.alloc (.cells #[.slice a0 V.length c0, .slice a1 O.length c1, .slice a2 L.length c2] 33)).alloc (.cells #[.slice none 0 0, .slice none 0 0, .slice none 0 0, .slice none 0 0, .slice none 0 0] 27)) ?_ (hb.block _ (by simp))
    refine ⟨_, by simpa using heap_alloc_new (w.alloc (.cells #[.slice a0 V.length c0, .slice a1 O.length c1, .slice a2 L.length c2] 33)) _, rfl, ?_⟩
    intro i hi
    rcases (show i = 0 ∨ i = 1 ∨ i = 2 ∨ i = 3 ∨ i = 4 by omega) with rfl | rfl | rfl | rfl | rfl <;> rfl
  have q0 := rr.cell (i := 0) (by omega)
  have q1 := rr.cell (i := 1) (by omega)
  have q2 := rr.cell (i := 2) (by omega)
  have q3 := rr.cell (i := 3) (by omega)
  have q4 := rr.cell (i := 4) (by omega)
  have qf := rr.frozen
  have hsz : ((w.alloc (.cells #[.slice a0 V.length c0, .slice a1 O.length c1, .slice a2 L.length c2] 33)).alloc (.cells #[.slice none 0 0, .slice none 0 0, .slice none 0 0, .slice none 0 0, .slice none 0 0] 27)).heap.size = w.heap.size + 2 := by simp
  rw [hsz] at hc
  have HR : Hid (w1.rowIs (w.heap.size + 1) 27 5 (fun _ => .slice none 0 0)) := rr
  have HB : Hid (Below w.heap.size w w1) := hB1
  clear hb hB0 rr hB1 hsz
  rcases hc with ⟨hno, err, rfl, hpe⟩ | ⟨hok, s0, s1, s2, s3, s4, rfl, l0, l1, l2, l3, l4⟩
  · have HP : Hid (¬ NVok V O L ∧ PlainErr (w.heap.size + 2) w1 err) := ⟨hno, hpe⟩
    clear hno hpe
    unfold nils
    go_wp2_with fail
    have hl2 : w.heap.size + 1 < w.heap.size + 2 := by omega
    have hl : w.heap.size ≤ w.heap.size + 1 := by omega
    refine bodyPost_ret (v := .tuple #[nils, err]) (by simp [results, Tryf.results10, go_sem, nils, q0, q1, q2, q3, q4]) rfl ⟨.inl ⟨HP.out.1, err, rfl, ?_⟩, ?_⟩
    · exact (((((HP.out.2.setCell (a := ⟨w.heap.size + 1, 0, none⟩) hl2 _).setCell (a := ⟨w.heap.size + 1, 1, none⟩) hl2 _).setCell (a := ⟨w.heap.size + 1, 2, none⟩) hl2 _).setCell (a := ⟨w.heap.size + 1, 3, none⟩) hl2 _).setCell (a := ⟨w.heap.size + 1, 4, none⟩) hl2 _).mono (by omega)
    · exact ((((HB.out.setCell (p := ⟨w.heap.size + 1, 0, none⟩) hl _).setCell (p := ⟨w.heap.size + 1, 1, none⟩) hl _).setCell (p := ⟨w.heap.size + 1, 2, none⟩) hl _).setCell (p := ⟨w.heap.size + 1, 3, none⟩) hl _).setCell (p := ⟨w.heap.size + 1, 4, none⟩) hl _
  · obtain ⟨b0, d0, f0, _, _⟩ := l0.open
    obtain ⟨b1, d1, f1, _, _⟩ := l1.open
    obtain ⟨b2, d2, f2, _, _⟩ := l2.open
    obtain ⟨b3, d3, f3, _, _⟩ := l3.open
    obtain ⟨b4, d4, f4, _, _⟩ := l4.open
    have HL : Hid (NVok V O L ∧ Lst (w.heap.size + 2 ≤ ·) w1 s0 (srt V) ∧ Lst (w.heap.size + 2 ≤ ·) w1 s1 (srt O) ∧ Lst (w.heap.size + 2 ≤ ·) w1 s2 (allOf V O) ∧ Lst (w.heap.size + 2 ≤ ·) w1 s3 (srt L) ∧ Lst (w.heap.size + 2 ≤ ·) w1 s4 (memOf V O L)) := ⟨hok, l0, l1, l2, l3, l4⟩
    clear hok l0 l1 l2 l3 l4
    subst f0 f1 f2 f3 f4
    go_wp2_with fail
    refine bodyPost_ret (v := .tuple #[.agg #[.slice b0 (srt V).length d0, .slice b1 (srt O).length d1, .slice b2 (allOf V O).length d2, .slice b3 (srt L).length d3, .slice b4 (memOf V O L).length d4], .nilIface]) (by simp [results, Tryf.results10, go_sem, q0, q1, q2, q3, q4]) rfl ?_
    have hS := Same.set5 (B := w1.heap.size) w1 (w.heap.size + 1) (.slice b0 (srt V).length d0) (.slice b1 (srt O).length d1) (.slice b2 (allOf V O).length d2) (.slice b3 (srt L).length d3) (.slice b4 (memOf V O L).length d4)
    have hk : ∀ v zs, Lst (w.heap.size + 2 ≤ ·) w1 v zs → Lst (w.heap.size ≤ ·) (set5 w1 (w.heap.size + 1) (.slice b0 (srt V).length d0) (.slice b1 (srt O).length d1) (.slice b2 (allOf V O).length d2) (.slice b3 (srt L).length d3) (.slice b4 (memOf V O L).length d4)) v zs := fun v zs h =>
      ((h.keep hS.size (fun b hb hlt => hS.block b hlt (by omega)))).mono (fun b hb => by omega)
    obtain ⟨hok, l0, l1, l2, l3, l4⟩ := HL.out
    exact ⟨.inr ⟨hok, _, _, _, _, _, rfl, hk _ _ l0, hk _ _ l1, hk _ _ l2, hk _ _ l3, hk _ _ l4⟩, HB.out.trans ⟨hS.os, hS.tape, hS.output, hS.size, fun k hk' => hS.block k (by have := HB.out.size; omega) (by omega)⟩⟩
end Go.Proofs.Qxb6615150aFmt
