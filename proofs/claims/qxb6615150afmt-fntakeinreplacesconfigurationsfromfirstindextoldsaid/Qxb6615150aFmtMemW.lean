import Derived.Test.Qxb6615150aFmtDecW
import Derived.Test.Qxb6615150aFmtLaw3
namespace Go.Proofs.Qxb6615150aFmt
open Go.RowKit Go.Lib

/-- A membership that the data d brings in. -/
def MR (base : Nat) (d : List UInt8) (v : Value) (w' : World) : Prop := ∃ t0 t1 t2 a b c, v = .agg #[t0, t1, t2] ∧ DecRes d a b c ∧ Lst (base ≤ ·) w' t0 a ∧ Lst (base ≤ ·) w' t1 b ∧ Lst (base ≤ ·) w' t2 c

/-- What Entry.Membership answers. -/
def EM (base : Nat) (d : List UInt8) (e : Ending) (w' : World) : Prop := ∃ (m : Value) (r : Bool), e = .returned (.tuple #[m, .bool r]) ∧ (r = true → MR base d m w') ∧ (r = false → DecRes d [] [] [] ∧ m = .agg #[.slice none 0 0, .slice none 0 0, .slice none 0 0])

set_option maxRecDepth 100000 in
/-- Entry.Membership at an EntryVoters. -/
theorem entryMembership_any (x0 x1 x3 x4 : Int) (v : Value) (d : List UInt8) (w : World) (hd : d.length ≤ 1048576) (hv : InB w v d) :
    Calls Tryf.prog 35 #[.agg #[.int .u64 x0, .int .u64 x1, .int .u8 2, .int .u64 x3, .int .u64 x4, v]] w fun e w' => EM w.heap.size d e w' ∧ Below w.heap.size w w' := by
  obtain ⟨ao, cap, ev, _⟩ := id hv
  have hB0 : ∀ o1 o2, Below w.heap.size w ((w.alloc o1).alloc o2) := fun o1 o2 => ((Below.refl _ w).alloc (Nat.le_refl _) _).alloc (by simp) _
  have hdv := fun o1 o2 => decodeVoters_any v d ((w.alloc o1).alloc o2) hd (hv.below (hB0 o1 o2))
  subst ev
  clear hv
  go_enter Tryf.func35, Tryf.ntmps35
  go_wp2_with fail
  refine (hdv _ _).mono ?_
  clear hdv
  rintro e w1 ⟨⟨s0, s1, s2, s3, s4, err, a, b, c, m1, m2, rfl, hres, l0, l1, l3, l2, l4, herr⟩, hb⟩
  have hB1 : Below w.heap.size w w1 := (hB0 _ _).trans (hb.mono (by simp; omega))
  have rr : w1.heap[w.heap.size + 1]? = some (.cells #[.slice none 0 0, .slice none 0 0, .slice none 0 0] 33) := by
    rw [hb.block _ (by simp)]; simpa using heap_alloc_new (w.alloc (.cells #[.int .u64 x0, .int .u64 x1, .int .u8 2, .int .u64 x3, .int .u64 x4, .slice ao d.length cap] 51)) (.cells #[.slice none 0 0, .slice none 0 0, .slice none 0 0] 33)
  obtain ⟨b0, d0, f0, _, _⟩ := l0.open
  obtain ⟨b1, d1, f1, _, _⟩ := l1.open
  obtain ⟨b2, d2, f2, _, _⟩ := l2.open
  obtain ⟨b3, d3, f3, _, _⟩ := l3.open
  obtain ⟨b4, d4, f4, _, _⟩ := l4.open
  have HB : Hid (Below w.heap.size w w1) := hB1
  have HRR : Hid (w1.heap[w.heap.size + 1]? = some (.cells #[.slice none 0 0, .slice none 0 0, .slice none 0 0] 33)) := rr
  have hlt : w.heap.size + 1 < w1.heap.size := (Array.getElem?_eq_some_iff.1 rr).1
  have HL : Hid (DecRes d a b c ∧ Lst (w.heap.size + 2 ≤ ·) w1 s0 a ∧ Lst (w.heap.size + 2 ≤ ·) w1 s1 b ∧ Lst (w.heap.size + 2 ≤ ·) w1 s3 c) := ⟨hres, by simpa using l0, by simpa using l1, by simpa using l3⟩
  clear hb hB1 rr hres l0 l1 l2 l3 l4 hB0
  subst f0 f1 f2 f3 f4
  rcases herr with ⟨rfl, _⟩ | ⟨⟨t5, x5, rfl⟩, rfl, rfl, rfl⟩
  · have hmm := fun o => membership_any b0 b1 b3 a.length b.length c.length d0 d1 d3 (.slice b2 m1.length d2) (.slice b4 m2.length d4) (w1.alloc o)
    go_wp2_with fail
    refine (hmm _).mono ?_
    clear hmm
    rintro e w2 ⟨rfl, hb2⟩
    have hB2 : Below w1.heap.size w1 w2 := ((Below.refl _ w1).alloc (Nat.le_refl _) _).trans (hb2.mono (by simp))
    have rr2 : w2.heap[w.heap.size + 1]? = some (.cells #[.slice none 0 0, .slice none 0 0, .slice none 0 0] 33) := (hB2.block _ hlt).trans HRR.out
    have q0 : w2.cell? ⟨w.heap.size + 1, 0, none⟩ = some (.slice none 0 0) := by simp [World.cell?, rr2]
    have q1 : w2.cell? ⟨w.heap.size + 1, 1, none⟩ = some (.slice none 0 0) := by simp [World.cell?, rr2]
    have q2 : w2.cell? ⟨w.heap.size + 1, 2, none⟩ = some (.slice none 0 0) := by simp [World.cell?, rr2]
    have qf : ∀ j, w2.frozen? ⟨w.heap.size + 1, j, none⟩ = false := by intro j; simp [World.frozen?, rr2]
    have HB2 : Hid (Below w1.heap.size w1 w2) := hB2
    clear hb2 hB2 rr2
    go_wp2_with fail
    refine bodyPost_ret (v := .tuple #[.agg #[.slice b0 a.length d0, .slice b1 b.length d1, .slice b3 c.length d3], .bool true]) (by simp [results, Tryf.results35, go_sem, q0, q1, q2]) rfl ⟨⟨_, true, rfl, fun _ => ?_, fun h => by cases h⟩, ?_⟩
    · have hS : Same w2.heap.size (w.heap.size + 1) w2 (((w2.setCell ⟨w.heap.size + 1, 0, none⟩ (.slice b0 a.length d0)).setCell ⟨w.heap.size + 1, 1, none⟩ (.slice b1 b.length d1)).setCell ⟨w.heap.size + 1, 2, none⟩ (.slice b3 c.length d3)) :=
        ((Same.set w2 _).trans (Same.set (j := 1) (w2.setCell ⟨w.heap.size + 1, 0, none⟩ (.slice b0 a.length d0)) _)).trans (Same.set (j := 2) ((w2.setCell ⟨w.heap.size + 1, 0, none⟩ (.slice b0 a.length d0)).setCell ⟨w.heap.size + 1, 1, none⟩ (.slice b1 b.length d1)) _)
      have hk : ∀ v zs, Lst (w.heap.size + 2 ≤ ·) w1 v zs → Lst (w.heap.size ≤ ·) _ v zs := fun v zs h => (((h.below HB2.out).keep hS.size (fun b hb hlt => hS.block b hlt (by omega)))).mono (fun b hb => by omega)
      exact ⟨_, _, _, a, b, c, rfl, HL.out.1, hk _ _ HL.out.2.1, hk _ _ HL.out.2.2.1, hk _ _ HL.out.2.2.2⟩
    · have hl : w.heap.size ≤ w.heap.size + 1 := by omega
      exact (((HB.out.trans (HB2.out.mono HB.out.size)).setCell (p := ⟨w.heap.size + 1, 0, none⟩) hl _).setCell (p := ⟨w.heap.size + 1, 1, none⟩) hl _).setCell (p := ⟨w.heap.size + 1, 2, none⟩) hl _
  · have q0 : w1.cell? ⟨w.heap.size + 1, 0, none⟩ = some (.slice none 0 0) := by simp [World.cell?, HRR.out]
    have q1 : w1.cell? ⟨w.heap.size + 1, 1, none⟩ = some (.slice none 0 0) := by simp [World.cell?, HRR.out]
    have q2 : w1.cell? ⟨w.heap.size + 1, 2, none⟩ = some (.slice none 0 0) := by simp [World.cell?, HRR.out]
    have qf : ∀ j, w1.frozen? ⟨w.heap.size + 1, j, none⟩ = false := by intro j; simp [World.frozen?, HRR.out]
    have hr : w1.rowIs (w.heap.size + 1) 33 3 (fun _ => .slice none 0 0) := ⟨_, HRR.out, rfl, by intro i hi; rcases (show i = 0 ∨ i = 1 ∨ i = 2 by omega) with rfl | rfl | rfl <;> rfl⟩
    have hz := fun o => (((hr.set 0 (.slice none 0 0)).set 1 (.slice none 0 0)).set 2 (.slice none 0 0)).alloc o
    have z0 := fun o => (hz o).cell (i := 0) (by omega)
    have z1 := fun o => (hz o).cell (i := 1) (by omega)
    have z2 := fun o => (hz o).cell (i := 2) (by omega)
    simp at z0 z1 z2
    clear hz hr
    go_wp2_with fail
    refine bodyPost_ret (v := .tuple #[.agg #[.slice none 0 0, .slice none 0 0, .slice none 0 0], .bool false]) (by simp [results, Tryf.results35, go_sem, z0, z1, z2]) rfl ⟨⟨_, false, rfl, (fun h => by cases h), fun _ => ⟨HL.out.1, rfl⟩⟩, ?_⟩
    have hl : w.heap.size ≤ w.heap.size + 1 := by omega
    have h3 := ((HB.out.setCell (p := ⟨w.heap.size + 1, 0, none⟩) hl (.slice none 0 0)).setCell (p := ⟨w.heap.size + 1, 1, none⟩) hl (.slice none 0 0)).setCell (p := ⟨w.heap.size + 1, 2, none⟩) hl (.slice none 0 0)
    exact h3.alloc h3.size _

set_option maxRecDepth 100000 in
/-- membershipOf at an EntryVoters. -/
theorem membershipOf_any (x0 x1 x3 x4 : Int) (v : Value) (d : List UInt8) (w : World) (hd : d.length ≤ 1048576) (hv : InB w v d) :
    Calls Tryf.prog 27 #[.agg #[.int .u64 x0, .int .u64 x1, .int .u8 2, .int .u64 x3, .int .u64 x4, v]] w fun e w' => (∃ m, e = .returned m ∧ MR w.heap.size d m w') ∧ Below w.heap.size w w' := by
  obtain ⟨ao, cap, ev, _⟩ := id hv
  have hB0 : ∀ o1 o2, Below w.heap.size w ((w.alloc o1).alloc o2) := fun o1 o2 => ((Below.refl _ w).alloc (Nat.le_refl _) _).alloc (by simp) _
  have hem := fun o1 o2 => entryMembership_any x0 x1 x3 x4 v d ((w.alloc o1).alloc o2) hd (hv.below (hB0 o1 o2))
  subst ev
  clear hv
  go_enter Tryf.func27, Tryf.ntmps27
  go_wp2_with fail
  refine (hem _ _).mono ?_
  clear hem
  rintro e w1 ⟨⟨m, r, rfl, hr1, hr2⟩, hb⟩
  have hB1 : Below w.heap.size w w1 := (hB0 _ _).trans (hb.mono (by simp; omega))
  have hr : w1.rowIs (w.heap.size + 1) 33 3 (fun _ => .slice none 0 0) := by
    refine ⟨#[.slice none 0 0, .slice none 0 0, .slice none 0 0], ?_, rfl, by intro i hi; rcases (show i = 0 ∨ i = 1 ∨ i = 2 by omega) with rfl | rfl | rfl <;> rfl⟩
    rw [hb.block _ (by simp)]; simpa using heap_alloc_new (w.alloc (.cells #[.int .u64 x0, .int .u64 x1, .int .u8 2, .int .u64 x3, .int .u64 x4, .slice ao d.length cap] 51)) (.cells #[.slice none 0 0, .slice none 0 0, .slice none 0 0] 33)
  have hl : w.heap.size ≤ w.heap.size + 1 := by omega
  have hsz2 : w.heap.size + 2 ≤ w1.heap.size := by have := hb.size; simpa using this
  clear hb hB0
  have fin : ∀ t0 t1 t2 a b c, DecRes d a b c → Lst (w.heap.size + 2 ≤ ·) w1 t0 a → Lst (w.heap.size + 2 ≤ ·) w1 t1 b → Lst (w.heap.size + 2 ≤ ·) w1 t2 c → ∀ o,
      ((((w1.alloc o).setCell ⟨w.heap.size + 1, 0, none⟩ t0).setCell ⟨w.heap.size + 1, 1, none⟩ t1).setCell ⟨w.heap.size + 1, 2, none⟩ t2).rowIs (w.heap.size + 1) 33 3 (fun j => if j = 2 then t2 else if j = 1 then t1 else if j = 0 then t0 else .slice none 0 0) ∧
      MR w.heap.size d (.agg #[t0, t1, t2]) ((((w1.alloc o).setCell ⟨w.heap.size + 1, 0, none⟩ t0).setCell ⟨w.heap.size + 1, 1, none⟩ t1).setCell ⟨w.heap.size + 1, 2, none⟩ t2) ∧ Below w.heap.size w ((((w1.alloc o).setCell ⟨w.heap.size + 1, 0, none⟩ t0).setCell ⟨w.heap.size + 1, 1, none⟩ t1).setCell ⟨w.heap.size + 1, 2, none⟩ t2) := by
    intro t0 t1 t2 a b c hres k0 k1 k2 o
    have hba : Below w1.heap.size w1 (w1.alloc o) := (Below.refl _ w1).alloc (Nat.le_refl _) o
    have hS : Same (w1.alloc o).heap.size (w.heap.size + 1) (w1.alloc o) ((((w1.alloc o).setCell ⟨w.heap.size + 1, 0, none⟩ t0).setCell ⟨w.heap.size + 1, 1, none⟩ t1).setCell ⟨w.heap.size + 1, 2, none⟩ t2) :=
      ((Same.set (w1.alloc o) _).trans (Same.set (j := 1) ((w1.alloc o).setCell ⟨w.heap.size + 1, 0, none⟩ t0) _)).trans (Same.set (j := 2) (((w1.alloc o).setCell ⟨w.heap.size + 1, 0, none⟩ t0).setCell ⟨w.heap.size + 1, 1, none⟩ t1) _)
    have h3 := (((hB1.trans (hba.mono hB1.size)).setCell (p := ⟨w.heap.size + 1, 0, none⟩) hl t0).setCell (p := ⟨w.heap.size + 1, 1, none⟩) hl t1).setCell (p := ⟨w.heap.size + 1, 2, none⟩) hl t2
    have hk : ∀ v zs, Lst (w.heap.size + 2 ≤ ·) w1 v zs → Lst (w.heap.size ≤ ·) ((((w1.alloc o).setCell ⟨w.heap.size + 1, 0, none⟩ t0).setCell ⟨w.heap.size + 1, 1, none⟩ t1).setCell ⟨w.heap.size + 1, 2, none⟩ t2) v zs := fun v zs h =>
      (((h.below hba).keep hS.size (fun b hb hlt => hS.block b hlt (by omega)))).mono (q := (w.heap.size ≤ ·)) (fun b hb => by omega)
    exact ⟨(((hr.alloc o).set 0 t0).set 1 t1).set 2 t2, ⟨t0, t1, t2, a, b, c, rfl, hres, hk _ _ k0, hk _ _ k1, hk _ _ k2⟩, h3⟩
  have q0 := hr.cell (i := 0) (by omega)
  have q1 := hr.cell (i := 1) (by omega)
  have q2 := hr.cell (i := 2) (by omega)
  have qf := hr.frozen
  have ra := fun o => hr.alloc o
  have qa0 := fun o => (ra o).cell (i := 0) (by omega)
  have qa1 := fun o => (ra o).cell (i := 1) (by omega)
  have qa2 := fun o => (ra o).cell (i := 2) (by omega)
  have qaf := fun o => (ra o).frozen
  clear ra
  have HF : Hid (∀ t0 t1 t2 a b c, DecRes d a b c → Lst (w.heap.size + 2 ≤ ·) w1 t0 a → Lst (w.heap.size + 2 ≤ ·) w1 t1 b → Lst (w.heap.size + 2 ≤ ·) w1 t2 c → ∀ o, _ ∧ _ ∧ _) := fin
  clear fin hr hB1
  cases r with
  | true =>
    obtain ⟨t0, t1, t2, a, b, c, rfl, hres, k0, k1, k2⟩ := hr1 rfl
    obtain ⟨b0, d0, f0, _, _⟩ := k0.open
    obtain ⟨b1, d1, f1, _, _⟩ := k1.open
    obtain ⟨b2, d2, f2, _, _⟩ := k2.open
    have HG : Hid (∀ o, _ ∧ _ ∧ _) := HF.out t0 t1 t2 a b c hres (by simpa using k0) (by simpa using k1) (by simpa using k2)
    clear hr1 hr2 hres k0 k1 k2 HF
    subst f0 f1 f2
    go_wp2_with fail
    obtain ⟨g1, g2, g3⟩ := HG.out (.cells #[.slice b0 a.length d0, .slice b1 b.length d1, .slice b2 c.length d2] 33)
    have z0 := g1.cell (i := 0) (by omega)
    have z1 := g1.cell (i := 1) (by omega)
    have z2 := g1.cell (i := 2) (by omega)
    simp only [Nat.reduceEqDiff, if_true, if_false] at z0 z1 z2
    generalize ((((w1.alloc (.cells #[.slice b0 a.length d0, .slice b1 b.length d1, .slice b2 c.length d2] 33)).setCell ⟨w.heap.size + 1, 0, none⟩ (.slice b0 a.length d0)).setCell ⟨w.heap.size + 1, 1, none⟩ (.slice b1 b.length d1)).setCell ⟨w.heap.size + 1, 2, none⟩ (.slice b2 c.length d2)) = wz at g2 g3 z0 z1 z2 ⊢
    refine bodyPost_ret (v := .agg #[.slice b0 a.length d0, .slice b1 b.length d1, .slice b2 c.length d2]) (by simp [results, Tryf.results27, go_sem, z0, z1, z2]) rfl ⟨⟨_, rfl, g2⟩, g3⟩
  | false =>
    obtain ⟨hres, rfl⟩ := hr2 rfl
    have HG : Hid (∀ o, _ ∧ _ ∧ _) := HF.out _ _ _ [] [] [] hres (Lst.nil _ _) (Lst.nil _ _) (Lst.nil _ _)
    clear hr1 hr2 hres HF
    go_wp2_with fail
    obtain ⟨g1, g2, g3⟩ := HG.out (.cells #[.slice none 0 0, .slice none 0 0, .slice none 0 0] 33)
    have z0 := g1.cell (i := 0) (by omega)
    have z1 := g1.cell (i := 1) (by omega)
    have z2 := g1.cell (i := 2) (by omega)
    simp only [Nat.reduceEqDiff, if_true, if_false] at z0 z1 z2
    generalize ((((w1.alloc (.cells #[.slice none 0 0, .slice none 0 0, .slice none 0 0] 33)).setCell ⟨w.heap.size + 1, 0, none⟩ (.slice none 0 0)).setCell ⟨w.heap.size + 1, 1, none⟩ (.slice none 0 0)).setCell ⟨w.heap.size + 1, 2, none⟩ (.slice none 0 0)) = wz at g2 g3 z0 z1 z2 ⊢
    refine bodyPost_ret (v := .agg #[.slice none 0 0, .slice none 0 0, .slice none 0 0]) (by simp [results, Tryf.results27, go_sem, z0, z1, z2]) rfl ⟨⟨_, rfl, g2⟩, g3⟩

/-- sameMembership over the memberships of one data: true. -/
theorem sameMembership_any (b1 b2 : Nat) (d : List UInt8) (m1 m2 : Value) (w : World) (hd : d.length ≤ 1048576) (h1 : MR b1 d m1 w) (h2 : MR b2 d m2 w) :
    Calls Tryf.prog 25 #[m1, m2] w fun e w' => e = .returned (.bool true) ∧ Below w.heap.size w w' := by
  obtain ⟨t0, t1, t2, a, b, c, rfl, hr, k0, k1, k2⟩ := h1
  obtain ⟨u0, u1, u2, a', b', c', rfl, hr', l0, l1, l2⟩ := h2
  obtain ⟨rfl, rfl, rfl⟩ := hr.unique hr'
  have hlen : a.length ≤ 1048576 ∧ b.length ≤ 1048576 ∧ c.length ≤ 1048576 := by
    rcases hr with ⟨V, O, L, h, rfl, rfl, rfl⟩ | ⟨_, rfl, rfl, rfl⟩
    · have hd3 := h.1
      unfold rd3 at hd3
      split at hd3
      · cases hd3
      · rename_i V' d1 e1
        have q1 := rdList_length e1
        split at hd3
        · cases hd3
        · rename_i O' d2 e2
          have q2 := rdList_length e2
          split at hd3
          · simp only [Option.some.injEq, Prod.mk.injEq] at hd3
            obtain ⟨rfl, rfl, rfl, _⟩ := hd3
            simp [srt_length]; omega
          · split at hd3
            · cases hd3
            · rename_i L' d3 e3
              have q3 := rdList_length e3
              simp only [Option.some.injEq, Prod.mk.injEq] at hd3
              obtain ⟨rfl, rfl, rfl, _⟩ := hd3
              simp [srt_length]; omega
    · simp
  have hB0 : ∀ o1 o2 q, Below w.heap.size w (((w.alloc o1).alloc o2).drewN q) := fun o1 o2 q => below_drewN (((Below.refl _ w).alloc (Nat.le_refl _) _).alloc (by simp) _) q
  have s1 := fun o1 o2 q => sameList_lst _ _ _ _ a a (((w.alloc o1).alloc o2).drewN q) (by omega) (by omega) (k0.below (hB0 o1 o2 q)) (l0.below (hB0 o1 o2 q))
  have s2 := fun o1 o2 q => sameList_lst _ _ _ _ b b (((w.alloc o1).alloc o2).drewN q) (by omega) (by omega) (k1.below (hB0 o1 o2 q)) (l1.below (hB0 o1 o2 q))
  have s3 := fun o1 o2 q => sameList_lst _ _ _ _ c c (((w.alloc o1).alloc o2).drewN q) (by omega) (by omega) (k2.below (hB0 o1 o2 q)) (l2.below (hB0 o1 o2 q))
  obtain ⟨x0, y0, e0, _, _⟩ := k0.open
  obtain ⟨x1, y1, e1, _, _⟩ := k1.open
  obtain ⟨x2, y2, e2, _, _⟩ := k2.open
  obtain ⟨x3, y3, e3, _, _⟩ := l0.open
  obtain ⟨x4, y4, e4, _, _⟩ := l1.open
  obtain ⟨x5, y5, e5, _, _⟩ := l2.open
  have HB0 : Hid (∀ o1 o2 q, Below w.heap.size w (((w.alloc o1).alloc o2).drewN q)) := hB0
  clear k0 k1 k2 l0 l1 l2 hr hr' hB0 hlen
  subst e0 e1 e2 e3 e4 e5
  go_enter Tryf.func25, Tryf.ntmps25
  go_wp2_with fail
  refine (s1 _ _ 0).mono ?_
  clear s1
  rintro e w' ⟨⟨r, rfl, hr⟩, q1, rfl⟩
  have hrt : r = true := hr.2 (by trivial)
  subst hrt
  clear hr
  go_wp2_with fail
  refine (s2 _ _ q1).mono ?_
  clear s2
  rintro e w' ⟨⟨r, rfl, hr⟩, q2, rfl⟩
  have hrt : r = true := hr.2 (by trivial)
  subst hrt
  clear hr
  go_wp2_with fail
  refine (s3 _ _ (q1 + q2)).mono ?_
  clear s3
  rintro e w' ⟨⟨r, rfl, hr⟩, q3, rfl⟩
  have hrt : r = true := hr.2 (by trivial)
  subst hrt
  clear hr
  go_wp2_with fail
  go_ret
  exact ⟨rfl, HB0.out _ _ _⟩
end Go.Proofs.Qxb6615150aFmt
