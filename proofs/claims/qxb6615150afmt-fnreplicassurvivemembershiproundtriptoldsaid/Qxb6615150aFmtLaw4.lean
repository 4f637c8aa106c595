import Derived.Test.Qxb6615150aFmtLaw3
namespace Go.Proofs.Qxb6615150aFmt
open Go.RowKit

set_option maxRecDepth 100000 in
set_option maxHeartbeats 1000000 in
theorem law4_walk (p : Nat → Prop) (x y z : Value) (V O L : List Int) (w : World) (hx : InL p w x V) (hy : InL p w y O) (hz : InL p w z L) (pV : ∀ x, x ∈ V → 0 ≤ x) (pO : ∀ x, x ∈ O → 0 ≤ x) (pL : ∀ x, x ∈ L → 0 ≤ x) :
    Calls Tryf.prog 4 #[x, y, z] w fun e w' => e = .returned (.bool true) ∧ Below w.heap.size w w' := by
  obtain ⟨ax, cx, ex, _, _⟩ := hx.open
  obtain ⟨ay, cy, ey, _, _⟩ := hy.open
  obtain ⟨az, cz, ez, _, _⟩ := hz.open
  have HX : Hid (InL p w (.slice ax V.length cx) V) := ex ▸ hx
  have HY : Hid (InL p w (.slice ay O.length cy) O) := ey ▸ hy
  have HZ : Hid (InL p w (.slice az L.length cz) L) := ez ▸ hz
  have HP : Hid ((∀ x, x ∈ V → 0 ≤ x) ∧ (∀ x, x ∈ O → 0 ≤ x) ∧ (∀ x, x ∈ L → 0 ≤ x)) := ⟨pV, pO, pL⟩
  clear hx hy hz pV pO pL
  subst ex ey ez
  have hzb := zzBytesB ax ay az V.length O.length L.length cx cy cz w
  go_enter Tryf.func4, Tryf.ntmps4
  go_wp2_with fail
  refine hzb.mono ?_
  clear hzb
  rintro e w' ⟨⟨r, rfl, hr⟩, rfl⟩
  cases r with
  | false =>
    clear hr
    go_wp2_with fail
    go_ret
    exact ⟨rfl, Below.refl _ _⟩
  | true =>
    clear hr
    by_cases hs : V.length + O.length + L.length ≤ 131072
    · have d1 : decide ((131072 : Int) < (V.length : Int)) = false := by simp; omega
      have d2 : decide ((131072 : Int) < (O.length : Int)) = false := by simp; omega
      have d3 : decide ((131072 : Int) < (L.length : Int)) = false := by simp; omega
      have d4 : decide ((131072 : Int) < (V.length : Int) + (O.length : Int) + (L.length : Int)) = false := by simp; omega
      go_wp2_with fail
      clear d1 d2 d3 d4
      refine (sortedCopy_in p _ V _ (by omega) HX.out).mono ?_
      rintro e w1 ⟨v1, rfl, hv1, hB1⟩
      obtain ⟨a1, c1, e1, _, _⟩ := hv1.open
      subst e1
      have H1 : Hid (Lst (w'.heap.size ≤ ·) w1 (.slice a1 (srt V).length c1) (srt V) ∧ Below w'.heap.size w' w1) := ⟨hv1, hB1⟩
      clear hv1 hB1
      go_wp2_with fail
      refine (sortedCopy_in p _ O _ (by omega) (HY.out.below H1.out.2)).mono ?_
      rintro e w2 ⟨v2, rfl, hv2, hB2⟩
      obtain ⟨a2, c2, e2, _, _⟩ := hv2.open
      subst e2
      have H2 : Hid (Lst (w'.heap.size ≤ ·) w2 (.slice a1 (srt V).length c1) (srt V) ∧ Lst (w'.heap.size ≤ ·) w2 (.slice a2 (srt O).length c2) (srt O) ∧ Below w'.heap.size w' w2) := ⟨H1.out.1.below hB2, hv2.mono (fun b hb => Nat.le_trans H1.out.2.size hb), H1.out.2.trans (hB2.mono H1.out.2.size)⟩
      clear hv2 hB2 H1
      go_wp2_with fail
      refine (sortedCopy_in p _ L _ (by omega) (HZ.out.below H2.out.2.2)).mono ?_
      rintro e w3 ⟨v3, rfl, hv3, hB3⟩
      obtain ⟨a3, c3, e3, _, _⟩ := hv3.open
      subst e3
      have H3 : Hid (Lst (w'.heap.size ≤ ·) w3 (.slice a1 (srt V).length c1) (srt V) ∧ Lst (w'.heap.size ≤ ·) w3 (.slice a2 (srt O).length c2) (srt O) ∧ Lst (w'.heap.size ≤ ·) w3 (.slice a3 (srt L).length c3) (srt L) ∧ Below w'.heap.size w' w3) :=
        ⟨H2.out.1.below hB3, H2.out.2.1.below hB3, hv3.mono (fun b hb => Nat.le_trans H2.out.2.2.size hb), H2.out.2.2.trans (hB3.mono H2.out.2.2.size)⟩
      clear hv3 hB3 H2
      go_wp2_with fail
      refine (modelAccepts_lst _ _ _ _ _ _ V O L w3 (by omega) (by omega) (by omega) H3.out.1 H3.out.2.1 H3.out.2.2.1 HP.out.1 HP.out.2.1 HP.out.2.2).mono ?_
      rintro e w4 ⟨⟨acc, rfl, hacc⟩, q, rfl⟩
      cases acc with
      | false =>
        clear hacc
        have HB : Hid (Below w'.heap.size w' (w3.drewN q)) := below_drewN H3.out.2.2.2 q
        go_wp2_with fail
        go_ret
        exact ⟨rfl, HB.out⟩
      | true =>
      have HA : Hid (NVok V O L) := hacc.1 rfl
      clear hacc
      have H4 : Hid (Lst (w'.heap.size ≤ ·) (w3.drewN q) (.slice a1 (srt V).length c1) (srt V) ∧ Lst (w'.heap.size ≤ ·) (w3.drewN q) (.slice a2 (srt O).length c2) (srt O) ∧ Lst (w'.heap.size ≤ ·) (w3.drewN q) (.slice a3 (srt L).length c3) (srt L) ∧ Below w'.heap.size w' (w3.drewN q)) :=
        ⟨H3.out.1, H3.out.2.1, H3.out.2.2.1, below_drewN H3.out.2.2.2 q⟩
      generalize w3.drewN q = w4 at H4 ⊢
      clear H3
      go_wp2_with fail
      refine (zznewVoters_any p _ _ _ V O L w4 (by omega) (by omega) (by omega) (HX.out.below H4.out.2.2.2) (HY.out.below H4.out.2.2.2) (HZ.out.below H4.out.2.2.2)).mono ?_
      rintro e w5 ⟨hc, hB5⟩
      rcases hc with ⟨hno, _⟩ | ⟨hok, s0, s1, s2, s3, s4, rfl, l0, l1, l2, l3, l4⟩
      · exact absurd HA.out hno
      have hB5' : Below w'.heap.size w' w5 := H4.out.2.2.2.trans (hB5.mono H4.out.2.2.2.size)
      have hs45 := hB5.size
      have H5 : Hid (Lst (w'.heap.size ≤ ·) w5 (.slice a1 (srt V).length c1) (srt V) ∧ Lst (w'.heap.size ≤ ·) w5 (.slice a2 (srt O).length c2) (srt O) ∧ Lst (w'.heap.size ≤ ·) w5 (.slice a3 (srt L).length c3) (srt L) ∧ Below w'.heap.size w' w5) :=
        ⟨H4.out.1.below hB5, H4.out.2.1.below hB5, H4.out.2.2.1.below hB5, hB5'⟩
      have hml : (memOf V O L).length ≤ 1000000 := by
        have := memOf_length hok
        rw [srt_length, srt_length, srt_length] at this
        omega
      obtain ⟨y0, z0, f0, _, _⟩ := l0.open
      obtain ⟨y1, z1, f1, _, _⟩ := l1.open
      obtain ⟨y2, z2, f2, _, _⟩ := l2.open
      obtain ⟨y3, z3, f3, _, _⟩ := l3.open
      obtain ⟨y4, z4, f4, _, _⟩ := l4.open
      have HL : Hid (Lst (w4.heap.size ≤ ·) w5 s0 (srt V) ∧ Lst (w4.heap.size ≤ ·) w5 s1 (srt O) ∧ Lst (w4.heap.size ≤ ·) w5 s3 (srt L) ∧ Lst (w4.heap.size ≤ ·) w5 s4 (memOf V O L)) := ⟨l0, l1, l3, l4⟩
      clear l0 l1 l2 l3 l4 hB5 hB5' H4
      subst f0 f1 f2 f3 f4
      -- m := ZZmembership(v)
      go_wp2_with fail
      refine (zzmembership_any _ _ _ _ _ _ _ _ _ _ _ _).mono ?_
      rintro e w6 ⟨rfl, hB6⟩
      have hB6' : Below w5.heap.size w5 w6 := ((Below.refl _ w5).alloc (Nat.le_refl _) _).trans (hB6.mono (by simp))
      have hv6 : w6.rowIs w5.heap.size 27 5 (F5 (.slice y0 (srt V).length z0) (.slice y1 (srt O).length z1) (.slice y2 (allOf V O).length z2) (.slice y3 (srt L).length z3) (.slice y4 (memOf V O L).length z4)) := (F5_row _ _ _ _ _ w5).of_block (hB6.block _ (by simp))
      have hv6' : Hid (w6.rowIs w5.heap.size 27 5 (F5 (.slice y0 (srt V).length z0) (.slice y1 (srt O).length z1) (.slice y2 (allOf V O).length z2) (.slice y3 (srt L).length z3) (.slice y4 (memOf V O L).length z4))) := hv6
      have H6 : Hid (Lst (w'.heap.size ≤ ·) w6 (.slice a1 (srt V).length c1) (srt V) ∧ Lst (w'.heap.size ≤ ·) w6 (.slice a2 (srt O).length c2) (srt O) ∧ Lst (w'.heap.size ≤ ·) w6 (.slice a3 (srt L).length c3) (srt L) ∧ Below w'.heap.size w' w6) :=
        ⟨H5.out.1.below hB6', H5.out.2.1.below hB6', H5.out.2.2.1.below hB6', H5.out.2.2.2.trans (hB6'.mono H5.out.2.2.2.size)⟩
      have HL6 : Hid (Lst (w4.heap.size ≤ ·) w6 (.slice y0 (srt V).length z0) (srt V) ∧ Lst (w4.heap.size ≤ ·) w6 (.slice y1 (srt O).length z1) (srt O) ∧ Lst (w4.heap.size ≤ ·) w6 (.slice y3 (srt L).length z3) (srt L) ∧ Lst (w4.heap.size ≤ ·) w6 (.slice y4 (memOf V O L).length z4) (memOf V O L)) :=
        ⟨HL.out.1.below hB6', HL.out.2.1.below hB6', HL.out.2.2.1.below hB6', HL.out.2.2.2.below hB6'⟩
      have hlt6 : w5.heap.size < w6.heap.size := Nat.lt_of_lt_of_le (by simp) hB6.size
      clear hB6 hB6' hv6 H5 HL
      have lV : (srt V).length ≤ 1000000 := by rw [srt_length]; omega
      have lO : (srt O).length ≤ 1000000 := by rw [srt_length]; omega
      have lL : (srt L).length ≤ 1000000 := by rw [srt_length]; omega
      have hBa : ∀ o q, Below w6.heap.size w6 ((w6.alloc o).drewN q) := fun o q => below_drewN ((Below.refl _ w6).alloc (Nat.le_refl _) o) q
      have hsl1 := fun o q => sameList_lst _ _ _ _ _ _ ((w6.alloc o).drewN q) lV lV (HL6.out.1.below (hBa o q)) (H6.out.1.below (hBa o q))
      have hsl2 := fun o q => sameList_lst _ _ _ _ _ _ ((w6.alloc o).drewN q) lO lO (HL6.out.2.1.below (hBa o q)) (H6.out.2.1.below (hBa o q))
      have hsl3 := fun o q => sameList_lst _ _ _ _ _ _ ((w6.alloc o).drewN q) lL lL (HL6.out.2.2.1.below (hBa o q)) (H6.out.2.2.1.below (hBa o q))
      go_wp2_with fail
      refine (hsl1 _ 0).mono ?_
      rintro e x1 ⟨⟨r1, rfl, hr1⟩, q1, rfl⟩
      have hrt : r1 = true := hr1.2 (by trivial)
      subst hrt
      clear hr1 hsl1
      go_wp2_with fail
      refine (hsl2 _ q1).mono ?_
      rintro e x2 ⟨⟨r1, rfl, hr1⟩, q2, rfl⟩
      have hrt : r1 = true := hr1.2 (by trivial)
      subst hrt
      clear hr1 hsl2
      go_wp2_with fail
      refine (hsl3 _ (q1 + q2)).mono ?_
      rintro e x3 ⟨⟨r1, rfl, hr1⟩, q3, rfl⟩
      have hrt : r1 = true := hr1.2 (by trivial)
      subst hrt
      clear hr1 hsl3
      rw [World.drewN_drewN]
      generalize q1 + q2 + q3 = q4
      have hm7 : ((w6.alloc (.cells #[.slice y0 (srt V).length z0, .slice y1 (srt O).length z1, .slice y3 (srt L).length z3] 33)).drewN q4).heap[w6.heap.size]? = some (.cells #[.slice y0 (srt V).length z0, .slice y1 (srt O).length z1, .slice y3 (srt L).length z3] 33) := heap_alloc_new w6 _
      have hB7 := hBa (.cells #[.slice y0 (srt V).length z0, .slice y1 (srt O).length z1, .slice y3 (srt L).length z3] 33) q4
      generalize (w6.alloc (.cells #[.slice y0 (srt V).length z0, .slice y1 (srt O).length z1, .slice y3 (srt L).length z3] 33)).drewN q4 = w7 at hm7 hB7 ⊢
      have m0 : w7.cell? ⟨w6.heap.size, 0, none⟩ = some (.slice y0 (srt V).length z0) := by simp [World.cell?, hm7]
      have m1 : w7.cell? ⟨w6.heap.size, 1, none⟩ = some (.slice y1 (srt O).length z1) := by simp [World.cell?, hm7]
      have m2 : w7.cell? ⟨w6.heap.size, 2, none⟩ = some (.slice y3 (srt L).length z3) := by simp [World.cell?, hm7]
      have hzn := zznewVoters_any _ _ _ _ (srt V) (srt O) (srt L) w7 (by rw [srt_length]; omega) (by rw [srt_length]; omega) (by rw [srt_length]; omega) (HL6.out.1.below hB7).toIn (HL6.out.2.1.below hB7).toIn (HL6.out.2.2.1.below hB7).toIn
      have H7 : Hid (Lst (w'.heap.size ≤ ·) w7 (.slice a1 (srt V).length c1) (srt V) ∧ Lst (w'.heap.size ≤ ·) w7 (.slice a2 (srt O).length c2) (srt O) ∧ Below w'.heap.size w' w7 ∧ Lst (w4.heap.size ≤ ·) w7 (.slice y4 (memOf V O L).length z4) (memOf V O L) ∧ w7.rowIs w5.heap.size 27 5 (F5 (.slice y0 (srt V).length z0) (.slice y1 (srt O).length z1) (.slice y2 (allOf V O).length z2) (.slice y3 (srt L).length z3) (.slice y4 (memOf V O L).length z4)) ∧ w5.heap.size < w7.heap.size) :=
        ⟨H6.out.1.below hB7, H6.out.2.1.below hB7, H6.out.2.2.2.trans (hB7.mono H6.out.2.2.2.size), HL6.out.2.2.2.below hB7, World.rowIs.of_block hv6'.out (hB7.block _ hlt6), Nat.lt_of_lt_of_le hlt6 hB7.size⟩
      clear hBa hB7 hm7 H6 HL6 hv6'
      go_wp2_with fail
      refine hzn.mono ?_
      clear hzn m0 m1 m2
      rintro e w8 ⟨hc, hB8⟩
      rcases hc with ⟨hno, _⟩ | ⟨_, t0, t1, t2, t3, t4, rfl, k0, k1, k2, k3, k4⟩
      · exact absurd (NVok_srt HA.out) hno
      rw [memOf_srt] at k4
      obtain ⟨ya, za, g0, _, _⟩ := k0.open
      obtain ⟨yb, zb, g1, _, _⟩ := k1.open
      obtain ⟨yc, zc, g2, _, _⟩ := k2.open
      obtain ⟨yd, zd, g3, _, _⟩ := k3.open
      obtain ⟨ye, ze, g4, _, _⟩ := k4.open
      have H8 : Hid (Lst (w'.heap.size ≤ ·) w8 (.slice a1 (srt V).length c1) (srt V) ∧ Lst (w'.heap.size ≤ ·) w8 (.slice a2 (srt O).length c2) (srt O) ∧ Below w'.heap.size w' w8 ∧ Lst (w4.heap.size ≤ ·) w8 (.slice y4 (memOf V O L).length z4) (memOf V O L) ∧ w8.rowIs w5.heap.size 27 5 (F5 (.slice y0 (srt V).length z0) (.slice y1 (srt O).length z1) (.slice y2 (allOf V O).length z2) (.slice y3 (srt L).length z3) (.slice y4 (memOf V O L).length z4)) ∧ w5.heap.size < w8.heap.size) :=
        ⟨H7.out.1.below hB8, H7.out.2.1.below hB8, H7.out.2.2.1.trans (hB8.mono H7.out.2.2.1.size), H7.out.2.2.2.1.below hB8, World.rowIs.of_block H7.out.2.2.2.2.1 (hB8.block _ H7.out.2.2.2.2.2), Nat.lt_of_lt_of_le H7.out.2.2.2.2.2 hB8.size⟩
      have HG : Hid (Lst (w7.heap.size ≤ ·) w8 t4 (memOf V O L)) := k4
      clear k0 k1 k2 k3 k4 hB8 H7
      subst g0 g1 g2 g3 g4
      have hBb : ∀ o, Below w8.heap.size w8 (w8.alloc o) := fun o => (Below.refl _ w8).alloc (Nat.le_refl _) o
      have hv9 := fun o => World.rowIs.of_block (w' := w8.alloc o) H8.out.2.2.2.2.1 ((hBb o).block _ H8.out.2.2.2.2.2)
      have n0 := fun o => (hv9 o).cell (i := 0) (by omega)
      have n1 := fun o => (hv9 o).cell (i := 1) (by omega)
      have n2 := fun o => (hv9 o).cell (i := 2) (by omega)
      have n3 := fun o => (hv9 o).cell (i := 3) (by omega)
      have n4 := fun o => (hv9 o).cell (i := 4) (by omega)
      simp only [F5] at n0 n1 n2 n3 n4
      clear hv9
      go_wp2_with fail
      refine (zzreplicas_any _ _ _ _ _ _).mono ?_
      rintro e w9 ⟨rfl, hB9⟩
      have hB9' : Below w8.heap.size w8 w9 := (hBb _).trans (hB9.mono (by simp))
      have hv9 : w9.rowIs w8.heap.size 27 5 (F5 (.slice ya (srt (srt V)).length za) (.slice yb (srt (srt O)).length zb) (.slice yc (allOf (srt V) (srt O)).length zc) (.slice yd (srt (srt L)).length zd) (.slice ye (memOf V O L).length ze)) := (F5_row _ _ _ _ _ w8).of_block (hB9.block _ (by simp))
      have n0 := hv9.cell (i := 0) (by omega)
      have n1 := hv9.cell (i := 1) (by omega)
      have n2 := hv9.cell (i := 2) (by omega)
      have n3 := hv9.cell (i := 3) (by omega)
      have n4 := hv9.cell (i := 4) (by omega)
      simp only [F5] at n0 n1 n2 n3 n4
      have H9 : Hid (Lst (w'.heap.size ≤ ·) w9 (.slice a1 (srt V).length c1) (srt V) ∧ Lst (w'.heap.size ≤ ·) w9 (.slice a2 (srt O).length c2) (srt O) ∧ Below w'.heap.size w' w9 ∧ Lst (w4.heap.size ≤ ·) w9 (.slice y4 (memOf V O L).length z4) (memOf V O L) ∧ Lst (w7.heap.size ≤ ·) w9 (.slice ye (memOf V O L).length ze) (memOf V O L)) :=
        ⟨H8.out.1.below hB9', H8.out.2.1.below hB9', H8.out.2.2.1.trans (hB9'.mono H8.out.2.2.1.size), H8.out.2.2.2.1.below hB9', HG.out.below hB9'⟩
      clear hB9 hB9' hv9 hBb H8 HG
      go_wp2_with fail
      refine (zzreplicas_any _ _ _ _ _ _).mono ?_
      rintro e w10 ⟨rfl, hB10⟩
      clear n0 n1 n2 n3 n4
      have hG4 := H9.out.2.2.2.1.below hB10
      have hsl := sameList_lst _ _ _ _ _ _ w10 hml hml hG4 (H9.out.2.2.2.2.below hB10)
      obtain ⟨p4, o4, e4, r4, _⟩ := hG4.open
      obtain ⟨p1, o1, e1, r1, _⟩ := (H9.out.1.below hB10).open
      obtain ⟨p2, o2, e2, r2, _⟩ := (H9.out.2.1.below hB10).open
      have sM := memOf_strict HA.out
      have sV := strict_of_not_Bad (srt_pairwise V) HA.out.1
      have sO := strict_of_not_Bad (srt_pairwise O) HA.out.2.1
      have gs : ∀ zs : List Int, zs.Pairwise (· < ·) → ∀ i j, i < j → j < zs.length → gl zs i < gl zs j := fun zs h i j hij hj => by
        have := List.pairwise_iff_getElem.1 h i j (by omega) hj hij
        simpa [gl, hj, show i < zs.length by omega] using this
      have hsa := fun q => strictlyAscending_any p4 (memOf V O L).length o4 (gl (memOf V O L)) (w10.drewN q) hml r4
      have hcc := fun q => commonCount_any p1 p2 (srt V).length (srt O).length o1 o2 (gl (srt V)) (gl (srt O)) (w10.drewN q) lV lO r1 r2 (gs _ sV) (gs _ sO)
      have HAs : Hid (∀ j, 1 ≤ j → j < (memOf V O L).length → gl (memOf V O L) (j - 1) < gl (memOf V O L) j) := fun j h1 h2 => gs _ sM (j - 1) j (by omega) h2
      have hlen := memOf_length HA.out
      have hEq : (((memOf V O L).length : Int) == ((srt V).length : Int) + ((srt O).length : Int) + ((srt L).length : Int) - (CC (gl (srt V)) (gl (srt O)) (srt O).length (srt V).length : Int)) = true := by
        simp only [beq_iff_eq]; omega
      have hcl := CC_le (gl (srt V)) (gl (srt O)) (srt O).length (srt V).length
      rw [← e4] at hsa
      rw [← e1, ← e2] at hcc
      have HBF : Hid (Below w'.heap.size w' w10) := H9.out.2.2.1.trans (hB10.mono H9.out.2.2.1.size)
      clear hB10 H9 hG4 r4 r1 r2 gs sM sV sO e4 e1 e2 hlen
      generalize CC (gl (srt V)) (gl (srt O)) (srt O).length (srt V).length = cn at hcc hEq hcl
      go_wp2_with fail
      refine hsl.mono ?_
      clear hsl
      rintro e x1 ⟨⟨r1, rfl, hr1⟩, q1, rfl⟩
      have hrt : r1 = true := hr1.2 (by trivial)
      subst hrt
      clear hr1
      go_wp2_with fail
      refine (hsa q1).mono ?_
      clear hsa
      rintro e x2 ⟨⟨r1, rfl, hr1⟩, q2, rfl⟩
      have hrt : r1 = true := hr1.2 HAs.out
      subst hrt
      clear hr1
      go_wp2_with fail
      refine (hcc (q1 + q2)).mono ?_
      clear hcc
      rintro e x3 ⟨rfl, q3, rfl⟩
      go_wp2_with fail
      go_ret
      exact ⟨rfl, below_drewN HBF.out _⟩
    · by_cases h1 : 131072 < V.length
      · have d1 : decide ((131072 : Int) < (V.length : Int)) = true := by simp; omega
        go_wp2_with fail
        go_ret
        exact ⟨rfl, Below.refl _ _⟩
      · have d1 : decide ((131072 : Int) < (V.length : Int)) = false := by simp; omega
        by_cases h2 : 131072 < O.length
        · have d2 : decide ((131072 : Int) < (O.length : Int)) = true := by simp; omega
          go_wp2_with fail
          go_ret
          exact ⟨rfl, Below.refl _ _⟩
        · have d2 : decide ((131072 : Int) < (O.length : Int)) = false := by simp; omega
          by_cases h3 : 131072 < L.length
          · have d3 : decide ((131072 : Int) < (L.length : Int)) = true := by simp; omega
            go_wp2_with fail
            go_ret
            exact ⟨rfl, Below.refl _ _⟩
          · have d3 : decide ((131072 : Int) < (L.length : Int)) = false := by simp; omega
            have d4 : decide ((131072 : Int) < (V.length : Int) + (O.length : Int) + (L.length : Int)) = true := by simp; omega
            go_wp2_with fail
            go_ret
            exact ⟨rfl, Below.refl _ _⟩
end Go.Proofs.Qxb6615150aFmt
