import Derived.Test.Qxb6615150aFmtPlain
import Derived.Test.Qxb6615150aFmtZNew
namespace Go.Proofs.Qxb6615150aFmt
open Go.RowKit

theorem sameList_lst (p q : Nat → Prop) (x y : Value) (xs ys : List Int) (w : World) (hn : xs.length ≤ 4000000) (hm : ys.length ≤ 4000000) (hx : Lst p w x xs) (hy : Lst q w y ys) :
    Calls Tryf.prog 12 #[x, y] w fun e w' => Says e (xs = ys) ∧ ∃ q, w' = w.drewN q := by
  obtain ⟨a, c, rfl, hG, _⟩ := hx.open
  obtain ⟨b, d, rfl, hH, _⟩ := hy.open
  refine (sameList_any a b xs.length ys.length c d (gl xs) (gl ys) w hn hm hG hH).mono ?_
  rintro e w' ⟨⟨r, rfl, hr⟩, q, rfl⟩
  refine ⟨⟨r, rfl, hr.trans ⟨fun ⟨h1, h2⟩ => ?_, fun h => ?_⟩⟩, q, rfl⟩
  · rw [← seg_gl xs, ← seg_gl ys, ← h1]
    exact seg_congr fun t _ ht => h2 t ht
  · subst h; exact ⟨rfl, fun _ _ => rfl⟩

theorem modelAccepts_lst (p q r : Nat → Prop) (x y z : Value) (V O L : List Int) (w : World) (hn : V.length ≤ 4000000) (hm : O.length ≤ 4000000) (hk : L.length ≤ 4000000) (hx : Lst p w x (srt V)) (hy : Lst q w y (srt O)) (hz : Lst r w z (srt L))
    (pV : ∀ x, x ∈ V → 0 ≤ x) (pO : ∀ x, x ∈ O → 0 ≤ x) (pL : ∀ x, x ∈ L → 0 ≤ x) :
    Calls Tryf.prog 9 #[x, y, z] w fun e w' => Says e (NVok V O L) ∧ ∃ q, w' = w.drewN q := by
  obtain ⟨a, ca, rfl, hG, _⟩ := hx.open
  obtain ⟨b, cb, rfl, hH, _⟩ := hy.open
  obtain ⟨c, cc, rfl, hK, _⟩ := hz.open
  have h := modelAccepts_any a b c (srt V).length (srt O).length (srt L).length ca cb cc (gl (srt V)) (gl (srt O)) (gl (srt L)) w (by rw [srt_length]; exact hn) (by rw [srt_length]; exact hm) (by rw [srt_length]; exact hk) hG hH hK (asc_gl (srt_pairwise V)) (asc_gl (srt_pairwise O))
  refine h.mono ?_
  rintro e w' ⟨⟨r, rfl, hr⟩, h2⟩
  exact ⟨⟨r, rfl, hr.trans (MA_iff pV pO pL)⟩, h2⟩

set_option maxRecDepth 100000 in
set_option maxHeartbeats 1000000 in
theorem law3_walk (p : Nat → Prop) (x y z : Value) (V O L : List Int) (w : World) (hx : InL p w x V) (hy : InL p w y O) (hz : InL p w z L) (pV : ∀ x, x ∈ V → 0 ≤ x) (pO : ∀ x, x ∈ O → 0 ≤ x) (pL : ∀ x, x ∈ L → 0 ≤ x) :
    Calls Tryf.prog 3 #[x, y, z] w fun e w' => e = .returned (.bool true) ∧ Below w.heap.size w w' := by
  obtain ⟨ax, cx, ex, _, _⟩ := hx.open
  obtain ⟨ay, cy, ey, _, _⟩ := hy.open
  obtain ⟨az, cz, ez, _, _⟩ := hz.open
  have HX : Hid (InL p w (.slice ax V.length cx) V) := ex ▸ hx
  have HY : Hid (InL p w (.slice ay O.length cy) O) := ey ▸ hy
  have HZ : Hid (InL p w (.slice az L.length cz) L) := ez ▸ hz
  have HP : Hid ((∀ x, x ∈ V → 0 ≤ x) ∧ (∀ x, x ∈ O → 0 ≤ x) ∧ (∀ x, x ∈ L → 0 ≤ x)) := ⟨pV, pO, pL⟩
  clear hx hy hz pV pO pL
  subst ex ey ez
  have hzb := zzBytesA ax ay az V.length O.length L.length cx cy cz w
  go_enter Tryf.func3, Tryf.ntmps3
  go_wp2_with fail
  refine hzb.mono ?_
  clear hzb
  rintro e w' ⟨⟨r, rfl, hr⟩, rfl⟩
  cases r with
  | false =>
    clear hr
    go_wp2_with fail
    go_ret
    exact ⟨rfl, Below.refl _ _⟩
  | true =>
    clear hr
    by_cases hs : V.length + O.length + L.length ≤ 131072
    · have d1 : decide ((131072 : Int) < (V.length : Int)) = false := by simp; omega
      have d2 : decide ((131072 : Int) < (O.length : Int)) = false := by simp; omega
      have d3 : decide ((131072 : Int) < (L.length : Int)) = false := by simp; omega
      have d4 : decide ((131072 : Int) < (V.length : Int) + (O.length : Int) + (L.length : Int)) = false := by simp; omega
      go_wp2_with fail
      clear d1 d2 d3 d4
      refine (sortedCopy_in p _ V _ (by omega) HX.out).mono ?_
      rintro e w1 ⟨v1, rfl, hv1, hB1⟩
      obtain ⟨a1, c1, e1, _, _⟩ := hv1.open
      subst e1
      have H1 : Hid (Lst (w'.heap.size ≤ ·) w1 (.slice a1 (srt V).length c1) (srt V) ∧ Below w'.heap.size w' w1) := ⟨hv1, hB1⟩
      clear hv1 hB1
      go_wp2_with fail
      refine (sortedCopy_in p _ O _ (by omega) (HY.out.below H1.out.2)).mono ?_
      rintro e w2 ⟨v2, rfl, hv2, hB2⟩
      obtain ⟨a2, c2, e2, _, _⟩ := hv2.open
      subst e2
      have H2 : Hid (Lst (w'.heap.size ≤ ·) w2 (.slice a1 (srt V).length c1) (srt V) ∧ Lst (w'.heap.size ≤ ·) w2 (.slice a2 (srt O).length c2) (srt O) ∧ Below w'.heap.size w' w2) := ⟨H1.out.1.below hB2, hv2.mono (fun b hb => Nat.le_trans H1.out.2.size hb), H1.out.2.trans (hB2.mono H1.out.2.size)⟩
      clear hv2 hB2 H1
      go_wp2_with fail
      refine (sortedCopy_in p _ L _ (by omega) (HZ.out.below H2.out.2.2)).mono ?_
      rintro e w3 ⟨v3, rfl, hv3, hB3⟩
      obtain ⟨a3, c3, e3, _, _⟩ := hv3.open
      subst e3
      have H3 : Hid (Lst (w'.heap.size ≤ ·) w3 (.slice a1 (srt V).length c1) (srt V) ∧ Lst (w'.heap.size ≤ ·) w3 (.slice a2 (srt O).length c2) (srt O) ∧ Lst (w'.heap.size ≤ ·) w3 (.slice a3 (srt L).length c3) (srt L) ∧ Below w'.heap.size w' w3) :=
        ⟨H2.out.1.below hB3, H2.out.2.1.below hB3, hv3.mono (fun b hb => Nat.le_trans H2.out.2.2.size hb), H2.out.2.2.trans (hB3.mono H2.out.2.2.size)⟩
      clear hv3 hB3 H2
      go_wp2_with fail
      refine (modelAccepts_lst _ _ _ _ _ _ V O L w3 (by omega) (by omega) (by omega) H3.out.1 H3.out.2.1 H3.out.2.2.1 HP.out.1 HP.out.2.1 HP.out.2.2).mono ?_
      rintro e w4 ⟨⟨acc, rfl, hacc⟩, q, rfl⟩
      have HA : Hid (acc = true ↔ NVok V O L) := hacc
      clear hacc
      have H4 : Hid (Lst (w'.heap.size ≤ ·) (w3.drewN q) (.slice a1 (srt V).length c1) (srt V) ∧ Lst (w'.heap.size ≤ ·) (w3.drewN q) (.slice a2 (srt O).length c2) (srt O) ∧ Lst (w'.heap.size ≤ ·) (w3.drewN q) (.slice a3 (srt L).length c3) (srt L) ∧ Below w'.heap.size w' (w3.drewN q)) :=
        ⟨H3.out.1, H3.out.2.1, H3.out.2.2.1, below_drewN H3.out.2.2.2 q⟩
      generalize w3.drewN q = w4 at H4 ⊢
      clear H3
      go_wp2_with fail
      refine (zznewVoters_any p _ _ _ V O L w4 (by omega) (by omega) (by omega) (HX.out.below H4.out.2.2.2) (HY.out.below H4.out.2.2.2) (HZ.out.below H4.out.2.2.2)).mono ?_
      rintro e w5 ⟨hc, hB5⟩
      rcases hc with ⟨hno, err, rfl, b, s, rfl, _⟩ | ⟨hok, s0, s1, s2, s3, s4, rfl, l0, l1, l2, l3, l4⟩
      · have hacc : acc = false := by cases acc with | false => rfl | true => exact absurd (HA.out.1 rfl) hno
        subst hacc
        have HB : Hid (Below w'.heap.size w' w5) := H4.out.2.2.2.trans (hB5.mono H4.out.2.2.2.size)
        clear hno hB5 H4 HA
        unfold nils
        go_wp2_with (go_at_call 11; refine (zzreplicas_any _ _ _ _ _ _).mono ?_; rintro e w6 ⟨rfl, hB6⟩)
        have hB6' : Below w5.heap.size w5 w6 := ((Below.refl _ w5).alloc (Nat.le_refl _) _).trans (hB6.mono (by simp))
        go_ret
        exact ⟨rfl, HB.out.trans (hB6'.mono HB.out.size)⟩
      · have hacc : acc = true := HA.out.2 hok
        subst hacc
        obtain ⟨y0, z0, f0, _, _⟩ := l0.open
        obtain ⟨y1, z1, f1, _, _⟩ := l1.open
        obtain ⟨y2, z2, f2, _, _⟩ := l2.open
        obtain ⟨y3, z3, f3, _, _⟩ := l3.open
        obtain ⟨y4, z4, f4, _, _⟩ := l4.open
        have HL : Hid (NVok V O L ∧ Lst (w4.heap.size ≤ ·) w5 s4 (memOf V O L)) := ⟨hok, l4⟩
        have H5 : Hid (Lst (w'.heap.size ≤ ·) w5 (.slice a1 (srt V).length c1) (srt V) ∧ Lst (w'.heap.size ≤ ·) w5 (.slice a2 (srt O).length c2) (srt O) ∧ Lst (w'.heap.size ≤ ·) w5 (.slice a3 (srt L).length c3) (srt L) ∧ Below w'.heap.size w' w5) :=
          ⟨H4.out.1.below hB5, H4.out.2.1.below hB5, H4.out.2.2.1.below hB5, H4.out.2.2.2.trans (hB5.mono H4.out.2.2.2.size)⟩
        have hml : (memOf V O L).length ≤ 4000000 := by
          have := memOf_length hok
          rw [srt_length, srt_length, srt_length] at this
          omega
        clear hok l0 l1 l2 l3 l4 hB5 H4 HA
        subst f0 f1 f2 f3 f4
        go_wp2_with fail
        refine (zzreplicas_any _ _ _ _ _ _).mono ?_
        rintro e w6 ⟨rfl, hB6⟩
        have hB6' : Below w5.heap.size w5 w6 := ((Below.refl _ w5).alloc (Nat.le_refl _) _).trans (hB6.mono (by simp))
        have H6 : Hid (Lst (w'.heap.size ≤ ·) w6 (.slice a1 (srt V).length c1) (srt V) ∧ Lst (w'.heap.size ≤ ·) w6 (.slice a2 (srt O).length c2) (srt O) ∧ Lst (w'.heap.size ≤ ·) w6 (.slice a3 (srt L).length c3) (srt L) ∧ Below w'.heap.size w' w6) :=
          ⟨H5.out.1.below hB6', H5.out.2.1.below hB6', H5.out.2.2.1.below hB6', H5.out.2.2.2.trans (hB6'.mono H5.out.2.2.2.size)⟩
        have HM : Hid (Lst (w4.heap.size ≤ ·) w6 (.slice y4 (memOf V O L).length z4) (memOf V O L)) := HL.out.2.below hB6'
        clear hB6 hB6' H5
        go_wp2_with fail
        refine (unionSorted_any _ _ _ _ (srt V) (srt O) (srt L) w6 (by rw [srt_length, srt_length, srt_length]; omega) H6.out.1 H6.out.2.1 H6.out.2.2.1).mono ?_
        rintro e w7 ⟨u, rfl, hu, hB7⟩
        rw [← memOf_union HL.out.1] at hu
        have HB7 : Hid (Below w'.heap.size w' w7) := H6.out.2.2.2.trans (hB7.mono H6.out.2.2.2.size)
        have hsl := sameList_lst _ _ (.slice y4 (memOf V O L).length z4) u (memOf V O L) (memOf V O L) w7 hml hml (HM.out.below hB7) hu
        obtain ⟨yu, zu, eu, _, _⟩ := hu.open
        subst eu
        clear hu hB7 H6 HM
        go_wp2_with fail
        refine hsl.mono ?_
        clear hsl
        rintro e w8 ⟨⟨r, rfl, hr⟩, q, rfl⟩
        have hrt : r = true := hr.2 (by trivial)
        subst hrt
        clear hr
        go_wp2_with fail
        go_ret
        exact ⟨rfl, below_drewN HB7.out q⟩
    · by_cases h1 : 131072 < V.length
      · have d1 : decide ((131072 : Int) < (V.length : Int)) = true := by simp; omega
        go_wp2_with fail
        go_ret
        exact ⟨rfl, Below.refl _ _⟩
      · have d1 : decide ((131072 : Int) < (V.length : Int)) = false := by simp; omega
        by_cases h2 : 131072 < O.length
        · have d2 : decide ((131072 : Int) < (O.length : Int)) = true := by simp; omega
          go_wp2_with fail
          go_ret
          exact ⟨rfl, Below.refl _ _⟩
        · have d2 : decide ((131072 : Int) < (O.length : Int)) = false := by simp; omega
          by_cases h3 : 131072 < L.length
          · have d3 : decide ((131072 : Int) < (L.length : Int)) = true := by simp; omega
            go_wp2_with fail
            go_ret
            exact ⟨rfl, Below.refl _ _⟩
          · have d3 : decide ((131072 : Int) < (L.length : Int)) = false := by simp; omega
            have d4 : decide ((131072 : Int) < (V.length : Int) + (O.length : Int) + (L.length : Int)) = true := by simp; omega
            go_wp2_with fail
            go_ret
            exact ⟨rfl, Below.refl _ _⟩
end Go.Proofs.Qxb6615150aFmt
