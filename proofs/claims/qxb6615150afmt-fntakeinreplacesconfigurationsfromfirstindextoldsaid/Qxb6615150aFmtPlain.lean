import Derived.Test.Qxb6615150aFmtNew
import Derived.Test.Qxb6615150aFmtReadM
import Derived.Test.Qxb6615150aFmtReadS
namespace Go.Proofs.Qxb6615150aFmt

theorem srt_mem {x : Int} {zs : List Int} : x ∈ srt zs ↔ x ∈ zs := (srt_perm zs).mem_iff
theorem srt_nil {zs : List Int} : srt zs = [] ↔ zs = [] := by
  constructor
  · intro h; have := srt_length zs; rw [h] at this; exact List.length_eq_zero_iff.1 this.symm
  · rintro rfl; simp [srt]
theorem srt_srt (zs : List Int) : srt (srt zs) = srt zs := (srt_unique (List.Perm.refl _) (srt_pairwise zs)).symm

theorem ZD_iff_Bad {zs : List Int} (hs : zs.Pairwise (· ≤ ·)) (hp : ∀ x, x ∈ zs → 0 ≤ x) : ZD zs.length (gl zs) ↔ Bad zs := by
  constructor
  · rintro (⟨h0, h⟩ | ⟨j, h1, h2, h3⟩)
    · exact ⟨0, h0, .inl h⟩
    · exact ⟨j, h2, .inr ⟨by omega, h3⟩⟩
  · rintro ⟨i, hi, h | ⟨h0, h⟩⟩
    · refine .inl ⟨by omega, ?_⟩
      have h1 := hp _ (gl_mem (zs := zs) (t := 0) (by omega))
      rcases Nat.eq_zero_or_pos i with e | e
      · subst e; exact h
      · have := asc_gl hs 0 i e hi; omega
    · exact .inr ⟨i, by omega, hi, h⟩

theorem strict_of_not_Bad {zs : List Int} (hs : zs.Pairwise (· ≤ ·)) (hb : ¬ Bad zs) : zs.Pairwise (· < ·) := by
  have hg := asc_gl hs
  refine List.pairwise_iff_getElem.2 fun i j hi hj hij => ?_
  have h1 : gl zs i ≤ gl zs (j - 1) := by
    rcases Nat.lt_or_ge i (j - 1) with e | e
    · exact hg i (j - 1) e (by omega)
    · obtain rfl : i = j - 1 := by omega
      exact Int.le_refl _
  have h2 := hg (j - 1) j (by omega) hj
  have h3 : gl zs j ≠ gl zs (j - 1) := fun e => hb ⟨j, hj, .inr ⟨by omega, e⟩⟩
  have h4 : gl zs i < gl zs j := by omega
  simpa [gl, hi, hj] using h4

theorem mem_allOf {V O : List Int} {x : Int} : x ∈ allOf V O ↔ x ∈ V ∨ x ∈ O := by
  unfold allOf
  split
  · rename_i h; subst h; simp [srt_mem]
  · rw [mem_dl, show (srt V ++ srt O).length = (srt (srt V ++ srt O)).length from (srt_length _).symm, seg_gl, srt_mem, List.mem_append, srt_mem, srt_mem]
theorem allOf_strict {V O : List Int} (hV : ¬ Bad (srt V)) : (allOf V O).Pairwise (· < ·) := by
  unfold allOf
  split
  · exact strict_of_not_Bad (srt_pairwise V) hV
  · have h := asc_gl (srt_pairwise (srt V ++ srt O))
    rw [srt_length] at h
    exact dl_pairwise h
theorem nodup_of_strict {zs : List Int} (h : zs.Pairwise (· < ·)) : zs.Nodup := h.imp (fun h e => by subst e; omega)
theorem strict_of {zs : List Int} (hs : zs.Pairwise (· ≤ ·)) (hn : zs.Nodup) : zs.Pairwise (· < ·) := (List.pairwise_and_iff.2 ⟨hs, hn⟩).imp (fun h => by omega)
theorem strict_ext {xs ys : List Int} (hx : xs.Pairwise (· < ·)) (hy : ys.Pairwise (· < ·)) (h : ∀ a, a ∈ xs ↔ a ∈ ys) : xs = ys :=
  ((List.perm_ext_iff_of_nodup (nodup_of_strict hx) (nodup_of_strict hy)).2 h).eq_of_pairwise (fun a b _ _ h1 h2 => by omega) hx hy

theorem mem_memOf {V O L : List Int} {x : Int} : x ∈ memOf V O L ↔ x ∈ V ∨ x ∈ O ∨ x ∈ L := by
  unfold memOf
  split
  · rename_i h; subst h; simp [mem_allOf]
  · rw [srt_mem, List.mem_append, mem_allOf, srt_mem]; exact or_assoc
theorem memOf_strict {V O L : List Int} (h : NVok V O L) : (memOf V O L).Pairwise (· < ·) := by
  unfold memOf
  split
  · exact allOf_strict h.1
  · refine strict_of (srt_pairwise _) ((srt_perm _).nodup_iff.2 ?_)
    refine List.nodup_append.2 ⟨nodup_of_strict (allOf_strict h.1), nodup_of_strict (strict_of_not_Bad (srt_pairwise L) h.2.2.1), fun a ha b hb e => ?_⟩
    subst e
    exact h.2.2.2.2 a hb ha

theorem memOf_union {V O L : List Int} (h : NVok V O L) : memOf V O L = dl (gl (srt (srt V ++ srt O ++ srt L))) (srt V ++ srt O ++ srt L).length := by
  have hg := asc_gl (srt_pairwise (srt V ++ srt O ++ srt L))
  rw [srt_length] at hg
  refine strict_ext (memOf_strict h) (dl_pairwise hg) fun a => ?_
  rw [mem_memOf, mem_dl, show (srt V ++ srt O ++ srt L).length = (srt (srt V ++ srt O ++ srt L)).length from (srt_length _).symm, seg_gl, srt_mem, List.mem_append, List.mem_append, srt_mem, srt_mem, srt_mem]
  exact or_assoc.symm

theorem MA_iff {V O L : List Int} (pV : ∀ x, x ∈ V → 0 ≤ x) (pO : ∀ x, x ∈ O → 0 ≤ x) (pL : ∀ x, x ∈ L → 0 ≤ x) :
    MA (srt V).length (srt O).length (srt L).length (gl (srt V)) (gl (srt O)) (gl (srt L)) ↔ NVok V O L := by
  unfold MA NVok
  rw [ZD_iff_Bad (srt_pairwise V) (fun x hx => pV x (srt_mem.1 hx)), ZD_iff_Bad (srt_pairwise O) (fun x hx => pO x (srt_mem.1 hx)), ZD_iff_Bad (srt_pairwise L) (fun x hx => pL x (srt_mem.1 hx))]
  have h4 : ((srt V).length = 0 ∧ (0 < (srt O).length ∨ 0 < (srt L).length)) ↔ (V = [] ∧ (O ≠ [] ∨ L ≠ [])) := by
    rw [srt_length, srt_length, srt_length, List.length_eq_zero_iff, List.length_pos_iff, List.length_pos_iff]
  rw [h4]
  have h5 : (∀ t, t < (srt L).length → (∀ j, j < (srt V).length → gl (srt V) j ≠ gl (srt L) t) ∧ (∀ j, j < (srt O).length → gl (srt O) j ≠ gl (srt L) t)) ↔ ∀ x, x ∈ srt L → x ∉ allOf V O := by
    constructor
    · intro h x hx hm
      obtain ⟨t, ht, rfl⟩ := mem_gl hx
      rcases mem_allOf.1 hm with hm | hm
      · obtain ⟨j, hj, e⟩ := mem_gl (srt_mem.2 hm); exact (h t ht).1 j hj e
      · obtain ⟨j, hj, e⟩ := mem_gl (srt_mem.2 hm); exact (h t ht).2 j hj e
    · intro h t ht
      refine ⟨fun j hj e => h _ (gl_mem ht) (mem_allOf.2 (.inl ?_)), fun j hj e => h _ (gl_mem ht) (mem_allOf.2 (.inr ?_))⟩
      · rw [← e]; exact srt_mem.1 (gl_mem hj)
      · rw [← e]; exact srt_mem.1 (gl_mem hj)
  rw [h5]

theorem allOf_srt (V O : List Int) : allOf (srt V) (srt O) = allOf V O := by
  unfold allOf
  rw [srt_srt, srt_srt]
  by_cases h : O = []
  · rw [if_pos h, if_pos (srt_nil.2 h)]
  · rw [if_neg h, if_neg (fun e => h (srt_nil.1 e))]
theorem memOf_srt (V O L : List Int) : memOf (srt V) (srt O) (srt L) = memOf V O L := by
  unfold memOf
  rw [srt_srt, allOf_srt]
  by_cases h : L = []
  · rw [if_pos h, if_pos (srt_nil.2 h)]
  · rw [if_neg h, if_neg (fun e => h (srt_nil.1 e))]
theorem NVok_srt {V O L : List Int} (h : NVok V O L) : NVok (srt V) (srt O) (srt L) := by
  unfold NVok
  rw [srt_srt, srt_srt, srt_srt, allOf_srt]
  refine ⟨h.1, h.2.1, h.2.2.1, fun h' => h.2.2.2.1 ⟨srt_nil.1 h'.1, h'.2.imp (fun e e' => e (srt_nil.2 e')) (fun e e' => e (srt_nil.2 e'))⟩, h.2.2.2.2⟩

theorem filter_split (p : Int → Bool) : ∀ zs : List Int, (zs.filter p).length + (zs.filter fun x => !p x).length = zs.length
  | [] => rfl
  | x :: zs => by
    have := filter_split p zs
    cases hp : p x <;> simp [hp] <;> omega

theorem memOf_length {V O L : List Int} (h : NVok V O L) : (memOf V O L).length + CC (gl (srt V)) (gl (srt O)) (srt O).length (srt V).length = (srt V).length + (srt O).length + (srt L).length := by
  have hC : CC (gl (srt V)) (gl (srt O)) (srt O).length (srt V).length = ((srt V).filter fun x => decide (x ∈ srt O)).length := by unfold CC; rw [seg_gl, seg_gl]
  rw [hC]
  have hsp := filter_split (fun x => decide (x ∈ srt O)) (srt V)
  have nV := nodup_of_strict (strict_of_not_Bad (srt_pairwise V) h.1)
  have nO := nodup_of_strict (strict_of_not_Bad (srt_pairwise O) h.2.1)
  have nL := nodup_of_strict (strict_of_not_Bad (srt_pairwise L) h.2.2.1)
  have hn : (srt O ++ ((srt V).filter fun x => !decide (x ∈ srt O)) ++ srt L).Nodup := by
    refine List.nodup_append.2 ⟨List.nodup_append.2 ⟨nO, nV.filter _, fun a ha b hb e => ?_⟩, nL, fun a ha b hb e => ?_⟩
    · subst e; simp at hb; exact hb.2 ha
    · subst e
      have := h.2.2.2.2 a hb
      rw [mem_allOf] at this
      rcases List.mem_append.1 ha with ha | ha
      · exact this (.inr (srt_mem.1 ha))
      · simp at ha; exact this (.inl (srt_mem.1 ha.1))
  have hp : (memOf V O L).Perm (srt O ++ ((srt V).filter fun x => !decide (x ∈ srt O)) ++ srt L) := by
    refine (List.perm_ext_iff_of_nodup (nodup_of_strict (memOf_strict h)) hn).2 fun a => ?_
    rw [mem_memOf]
    simp only [List.mem_append, List.mem_filter, srt_mem, Bool.not_eq_true', decide_eq_false_iff_not]
    constructor
    · rintro (h' | h' | h')
      · by_cases hO : a ∈ O
        · exact .inl (.inl hO)
        · exact .inl (.inr ⟨h', hO⟩)
      · exact .inl (.inl h')
      · exact .inr h'
    · rintro ((h' | h') | h')
      · exact .inr (.inl h')
      · exact .inl h'.1
      · exact .inr (.inr h')
  have hl := hp.length_eq
  simp only [List.length_append] at hl
  omega
end Go.Proofs.Qxb6615150aFmt
