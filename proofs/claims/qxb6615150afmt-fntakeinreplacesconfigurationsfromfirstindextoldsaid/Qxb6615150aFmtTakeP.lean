import Derived.Test.Qxb6615150aFmtTake2
import Derived.Test.Qxb6615150aFmtEnt
namespace Go.Proofs.Qxb6615150aFmt
open Go.RowKit Go.Lib

theorem el_add (I K : Nat → Int) (D : Nat → List UInt8) (k : Nat) : ∀ m, el I K D (k + m) = el I K D k ++ el (fun i => I (k + i)) (fun i => K (k + i)) (fun i => D (k + i)) m
  | 0 => by simp [el]
  | m + 1 => by
    rw [show k + (m + 1) = (k + m) + 1 by omega]
    by_cases h : K (k + m) = 2
    · rw [el_in h, el_in (K := fun i => K (k + i)) h, el_add I K D k m, List.append_assoc]
    · rw [el_out h, el_out (K := fun i => K (k + i)) h, el_add I K D k m]
theorem mem_el {I K : Nat → Int} {D : Nat → List UInt8} {x : Int × List UInt8} : ∀ {n : Nat}, x ∈ el I K D n → ∃ i, i < n ∧ K i = 2 ∧ x = (I i, D i)
  | 0, h => by simp [el] at h
  | n + 1, h => by
    by_cases hk : K n = 2
    · rw [el_in hk] at h
      rcases List.mem_append.1 h with h | h
      · obtain ⟨i, h1, h2, h3⟩ := mem_el h; exact ⟨i, by omega, h2, h3⟩
      · simp at h; exact ⟨n, by omega, hk, h⟩
    · rw [el_out hk] at h
      obtain ⟨i, h1, h2, h3⟩ := mem_el h; exact ⟨i, by omega, h2, h3⟩
theorem el_sorted {I K : Nat → Int} {D : Nat → List UInt8} : ∀ {n : Nat}, (∀ i j, i < j → j < n → I i < I j) → (el I K D n).Pairwise (fun a b => a.1 < b.1)
  | 0, _ => by simp [el]
  | n + 1, h => by
    have ih := el_sorted (K := K) (D := D) (n := n) (fun i j h1 h2 => h i j h1 (by omega))
    by_cases hk : K n = 2
    · rw [el_in hk]
      refine List.pairwise_append.2 ⟨ih, by simp, fun a ha b hb => ?_⟩
      obtain ⟨i, h1, _, rfl⟩ := mem_el ha
      simp at hb; subst hb
      exact h i n h1 (by omega)
    · rw [el_out hk]; exact ih
theorem ix_key (cs : List Chg) (j : Nat) : ix cs j = (((cs.map key)[j]?).map Prod.fst).getD 0 := by
  simp [ix]
  cases cs[j]? <;> rfl
/-- Ascending keys give ascending indices. -/
theorem ix_asc {cs : List Chg} {l : List (Int × List UInt8)} (hk : cs.map key = l) (hs : l.Pairwise (fun a b => a.1 < b.1)) : ∀ i j, i < j → j < cs.length → ix cs i ≤ ix cs j := by
  intro i j hij hj
  rw [ix_key, ix_key, hk]
  have hjl : j < l.length := by rw [← hk]; simpa using hj
  have h := List.pairwise_iff_getElem.1 hs i j (by omega) hjl hij
  simp [hjl, show i < l.length by omega]; omega
/-- Where all lie below y, the place is the end. -/
theorem Parts.all {cs : List Chg} {l : List (Int × List UInt8)} {y : Int} {p : Nat} (hk : cs.map key = l) (hl : ∀ x, x ∈ l → x.1 < y) (h : Parts cs.length (ix cs) y p) : p = cs.length := by
  rcases Nat.lt_or_ge p cs.length with e | e
  · have h2 := h.2.2 p (Nat.le_refl _) e
    rw [ix_key, hk] at h2
    have hpl : p < l.length := by rw [← hk]; simpa using e
    simp [hpl] at h2
    have := hl l[p] (List.getElem_mem hpl)
    omega
  · have := h.1; omega

/-- The second piece behind the first gives the whole. -/
theorem two_pieces {I K : Nat → Int} {D : Nat → List UInt8} {n k : Nat} (hk : k < n) (hs : ∀ i j, i < j → j < n → I i < I j) {cs cs' : List Chg} (h1 : cs.map key = el I K D k)
    (h2 : ∃ p, Parts cs.length (ix cs) (I (k + 0)) p ∧ cs'.map key = (cs.take p).map key ++ el (fun i => I (k + i)) (fun i => K (k + i)) (fun i => D (k + i)) (n - k)) : cs'.map key = el I K D n := by
  obtain ⟨p, hp, he⟩ := h2
  have hpe : p = cs.length := hp.all h1 (fun x hx => by
    obtain ⟨i, hi, _, rfl⟩ := mem_el hx
    exact hs i k hi hk)
  rw [he, hpe, List.take_length, h1, ← el_add, show k + (n - k) = n by omega]

theorem zzTakeIn_of {h e : Value} {w : World} {Q : Ending → World → Prop} (hc : Calls Tryf.prog 34 #[h, e] w Q) (hQ : ∀ e w', Q e w' → e = .returned (.tuple #[])) : Calls Tryf.prog 22 #[h, e] w Q := by
  go_enter Tryf.func22, Tryf.ntmps22
  go_wp2_with fail
  refine hc.mono ?_
  intro e' w' hq
  have he := hQ e' w' hq
  subst he
  have H : Hid (Q (.returned (.tuple #[])) w') := hq
  clear hq hc
  go_wp2_with fail
  go_end0
  exact H.out
end Go.Proofs.Qxb6615150aFmt
