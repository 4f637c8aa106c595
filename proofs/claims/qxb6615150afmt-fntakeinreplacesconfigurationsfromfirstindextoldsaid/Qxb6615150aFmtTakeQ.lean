import Derived.Test.Qxb6615150aFmtTakeP
namespace Go.Proofs.Qxb6615150aFmt
open Go.RowKit Go.Lib

/-- A row of entries, read as entries. -/
theorem Ents.of_row {w : World} {g n : Nat} {I T K Q S : Nat → Int} {A : Nat → Option Addr} {L C : Nat → Nat} (h : w.rowIs g 51 (n * 6) (entCell I T K Q S A L C)) : Ents w g 0 n I T K Q S A L C := by
  have hc : ∀ i j, i < n → j < 6 → w.cell? ⟨g, i * 6 + j, none⟩ = some (entCell I T K Q S A L C (i * 6 + j)) := fun i j hi hj => h.cell (by omega)
  have hd : ∀ i j, j < 6 → (i * 6 + j) % 6 = j ∧ (i * 6 + j) / 6 = i := fun i j hj => by omega
  refine ⟨fun i hi => ?_, fun i hi => ?_, fun i hi => ?_, fun i hi => ?_, fun i hi => ?_, fun i hi => ?_⟩
  · have h1 := hc i 0 hi (by omega); simp only [entCell, (hd i 0 (by omega)).1, (hd i 0 (by omega)).2] at h1; simpa using h1
  · have h1 := hc i 1 hi (by omega); simp only [entCell, (hd i 1 (by omega)).1, (hd i 1 (by omega)).2] at h1; simpa using h1
  · have h1 := hc i 2 hi (by omega); simp only [entCell, (hd i 2 (by omega)).1, (hd i 2 (by omega)).2] at h1; simpa using h1
  · have h1 := hc i 3 hi (by omega); simp only [entCell, (hd i 3 (by omega)).1, (hd i 3 (by omega)).2] at h1; simpa using h1
  · have h1 := hc i 4 hi (by omega); simp only [entCell, (hd i 4 (by omega)).1, (hd i 4 (by omega)).2] at h1; simpa using h1
  · have h1 := hc i 5 hi (by omega); simp only [entCell, (hd i 5 (by omega)).1, (hd i 5 (by omega)).2] at h1; simpa using h1
/-- The entries from the k-th on. -/
theorem Ents.from {w : World} {b off n : Nat} {I T K Q S : Nat → Int} {A : Nat → Option Addr} {L C : Nat → Nat} (h : Ents w b off n I T K Q S A L C) (k m : Nat) (hk : k + m ≤ n) :
    Ents w b (off + k * 6) m (fun i => I (k + i)) (fun i => T (k + i)) (fun i => K (k + i)) (fun i => Q (k + i)) (fun i => S (k + i)) (fun i => A (k + i)) (fun i => L (k + i)) (fun i => C (k + i)) := by
  have e : ∀ i, off + k * 6 + i * 6 = off + (k + i) * 6 := fun i => by omega
  refine ⟨fun i hi => ?_, fun i hi => ?_, fun i hi => ?_, fun i hi => ?_, fun i hi => ?_, fun i hi => ?_⟩ <;> rw [e i]
  · exact h.c0 (k + i) (by omega)
  · exact h.c1 (k + i) (by omega)
  · exact h.c2 (k + i) (by omega)
  · exact h.c3 (k + i) (by omega)
  · exact h.c4 (k + i) (by omega)
  · exact h.c5 (k + i) (by omega)

theorem el_get {I K : Nat → Int} {D : Nat → List UInt8} {n i : Nat} (hi : i < n) (hk : K i = 2) : (el I K D n)[(el I K D i).length]? = some (I i, D i) := by
  have h := el_add I K D (i + 1) (n - (i + 1))
  rw [show i + 1 + (n - (i + 1)) = n by omega, el_in hk] at h
  rw [h, List.append_assoc, List.getElem?_append_right (Nat.le_refl _)]
  simp
theorem el_lt {I K : Nat → Int} {D : Nat → List UInt8} {n i : Nat} (hi : i < n) (hk : K i = 2) : (el I K D i).length < (el I K D n).length := (List.getElem?_eq_some_iff.1 (el_get (D := D) (I := I) hi hk)).1
theorem chg_at {cs : List Chg} {I K : Nat → Int} {D : Nat → List UInt8} {n i : Nat} (h : cs.map key = el I K D n) (hi : i < n) (hk : K i = 2) (hl : (el I K D i).length < cs.length) : (cs[(el I K D i).length]).idx = I i ∧ (cs[(el I K D i).length]).d = D i := by
  have h1 := el_get (I := I) (D := D) hi hk
  rw [← h] at h1
  simp [hl, key] at h1
  exact h1

theorem MR.below {base : Nat} {d : List UInt8} {v : Value} {w w' : World} (h : MR base d v w) (hw : Below w.heap.size w w') : MR base d v w' := by
  obtain ⟨t0, t1, t2, a, b, c, rfl, hr, k0, k1, k2⟩ := h
  exact ⟨t0, t1, t2, a, b, c, rfl, hr, k0.below hw, k1.below hw, k2.below hw⟩
end Go.Proofs.Qxb6615150aFmt
