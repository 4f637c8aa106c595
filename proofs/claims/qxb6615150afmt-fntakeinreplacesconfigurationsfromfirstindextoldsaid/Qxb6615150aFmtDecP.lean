import Derived.Lib.VarintDec
namespace Go.Proofs.Qxb6615150aFmt
open Go.Lib

theorem uvarintFrom_le : ∀ (l : List UInt8) (i acc : Nat), (uvarintFrom i acc l).2 ≤ (i : Int) + l.length
  | [], i, acc => by simp [uvarintFrom]
  | b :: r, i, acc => by
    unfold uvarintFrom
    split
    · simp; omega
    · split
      · split
        · simp; omega
        · simp; omega
      · have := uvarintFrom_le r (i + 1) (acc + b.toNat % 128 * 2 ^ (7 * i))
        simp at this ⊢; omega
theorem uvarintDec_le (l : List UInt8) : (uvarintDec l).2 ≤ l.length := by
  have := uvarintFrom_le l 0 0
  simpa [uvarintDec] using this

/-- c ids off the data (fuel: its length). -/
def rdIds : Nat → Nat → List UInt8 → List Int → Option (List Int × List UInt8)
  | _, 0, d, acc => some (acc, d)
  | 0, _ + 1, _, _ => none
  | f + 1, c + 1, d, acc => if (uvarintDec d).2 ≤ 0 then none else rdIds f c (d.drop (uvarintDec d).2.toNat) (acc ++ [((uvarintDec d).1 : Int)])

theorem rdIds_none {f c : Nat} {d : List UInt8} {acc : List Int} (hc : 0 < c) (h : (uvarintDec d).2 ≤ 0) : rdIds f c d acc = none := by
  obtain ⟨c, rfl⟩ : ∃ k, c = k + 1 := ⟨c - 1, by omega⟩
  cases f with
  | zero => rfl
  | succ f => simp [rdIds, h]
theorem uvarintDec_pos {d : List UInt8} (h : 0 < (uvarintDec d).2) : 1 ≤ d.length := by
  cases d with
  | nil => simp [uvarintDec, uvarintFrom] at h
  | cons b r => simp
/-- Enough fuel is enough. -/
theorem rdIds_fuel : ∀ (f g c : Nat) (d : List UInt8) (acc : List Int), d.length ≤ f → d.length ≤ g → rdIds f c d acc = rdIds g c d acc
  | f, g, 0, d, acc, _, _ => by cases f <;> cases g <;> rfl
  | 0, 0, c + 1, d, acc, _, _ => rfl
  | 0, g + 1, c + 1, d, acc, h, _ => by
    have : d = [] := List.length_eq_zero_iff.1 (by omega)
    subst this
    rw [rdIds_none (by omega) (by simp [uvarintDec, uvarintFrom]), rdIds_none (by omega) (by simp [uvarintDec, uvarintFrom])]
  | f + 1, 0, c + 1, d, acc, _, h => by
    have : d = [] := List.length_eq_zero_iff.1 (by omega)
    subst this
    rw [rdIds_none (by omega) (by simp [uvarintDec, uvarintFrom]), rdIds_none (by omega) (by simp [uvarintDec, uvarintFrom])]
  | f + 1, g + 1, c + 1, d, acc, h1, h2 => by
    by_cases h : (uvarintDec d).2 ≤ 0
    · rw [rdIds_none (by omega) h, rdIds_none (by omega) h]
    · simp only [rdIds, if_neg h]
      exact rdIds_fuel f g c _ _ (by simp; omega) (by simp; omega)
/-- One id more. -/
theorem rdIds_next {c : Nat} {d : List UInt8} {acc : List Int} (h : 0 < (uvarintDec d).2) :
    rdIds d.length (c + 1) d acc = rdIds (d.drop (uvarintDec d).2.toNat).length c (d.drop (uvarintDec d).2.toNat) (acc ++ [((uvarintDec d).1 : Int)]) := by
  have hl := uvarintDec_pos h
  obtain ⟨n, hn⟩ : ∃ n, d.length = n + 1 := ⟨d.length - 1, by omega⟩
  rw [hn]
  simp only [rdIds, if_neg (show ¬ (uvarintDec d).2 ≤ 0 by omega)]
  exact rdIds_fuel _ _ _ _ _ (by simp; omega) (Nat.le_refl _)

/-- A list: a count, and that many ids. -/
def rdList (d : List UInt8) : Option (List Int × List UInt8) :=
  if (uvarintDec d).2 ≤ 0 then none else rdIds (d.drop (uvarintDec d).2.toNat).length (uvarintDec d).1 (d.drop (uvarintDec d).2.toNat) []

/-- The lists that the data holds: (V, O, L, what is left). -/
def rd3 (d : List UInt8) : Option (List Int × List Int × List Int × List UInt8) :=
  match rdList d with
  | none => none
  | some (V, d1) => match rdList d1 with
    | none => none
    | some (O, d2) => if d2 = [] then some (V, O, [], d2) else match rdList d2 with
      | none => none
      | some (L, d3) => some (V, O, L, d3)

theorem rdIds_length : ∀ (f c : Nat) (d : List UInt8) (acc : List Int) (V : List Int) (e : List UInt8), rdIds f c d acc = some (V, e) → V.length + e.length ≤ acc.length + d.length
  | f, 0, d, acc, V, e, h => by
    have h' : some (acc, d) = some (V, e) := by cases f <;> exact h
    cases h'; exact Nat.le_refl _
  | 0, c + 1, d, acc, V, e, h => by cases h
  | f + 1, c + 1, d, acc, V, e, h => by
    by_cases hp : (uvarintDec d).2 ≤ 0
    · rw [rdIds_none (by omega) hp] at h; cases h
    · simp only [rdIds, if_neg hp] at h
      have := rdIds_length f c _ _ V e h
      have hl := uvarintDec_pos (show 0 < (uvarintDec d).2 by omega)
      simp at this; omega
end Go.Proofs.Qxb6615150aFmt
