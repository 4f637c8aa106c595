import Derived.Below
namespace Go.Proofs.Qxb6615150aFmt

/-- f a, .., f (b - 1). -/
def seg (f : Nat → Int) (a b : Nat) : List Int := (List.range (b - a)).map fun t => f (a + t)
theorem seg_length (f : Nat → Int) (a b : Nat) : (seg f a b).length = b - a := by simp [seg]
theorem seg_self (f : Nat → Int) (a : Nat) : seg f a a = [] := by simp [seg]
theorem seg_snoc (f : Nat → Int) {a b : Nat} (h : a ≤ b) : seg f a (b + 1) = seg f a b ++ [f b] := by
  unfold seg
  rw [show b + 1 - a = (b - a) + 1 by omega, List.range_succ, List.map_append]
  simp [show a + (b - a) = b by omega]
theorem seg_congr {f g : Nat → Int} {a b : Nat} (h : ∀ t, a ≤ t → t < b → f t = g t) : seg f a b = seg g a b := by
  unfold seg
  refine List.map_congr_left fun t ht => h _ (by omega) ?_
  have := List.mem_range.1 ht; omega
theorem seg_append (f : Nat → Int) {a b c : Nat} (h1 : a ≤ b) (h2 : b ≤ c) : seg f a c = seg f a b ++ seg f b c := by
  induction c with
  | zero => obtain rfl : b = 0 := by omega
            obtain rfl : a = 0 := by omega
            simp [seg]
  | succ c ih =>
    by_cases e : b = c + 1
    · subst e; simp [seg_self]
    · rw [seg_snoc f (by omega), seg_snoc f (by omega), ih (by omega), List.append_assoc]
theorem mem_seg {f : Nat → Int} {a b : Nat} {x : Int} : x ∈ seg f a b ↔ ∃ t, a ≤ t ∧ t < b ∧ f t = x := by
  unfold seg
  simp only [List.mem_map, List.mem_range]
  constructor
  · rintro ⟨t, ht, rfl⟩; exact ⟨a + t, by omega, by omega, rfl⟩
  · rintro ⟨t, h1, h2, rfl⟩; exact ⟨t - a, by omega, by rw [show a + (t - a) = t by omega]⟩

/-- In the midst of a merge of A[lo:mid], A[mid:hi] into B from lo on: i, j are read up to, k is written up to. -/
structure Mid (A B B0 : Nat → Int) (lo mid hi i j k : Nat) : Prop where
  li : lo ≤ i
  im : i ≤ mid
  mj : mid ≤ j
  jh : j ≤ hi
  sum : k + mid = i + j
  old : ∀ t, t < lo → B t = B0 t
  perm : (seg B lo k).Perm (seg A lo i ++ seg A mid j)
  sorted : ∀ p q, lo ≤ p → p < q → q < k → B p ≤ B q
  left : ∀ p q, lo ≤ p → p < k → i ≤ q → q < mid → B p ≤ A q
  right : ∀ p q, lo ≤ p → p < k → j ≤ q → q < hi → B p ≤ A q

theorem Mid.start (A B : Nat → Int) {lo mid hi : Nat} (h1 : lo ≤ mid) (h2 : mid ≤ hi) : Mid A B B lo mid hi lo mid lo :=
  ⟨Nat.le_refl _, h1, Nat.le_refl _, h2, rfl, fun _ _ => rfl, by simp [seg_self], fun _ _ _ _ _ => by omega, fun _ _ _ _ _ _ => by omega, fun _ _ _ _ _ _ => by omega⟩

/-- The left one is taken. -/
theorem Mid.takeL {A B B0 : Nat → Int} {lo mid hi i j k : Nat} (h : Mid A B B0 lo mid hi i j k) (hi1 : i < mid) (hs : ∀ p q, lo ≤ p → p < q → q < mid → A p ≤ A q) (hle : ∀ q, j ≤ q → q < hi → A i ≤ A q) :
    Mid A (fun t => if t = k then A i else B t) B0 lo mid hi (i + 1) j (k + 1) := by
  have hk := h.sum; have h1 := h.li; have h2 := h.im; have h3 := h.mj; have h4 := h.jh
  have hlk : lo ≤ k := by omega
  refine ⟨by omega, by omega, h3, h4, by omega, fun t ht => ?_, ?_, fun p q hp hpq hq => ?_, fun p q hp hpk hiq hqm => ?_, fun p q hp hpk hjq hqh => ?_⟩
  · show (if t = k then A i else B t) = _
    rw [if_neg (by omega)]; exact h.old t ht
  · rw [seg_snoc _ hlk, seg_snoc A h.li]
    have e : seg (fun t => if t = k then A i else B t) lo k = seg B lo k := seg_congr fun t _ ht => if_neg (by omega)
    rw [e]
    simp only [if_true]
    refine (h.perm.append_right _).trans ?_
    rw [List.append_assoc, List.append_assoc]
    exact (List.perm_append_comm (l₁ := seg A mid j) (l₂ := [A i])).append_left _
  · show (if p = k then A i else B p) ≤ (if q = k then A i else B q)
    rw [if_neg (by omega)]
    by_cases e : q = k
    · rw [if_pos e]; exact h.left p i hp (by omega) (Nat.le_refl _) hi1
    · rw [if_neg e]; exact h.sorted p q hp hpq (by omega)
  · show (if p = k then A i else B p) ≤ A q
    by_cases e : p = k
    · rw [if_pos e]; exact hs i q h.li (by omega) hqm
    · rw [if_neg e]; exact h.left p q hp (by omega) (by omega) hqm
  · show (if p = k then A i else B p) ≤ A q
    by_cases e : p = k
    · rw [if_pos e]; exact hle q hjq hqh
    · rw [if_neg e]; exact h.right p q hp (by omega) hjq hqh

/-- The right one is taken. -/
theorem Mid.takeR {A B B0 : Nat → Int} {lo mid hi i j k : Nat} (h : Mid A B B0 lo mid hi i j k) (hj1 : j < hi) (hs : ∀ p q, mid ≤ p → p < q → q < hi → A p ≤ A q) (hle : ∀ q, i ≤ q → q < mid → A j ≤ A q) :
    Mid A (fun t => if t = k then A j else B t) B0 lo mid hi i (j + 1) (k + 1) := by
  have hk := h.sum; have h1 := h.li; have h2 := h.im; have h3 := h.mj; have h4 := h.jh
  have hlk : lo ≤ k := by omega
  refine ⟨h1, h2, by omega, by omega, by omega, fun t ht => ?_, ?_, fun p q hp hpq hq => ?_, fun p q hp hpk hiq hqm => ?_, fun p q hp hpk hjq hqh => ?_⟩
  · show (if t = k then A j else B t) = _
    rw [if_neg (by omega)]; exact h.old t ht
  · rw [seg_snoc _ hlk, seg_snoc A h.mj]
    have e : seg (fun t => if t = k then A j else B t) lo k = seg B lo k := seg_congr fun t _ ht => if_neg (by omega)
    rw [e]
    simp only [if_true]
    refine (h.perm.append_right _).trans ?_
    rw [List.append_assoc]
  · show (if p = k then A j else B p) ≤ (if q = k then A j else B q)
    rw [if_neg (by omega)]
    by_cases e : q = k
    · rw [if_pos e]; exact h.right p j hp (by omega) (Nat.le_refl _) hj1
    · rw [if_neg e]; exact h.sorted p q hp hpq (by omega)
  · show (if p = k then A j else B p) ≤ A q
    by_cases e : p = k
    · rw [if_pos e]; exact hle q hiq hqm
    · rw [if_neg e]; exact h.left p q hp (by omega) hiq hqm
  · show (if p = k then A j else B p) ≤ A q
    by_cases e : p = k
    · rw [if_pos e]; exact hs j q h.mj (by omega) hqh
    · rw [if_neg e]; exact h.right p q hp (by omega) (by omega) hqh

/-- Every run of w numbers is ascending. -/
def Runs (A : Nat → Int) (n w : Nat) : Prop := ∀ p q, p < q → q < n → p / w = q / w → A p ≤ A q

/-- Between two merges: B's runs of 2w up to m are done; up to m it bears A's numbers. -/
structure Upto (A B : Nat → Int) (w m : Nat) : Prop where
  perm : (seg B 0 m).Perm (seg A 0 m)
  runs : ∀ p q, p < q → q < m → p / (2 * w) = q / (2 * w) → B p ≤ B q

theorem Upto.zero (A B : Nat → Int) (w : Nat) : Upto A B w 0 := ⟨by simp [seg_self], fun _ _ _ _ _ => by omega⟩

theorem div_run {w t p : Nat} (hw : 0 < w) (h1 : w * t ≤ p) (h2 : p < w * t + w) : p / w = t := by
  rw [Nat.div_eq_iff hw]
  have : t * w = w * t := Nat.mul_comm _ _
  omega

/-- A merge is over: one run more is done. -/
theorem Upto.next {A B B0 : Nat → Int} {w t mid hi : Nat} (hw : 0 < w) (hu : Upto A B0 w (2 * w * t))
    (h : Mid A B B0 (2 * w * t) mid hi mid hi hi) : Upto A B w hi := by
  have h1 := h.li; have h3 := h.mj
  generalize hl : 2 * w * t = lo at *
  have e0 : seg B 0 lo = seg B0 0 lo := seg_congr fun s _ hs => h.old s hs
  refine ⟨?_, fun p q hpq hq he => ?_⟩
  · rw [seg_append B (Nat.zero_le _) (show lo ≤ hi by omega), seg_append A (Nat.zero_le _) (show lo ≤ hi by omega), e0, seg_append A (show lo ≤ mid by omega) (show mid ≤ hi by omega)]
    exact hu.perm.append h.perm
  · by_cases hp : lo ≤ p
    · exact h.sorted p q hp hpq hq
    · by_cases hql : q < lo
      · rw [h.old p (by omega), h.old q hql]; exact hu.runs p q hpq hql he
      · exfalso
        have g1 : p / (2 * w) < t := by rw [Nat.div_lt_iff_lt_mul (by omega)]; rw [Nat.mul_comm]; omega
        have g2 : t ≤ q / (2 * w) := by rw [Nat.le_div_iff_mul_le (by omega)]; rw [Nat.mul_comm]; omega
        omega

/-- One round of the outer loop is over. -/
theorem Runs.double {A B : Nat → Int} {n w : Nat} (h : Upto A B w n) : Runs B n (w * 2) := fun p q hpq hq he => h.runs p q hpq hq (by rwa [Nat.mul_comm 2 w])

theorem Runs.one (A : Nat → Int) (n : Nat) : Runs A n 1 := fun p q hpq hq he => by simp at he; omega

theorem Runs.left {A : Nat → Int} {n w t mid : Nat} (h : Runs A n w) (hw : 0 < w) (hm1 : mid ≤ 2 * w * t + w) (hm2 : mid ≤ n) : ∀ p q, 2 * w * t ≤ p → p < q → q < mid → A p ≤ A q := fun p q hp hpq hq => by
  have e : 2 * w * t = w * (2 * t) := by rw [Nat.mul_comm 2 w, Nat.mul_assoc]
  exact h p q hpq (by omega) (by rw [div_run (t := 2 * t) hw (by omega) (by omega), div_run (t := 2 * t) hw (by omega) (by omega)])
theorem Runs.right {A : Nat → Int} {n w t mid hi : Nat} (h : Runs A n w) (hw : 0 < w) (hm : mid = 2 * w * t + w ∨ mid = n) (h1 : hi ≤ 2 * w * t + 2 * w) (h2 : hi ≤ n) : ∀ p q, mid ≤ p → p < q → q < hi → A p ≤ A q := fun p q hp hpq hq => by
  rcases hm with hm | hm
  · have e : 2 * w * t + w = w * (2 * t + 1) := by rw [Nat.mul_comm 2 w, Nat.mul_assoc, Nat.mul_add, Nat.mul_one]
    exact h p q hpq (by omega) (by rw [div_run (t := 2 * t + 1) hw (by omega) (by omega), div_run (t := 2 * t + 1) hw (by omega) (by omega)])
  · omega

theorem Runs.whole {A : Nat → Int} {n w : Nat} (h : Runs A n w) (hw : n ≤ w) : ∀ p q, p < q → q < n → A p ≤ A q := fun p q hpq hq => h p q hpq hq (by rw [Nat.div_eq_of_lt (by omega), Nat.div_eq_of_lt (by omega)])

theorem seg_pairwise {f : Nat → Int} {n : Nat} (h : ∀ p q, p < q → q < n → f p ≤ f q) : (seg f 0 n).Pairwise (· ≤ ·) := by
  rw [List.pairwise_iff_getElem]
  intro i j hi hj hij
  simp [seg] at hi hj ⊢
  exact h i j hij hj
end Go.Proofs.Qxb6615150aFmt
