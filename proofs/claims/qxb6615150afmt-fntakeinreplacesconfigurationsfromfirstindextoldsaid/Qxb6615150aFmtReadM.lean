import Derived.Test.Qxb6615150aFmtRead
namespace Go.Proofs.Qxb6615150aFmt
open Go.RowKit

/-- modelAccepts, over ascending rows. -/
def MA (n m k : Nat) (G H K : Nat → Int) : Prop :=
  ¬ ZD n G ∧ ¬ ZD m H ∧ ¬ ZD k K ∧ ¬ (n = 0 ∧ (0 < m ∨ 0 < k)) ∧ ∀ t, t < k → (∀ j, j < n → G j ≠ K t) ∧ (∀ j, j < m → H j ≠ K t)

theorem modelAccepts_any (a b c : Option Addr) (n m k ca cb cc : Nat) (G H K : Nat → Int) (w : World) (hn : n ≤ 4000000) (hm : m ≤ 4000000) (hk : k ≤ 4000000) (hG : RowG w a n G) (hH : RowG w b m H) (hK : RowG w c k K)
    (sG : ∀ i j, i < j → j < n → G i ≤ G j) (sH : ∀ i j, i < j → j < m → H i ≤ H j) :
    Calls Tryf.prog 9 #[.slice a n ca, .slice b m cb, .slice c k cc] w fun e w' => Says e (MA n m k G H K) ∧ ∃ q, w' = w.drewN q := by
  have z1 := hasZeroOrDup_any a n ca G w hn hG
  have z2 := fun q => hasZeroOrDup_any b m cb H (w.drewN q) hm hH
  have z3 := fun q => hasZeroOrDup_any c k cc K (w.drewN q) hk hK
  have s1 := fun x q => containsSorted_any a n ca G x (w.drewN q) hn hG sG
  have s2 := fun x q => containsSorted_any b m cb H x (w.drewN q) hm hH sH
  clear sG sH hG hH
  go_enter Tryf.func9, Tryf.ntmps9
  go_wp2_with fail
  refine z1.mono ?_
  clear z1
  rintro e w' ⟨⟨r1, rfl, h1⟩, q1, rfl⟩
  cases r1 with
  | true =>
    have Z1 : Hid (ZD n G) := h1.1 rfl
    clear h1
    go_wp2_with fail
    go_ret
    exact ⟨⟨false, rfl, by simp; exact fun h => h.1 Z1.out⟩, _, rfl⟩
  | false =>
    have Z1 : Hid (¬ ZD n G) := fun h => by simpa using h1.2 h
    clear h1
    go_wp2_with fail
    refine (z2 q1).mono ?_
    clear z2
    rintro e w' ⟨⟨r2, rfl, h2⟩, q2, rfl⟩
    cases r2 with
    | true =>
      have Z2 : Hid (ZD m H) := h2.1 rfl
      clear h2
      go_wp2_with fail
      go_ret
      exact ⟨⟨false, rfl, by simp; exact fun h => h.2.1 Z2.out⟩, _, rfl⟩
    | false =>
      have Z2 : Hid (¬ ZD m H) := fun h => by simpa using h2.2 h
      clear h2
      go_wp2_with fail
      refine (z3 (q1 + q2)).mono ?_
      clear z3
      rintro e w' ⟨⟨r3, rfl, h3⟩, q3, rfl⟩
      rw [World.drewN_drewN]
      generalize q1 + q2 + q3 = q
      cases r3 with
      | true =>
        have Z3 : Hid (ZD k K) := h3.1 rfl
        clear h3
        go_wp2_with fail
        go_ret
        exact ⟨⟨false, rfl, by simp; exact fun h => h.2.2.1 Z3.out⟩, _, rfl⟩
      | false =>
        have Z3 : Hid (¬ ZD k K) := fun h => by simpa using h3.2 h
        clear h3
        by_cases hb : n = 0 ∧ (0 < m ∨ 0 < k)
        · have HB : Hid (n = 0 ∧ (0 < m ∨ 0 < k)) := hb
          obtain ⟨hb1, hb2⟩ := hb
          have hd1 : ((n : Int) == 0) = true := by simp; omega
          by_cases hm0 : 0 < m
          · have hd2 : decide ((0 : Int) < (m : Int)) = true := by simp; omega
            go_wp2_with fail
            go_ret
            exact ⟨⟨false, rfl, by simp; exact fun h => h.2.2.2.1 HB.out⟩, _, rfl⟩
          · have hd2 : decide ((0 : Int) < (m : Int)) = false := by simp; omega
            have hd3 : decide ((0 : Int) < (k : Int)) = true := by simp; omega
            go_wp2_with fail
            go_ret
            exact ⟨⟨false, rfl, by simp; exact fun h => h.2.2.2.1 HB.out⟩, _, rfl⟩
        · have HB : Hid (¬ (n = 0 ∧ (0 < m ∨ 0 < k))) := hb
          by_cases hn0 : n = 0
          · have hm0 : m = 0 := by omega
            have hk0 : k = 0 := by omega
            have HN : Hid (k = 0) := hk0
            have hd1 : ((n : Int) == 0) = true := by simp; omega
            have hd2 : decide ((0 : Int) < (m : Int)) = false := by simp; omega
            have hd3 : decide ((0 : Int) < (k : Int)) = false := by simp; omega
            go_wp2_with fail
            refine wp_loop_rounds 1 ?_
            rw [rounds_succ]
            go_wp2_with fail
            go_ret
            exact ⟨⟨true, rfl, by simp; exact ⟨Z1.out, Z2.out, Z3.out, HB.out, fun t ht => by have := HN.out; omega⟩⟩, _, rfl⟩
          · have hd1 : ((n : Int) == 0) = false := by simp; omega
            go_wp2_with fail
            go_loopw [7] (fun vi wr => ∃ t : Nat, t ≤ k ∧ vi = .int .i64 t ∧ (∀ s, s < t → (∀ j, j < n → G j ≠ K s) ∧ (∀ j, j < m → H j ≠ K s)) ∧ wr = w.drewN q) (fun vi _ => k - (intOf vi).toNat)
            case atStart => exact ⟨0, by omega, rfl, fun s hs => by omega, rfl⟩
            case round =>
              obtain ⟨t, ht, rfl, hj, rfl⟩ := hrel
              have HJ : Hid _ := hj
              clear hj
              by_cases htk : t < k
              · rcases hK with h0 | ⟨b1, o1, rfl, _, c1⟩
                · omega
                have e1 := c1 t htk
                clear c1
                go_wp2_with fail
                refine (s1 (K t) q).mono ?_
                rintro e w' ⟨⟨r1, rfl, h1⟩, rfl⟩
                cases r1 with
                | true =>
                  have Y : Hid (∃ j, j < n ∧ G j = K t) := h1.1 rfl
                  clear h1
                  go_wp2_with fail
                  go_ret
                  refine ⟨⟨false, rfl, ?_⟩, _, rfl⟩
                  simp only [Bool.false_eq_true, false_iff]
                  intro h
                  obtain ⟨j, h1, h2⟩ := Y.out
                  exact (h.2.2.2.2 t htk).1 j h1 h2
                | false =>
                  have Y1 : Hid (¬ ∃ j, j < n ∧ G j = K t) := fun h => by simpa using h1.2 h
                  clear h1
                  go_wp2_with fail
                  refine (s2 (K t) q).mono ?_
                  rintro e w' ⟨⟨r2, rfl, h2⟩, rfl⟩
                  cases r2 with
                  | true =>
                    have Y : Hid (∃ j, j < m ∧ H j = K t) := h2.1 rfl
                    clear h2
                    go_wp2_with fail
                    go_ret
                    refine ⟨⟨false, rfl, ?_⟩, _, rfl⟩
                    simp only [Bool.false_eq_true, false_iff]
                    intro h
                    obtain ⟨j, h1, h2⟩ := Y.out
                    exact (h.2.2.2.2 t htk).2 j h1 h2
                  | false =>
                    have Y2 : Hid (¬ ∃ j, j < m ∧ H j = K t) := fun h => by simpa using h2.2 h
                    clear h2
                    go_wp2_with fail
                    go_roundw
                    case rel =>
                      refine ⟨t + 1, by omega, by go_num, fun s hs => ?_, trivial⟩
                      by_cases e : s = t
                      · subst e; exact ⟨fun j h1 h2 => Y1.out ⟨j, h1, h2⟩, fun j h1 h2 => Y2.out ⟨j, h1, h2⟩⟩
                      · exact HJ.out s (by omega)
                    case measure => simp [intOf]; omega
              · have hd : decide ((t : Int) < (k : Int)) = false := by simp; omega
                go_wp2_with fail
                go_ret
                refine ⟨⟨true, rfl, ?_⟩, _, rfl⟩
                simp only [true_iff]
                exact ⟨Z1.out, Z2.out, Z3.out, HB.out, fun s hs => HJ.out s (by omega)⟩

theorem zzBytesA (a b c : Option Addr) (n m k ca cb cc : Nat) (w : World) :
    Calls Tryf.prog 7 #[.slice a n ca, .slice b m cb, .slice c k cc] w fun e w' => Says e (n + m + k ≤ 1048576) ∧ w' = w := by
  by_cases h1 : n ≤ 1048576
  · have d1 : decide ((1048576 : Int) < (n : Int)) = false := by simp; omega
    by_cases h2 : m ≤ 1048576
    · have d2 : decide ((1048576 : Int) < (m : Int)) = false := by simp; omega
      by_cases h3 : n + m ≤ 1048576
      · have d3 : decide ((1048576 : Int) < (n : Int) + (m : Int)) = false := by simp; omega
        by_cases h4 : k ≤ 1048576
        · have d4 : decide ((1048576 : Int) < (k : Int)) = false := by simp; omega
          by_cases h5 : n + m + k ≤ 1048576
          · have d5 : decide ((1048576 : Int) < (n : Int) + (m : Int) + (k : Int)) = false := by simp; omega
            go_enter Tryf.func7, Tryf.ntmps7
            go_wp2
            go_ret
            exact ⟨⟨true, rfl, by simp; omega⟩, rfl⟩
          · have d5 : decide ((1048576 : Int) < (n : Int) + (m : Int) + (k : Int)) = true := by simp; omega
            go_enter Tryf.func7, Tryf.ntmps7
            go_wp2
            go_ret
            exact ⟨⟨false, rfl, by simp; omega⟩, rfl⟩
        · have d4 : decide ((1048576 : Int) < (k : Int)) = true := by simp; omega
          go_enter Tryf.func7, Tryf.ntmps7
          go_wp2
          go_ret
          exact ⟨⟨false, rfl, by simp; omega⟩, rfl⟩
      · have d3 : decide ((1048576 : Int) < (n : Int) + (m : Int)) = true := by simp; omega
        go_enter Tryf.func7, Tryf.ntmps7
        go_wp2
        go_ret
        exact ⟨⟨false, rfl, by simp; omega⟩, rfl⟩
    · have d2 : decide ((1048576 : Int) < (m : Int)) = true := by simp; omega
      go_enter Tryf.func7, Tryf.ntmps7
      go_wp2
      go_ret
      exact ⟨⟨false, rfl, by simp; omega⟩, rfl⟩
  · have d1 : decide ((1048576 : Int) < (n : Int)) = true := by simp; omega
    go_enter Tryf.func7, Tryf.ntmps7
    go_wp2
    go_ret
    exact ⟨⟨false, rfl, by simp; omega⟩, rfl⟩

theorem zzBytesB (a b c : Option Addr) (n m k ca cb cc : Nat) (w : World) :
    Calls Tryf.prog 14 #[.slice a n ca, .slice b m cb, .slice c k cc] w fun e w' => Says e (n + m + k ≤ 1048576) ∧ w' = w := by
  by_cases h1 : n ≤ 1048576
  · have d1 : decide ((1048576 : Int) < (n : Int)) = false := by simp; omega
    by_cases h2 : m ≤ 1048576
    · have d2 : decide ((1048576 : Int) < (m : Int)) = false := by simp; omega
      by_cases h3 : n + m ≤ 1048576
      · have d3 : decide ((1048576 : Int) < (n : Int) + (m : Int)) = false := by simp; omega
        by_cases h4 : k ≤ 1048576
        · have d4 : decide ((1048576 : Int) < (k : Int)) = false := by simp; omega
          by_cases h5 : n + m + k ≤ 1048576
          · have d5 : decide ((1048576 : Int) < (n : Int) + (m : Int) + (k : Int)) = false := by simp; omega
            go_enter Tryf.func14, Tryf.ntmps14
            go_wp2
            go_ret
            exact ⟨⟨true, rfl, by simp; omega⟩, rfl⟩
          · have d5 : decide ((1048576 : Int) < (n : Int) + (m : Int) + (k : Int)) = true := by simp; omega
            go_enter Tryf.func14, Tryf.ntmps14
            go_wp2
            go_ret
            exact ⟨⟨false, rfl, by simp; omega⟩, rfl⟩
        · have d4 : decide ((1048576 : Int) < (k : Int)) = true := by simp; omega
          go_enter Tryf.func14, Tryf.ntmps14
          go_wp2
          go_ret
          exact ⟨⟨false, rfl, by simp; omega⟩, rfl⟩
      · have d3 : decide ((1048576 : Int) < (n : Int) + (m : Int)) = true := by simp; omega
        go_enter Tryf.func14, Tryf.ntmps14
        go_wp2
        go_ret
        exact ⟨⟨false, rfl, by simp; omega⟩, rfl⟩
    · have d2 : decide ((1048576 : Int) < (m : Int)) = true := by simp; omega
      go_enter Tryf.func14, Tryf.ntmps14
      go_wp2
      go_ret
      exact ⟨⟨false, rfl, by simp; omega⟩, rfl⟩
  · have d1 : decide ((1048576 : Int) < (n : Int)) = true := by simp; omega
    go_enter Tryf.func14, Tryf.ntmps14
    go_wp2
    go_ret
    exact ⟨⟨false, rfl, by simp; omega⟩, rfl⟩
end Go.Proofs.Qxb6615150aFmt
