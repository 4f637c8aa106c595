import Derived.Test.Qxb6615150aFmtRead
import Derived.Test.Qxb6615150aFmtMerge
namespace Go.Proofs.Qxb6615150aFmt
open Go.RowKit

theorem strictlyAscending_any (a : Option Addr) (n ca : Nat) (G : Nat → Int) (w : World) (hn : n ≤ 4000000) (hG : RowG w a n G) :
    Calls Tryf.prog 16 #[.slice a n ca] w fun e w' => Says e (∀ j, 1 ≤ j → j < n → G (j - 1) < G j) ∧ ∃ q, w' = w.drewN q := by
  go_enter Tryf.func16, Tryf.ntmps16
  go_wp2
  go_loopw [3] (fun i wr => ∃ k : Nat, 1 ≤ k ∧ k ≤ n + 1 ∧ i = .int .i64 k ∧ (∀ j, 1 ≤ j → j < k → j < n → G (j - 1) < G j) ∧ ∃ q, wr = w.drewN q) (fun i _ => n + 1 - (intOf i).toNat)
  case atStart => exact ⟨1, by omega, by omega, rfl, fun j h1 h2 => by omega, 0, rfl⟩
  case round =>
    obtain ⟨k, hk1, hk, rfl, hj, q, rfl⟩ := hrel
    have HJ : Hid (∀ j, 1 ≤ j → j < k → j < n → G (j - 1) < G j) := hj
    clear hj
    by_cases hlt : k < n
    · rcases hG with h0 | ⟨b1, o1, rfl, _, c1⟩
      · omega
      have e1 := c1 k hlt
      have e2 := c1 (k - 1) (by omega)
      obtain ⟨p, rfl⟩ : ∃ p, k = p + 1 := ⟨k - 1, by omega⟩
      rw [show p + 1 - 1 = p by omega] at e2
      have hk0 : (0 : Int) ≤ (p : Int) := by omega
      have hk1 : (p : Int) + 1 < (n : Int) := by omega
      have hk2 : (p : Int) < (n : Int) := by omega
      clear c1
      go_wp2
      go_quiet (fail)
      go_wp2
      · go_ret
        have hq : G (p + 1) ≤ G p := by assumption
        refine ⟨⟨false, rfl, ?_⟩, _, World.drewN_drewN _ _ _⟩
        simp only [Bool.false_eq_true, false_iff]
        intro h
        have := h (p + 1) (by omega) hlt
        rw [show p + 1 - 1 = p by omega] at this
        omega
      · have hq : G p < G (p + 1) := by assumption
        have HQ : Hid (G p < G (p + 1)) := hq
        clear hq
        go_roundw
        case rel =>
          refine ⟨p + 1 + 1, by omega, by omega, by go_num, fun j h1 hj hjn => ?_, _, rfl⟩
          by_cases e : j = p + 1
          · subst e; exact HQ.out
          · exact HJ.out j h1 (by omega) hjn
        case measure => simp [intOf]; omega
    · have hd : decide ((k : Int) < (n : Int)) = false := by simp; omega
      go_wp2
      go_ret
      exact ⟨⟨true, rfl, by simp; exact fun j h1 h2 => HJ.out j h1 (by omega) h2⟩, _, rfl⟩

/-- How many of G 0 .. G (k-1) are among H 0 .. H (m-1). -/
def CC (G H : Nat → Int) (m k : Nat) : Nat := ((seg G 0 k).filter fun x => decide (x ∈ seg H 0 m)).length
theorem CC_zero (G H : Nat → Int) (m : Nat) : CC G H m 0 = 0 := by simp [CC, seg]
theorem CC_in {G H : Nat → Int} {m k : Nat} (h : ∃ q, q < m ∧ H q = G k) : CC G H m (k + 1) = CC G H m k + 1 := by
  have hm : G k ∈ seg H 0 m := by obtain ⟨q, h1, h2⟩ := h; exact mem_seg.2 ⟨q, Nat.zero_le _, h1, h2⟩
  simp [CC, seg_snoc G (Nat.zero_le k), List.filter_append, hm]
theorem CC_out {G H : Nat → Int} {m k : Nat} (h : ∀ q, q < m → H q ≠ G k) : CC G H m (k + 1) = CC G H m k := by
  have hm : ¬ G k ∈ seg H 0 m := by intro h'; obtain ⟨q, _, h1, h2⟩ := mem_seg.1 h'; exact h q h1 h2
  simp [CC, seg_snoc G (Nat.zero_le k), List.filter_append, hm]
theorem CC_end {G H : Nat → Int} {m k n : Nat} (hk : k ≤ n) (h : ∀ p q, k ≤ p → p < n → q < m → H q ≠ G p) : CC G H m n = CC G H m k := by
  induction n with
  | zero => obtain rfl : k = 0 := by omega
            rfl
  | succ n ih =>
    by_cases e : k = n + 1
    · subst e; rfl
    · rw [CC_out (fun q hq => h n q (by omega) (by omega) hq)]
      exact ih (by omega) (fun p q h1 h2 h3 => h p q h1 (by omega) h3)
theorem CC_le (G H : Nat → Int) (m k : Nat) : CC G H m k ≤ k := by
  have := List.length_filter_le (fun x => decide (x ∈ seg H 0 m)) (seg G 0 k)
  rw [seg_length] at this
  exact this

theorem commonCount_any (a b : Option Addr) (n m ca cb : Nat) (G H : Nat → Int) (w : World) (hn : n ≤ 4000000) (hm : m ≤ 4000000) (hG : RowG w a n G) (hH : RowG w b m H)
    (sG : ∀ i j, i < j → j < n → G i < G j) (sH : ∀ i j, i < j → j < m → H i < H j) :
    Calls Tryf.prog 17 #[.slice a n ca, .slice b m cb] w fun e w' => e = .returned (.int .i64 (CC G H m n)) ∧ ∃ q, w' = w.drewN q := by
  have SG : Hid (∀ i j, i < j → j < n → G i < G j) := sG
  have SH : Hid (∀ i j, i < j → j < m → H i < H j) := sH
  clear sG sH
  go_enter Tryf.func17, Tryf.ntmps17
  go_wp2
  go_loopw [5, 6, 7] (fun vc vi vj wr => ∃ i j c : Nat, i ≤ n ∧ j ≤ m ∧ c ≤ i ∧ vc = .int .i64 c ∧ vi = .int .i64 i ∧ vj = .int .i64 j ∧ c = CC G H m i ∧ (∀ p q, p < i → j ≤ q → q < m → G p < H q) ∧ (∀ p q, q < j → i ≤ p → p < n → H q < G p) ∧ ∃ q, wr = w.drewN q)
    (fun _ vi vj _ => (n - (intOf vi).toNat) + (m - (intOf vj).toNat))
  case atStart => exact ⟨0, 0, 0, by omega, by omega, by omega, rfl, rfl, rfl, (CC_zero G H m).symm, fun p q h => by omega, fun p q h => by omega, 0, rfl⟩
  case round =>
    obtain ⟨i, j, c, hi, hj, hci, rfl, rfl, rfl, hc, h1, h2, q, rfl⟩ := hrel
    have HC : Hid (c = CC G H m i) := hc
    have H1 : Hid (∀ p q, p < i → j ≤ q → q < m → G p < H q) := h1
    have H2 : Hid (∀ p q, q < j → i ≤ p → p < n → H q < G p) := h2
    clear hc h1 h2
    by_cases hi1 : i < n
    · by_cases hj1 : j < m
      · rcases hG with h0 | ⟨b1, o1, rfl, _, c1⟩
        · omega
        rcases hH with h0 | ⟨b2, o2, rfl, _, c2⟩
        · omega
        have e1 := c1 i hi1
        have e2 := c2 j hj1
        have hk0 : (0 : Int) ≤ (i : Int) := by omega
        have hk1 : (i : Int) < (n : Int) := by omega
        have hk2 : (0 : Int) ≤ (j : Int) := by omega
        have hk3 : (j : Int) < (m : Int) := by omega
        clear c1 c2
        go_wp2
        go_quiet (fail)
        go_wp2
        · have hq : G i < H j := by assumption
          have HQ : Hid (G i < H j) := hq
          clear hq
          go_roundw
          case rel =>
            refine ⟨i + 1, j, c, by omega, by omega, by omega, rfl, by go_num, rfl, ?_, fun p q hp hq1 hq2 => ?_, fun p q h h' h'' => H2.out p q h (by omega) h'', _, rfl⟩
            · rw [CC_out (fun q hq he => ?_)]
              · exact HC.out
              · by_cases e : q < j
                · have := H2.out i q e (Nat.le_refl _) hi1; omega
                · have := HQ.out
                  by_cases e2 : q = j
                  · subst e2; omega
                  · have := SH.out j q (by omega) hq; omega
            · by_cases e : p = i
              · subst e
                have := HQ.out
                by_cases e2 : q = j
                · subst e2; exact this
                · have := SH.out j q (by omega) hq2; omega
              · exact H1.out p q (by omega) hq1 hq2
          case measure => simp [intOf]; omega
        · have hq : H j ≤ G i := by assumption
          have HQ : Hid (H j ≤ G i) := hq
          clear hq
          go_quiet (fail)
          go_wp2
          · have hq : H j < G i := by assumption
            have HQ' : Hid (H j < G i) := hq
            clear hq
            go_roundw
            case rel =>
              refine ⟨i, j + 1, c, by omega, by omega, by omega, rfl, rfl, by go_num, HC.out, fun p q hp hq1 hq2 => H1.out p q hp (by omega) hq2, fun p q h h' h'' => ?_, _, rfl⟩
              by_cases e : q = j
              · subst e
                have := HQ'.out
                by_cases e2 : p = i
                · subst e2; exact this
                · have := SG.out i p (by omega) h''; omega
              · exact H2.out p q (by omega) h' h''
            case measure => simp [intOf]; omega
          · have hq : G i ≤ H j := by assumption
            have HQ' : Hid (G i = H j) := by have := HQ.out; show G i = H j; omega
            clear hq
            go_roundw
            case rel =>
              refine ⟨i + 1, j + 1, c + 1, by omega, by omega, by omega, by go_num, by go_num, by go_num, ?_, fun p q hp hq1 hq2 => ?_, fun p q h h' h'' => ?_, _, rfl⟩
              · rw [CC_in ⟨j, hj1, HQ'.out.symm⟩, ← HC.out]
              · by_cases e : p = i
                · subst e
                  have := SH.out j q (by omega) hq2
                  have := HQ'.out; omega
                · exact H1.out p q (by omega) (by omega) hq2
              · by_cases e : q = j
                · subst e
                  have := SG.out i p (by omega) h''
                  have := HQ'.out; omega
                · exact H2.out p q (by omega) (by omega) h''
            case measure => simp [intOf]; omega
      · have hd : decide ((j : Int) < (m : Int)) = false := by simp; omega
        go_wp2
        go_ret
        refine ⟨?_, _, rfl⟩
        have he : CC G H m n = c := by
          rw [HC.out]
          exact CC_end hi fun p q hp hp2 hq he => by
            have := H2.out p q (by omega) hp hp2
            omega
        rw [he]
        rfl
    · have hd : decide ((i : Int) < (n : Int)) = false := by simp; omega
      go_wp2
      go_ret
      refine ⟨?_, _, rfl⟩
      have he : CC G H m n = c := by
        have hin : i = n := by omega
        rw [HC.out, hin]
      rw [he]
      rfl
end Go.Proofs.Qxb6615150aFmt
