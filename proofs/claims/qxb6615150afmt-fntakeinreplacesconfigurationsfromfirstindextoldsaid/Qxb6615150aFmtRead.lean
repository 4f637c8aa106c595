import Derived.Test.Qxb6615150aFmtRows
import Derived.WalkKit
import Derived.WalkSpells
import Derived.WalkLawsBesides
import Derived.Deep.QuietTactic
import Derived.BigQuiet
namespace Go.Proofs.Qxb6615150aFmt
open Go.RowKit

/-- n numbers 'G 0 .. G (n-1)' lie at 'ao' (or there are none). -/
def RowG (w : World) (ao : Option Addr) (n : Nat) (G : Nat → Int) : Prop :=
  n = 0 ∨ ∃ b off, ao = some ⟨b, off, none⟩ ∧ b < w.heap.size ∧ ∀ j, j < n → w.cell? ⟨b, off + j, none⟩ = some (.int .u64 (G j))
theorem RowG.drewN {w : World} {ao : Option Addr} {n : Nat} {G : Nat → Int} (m : Nat) (h : RowG w ao n G) : RowG (w.drewN m) ao n G := h
theorem RowG.below {w w' : World} {ao : Option Addr} {n : Nat} {G : Nat → Int} (hb : Below w.heap.size w w') : RowG w ao n G → RowG w' ao n G
  | .inl e => .inl e
  | .inr ⟨b, off, e, hl, hc⟩ => .inr ⟨b, off, e, Nat.lt_of_lt_of_le hl hb.size, fun j hj => (hb.cell (p := ⟨b, off + j, none⟩) hl).trans (hc j hj)⟩

theorem ret_bool {a b : Bool} (h : a = b) : Ending.returned (.bool a) = .returned (.bool b) := by rw [h]

/-- It returns the bool that says whether p. -/
def Says (e : Ending) (p : Prop) : Prop := ∃ r : Bool, e = .returned (.bool r) ∧ (r = true ↔ p)

/-- sameList. -/
theorem sameList_any (a b : Option Addr) (n m ca cb : Nat) (G H : Nat → Int) (w : World) (hn : n ≤ 4000000) (hm : m ≤ 4000000) (hG : RowG w a n G) (hH : RowG w b m H) :
    Calls Tryf.prog 12 #[.slice a n ca, .slice b m cb] w fun e w' => Says e (n = m ∧ ∀ j, j < n → G j = H j) ∧ ∃ q, w' = w.drewN q := by
  by_cases hnm : n = m
  · subst hnm
    have hne : ((n : Int) != (n : Int)) = false := by simp
    go_enter Tryf.func12, Tryf.ntmps12
    go_wp2
    go_loopw [5] (fun i wr => ∃ k : Nat, k ≤ n ∧ i = .int .i64 k ∧ (∀ j, j < k → G j = H j) ∧ ∃ q, wr = w.drewN q) (fun i _ => n - (intOf i).toNat)
    case atStart => exact ⟨0, Nat.zero_le _, rfl, fun j hj => by omega, 0, rfl⟩
    case round =>
      obtain ⟨k, hk, rfl, hj, q, rfl⟩ := hrel
      by_cases hlt : k < n
      · rcases hG with h0 | ⟨b1, o1, rfl, _, c1⟩
        · omega
        rcases hH with h0 | ⟨b2, o2, rfl, _, c2⟩
        · omega
        have e1 := c1 k hlt
        have e2 := c2 k hlt
        have hk0 : (0 : Int) ≤ (k : Int) := by omega
        have hk1 : (k : Int) < (n : Int) := by omega
        have HJ : Hid (∀ j, j < k → G j = H j) := hj
        clear hj c1 c2
        go_wp2
        go_quiet (fail)
        go_wp2
        · go_ret
          have hq : G k ≠ H k := by simpa using ‹(G k != H k) = true›
          exact ⟨⟨false, rfl, by simp; exact ⟨k, hlt, hq⟩⟩, _, World.drewN_drewN _ _ _⟩
        · have hq : G k = H k := by simpa using ‹(G k != H k) = false›
          have HQ : Hid (G k = H k) := hq
          clear hq
          go_roundw
          case rel =>
            refine ⟨k + 1, by omega, by go_num, fun j hj => ?_, _, rfl⟩
            by_cases e : j = k
            · subst e; exact HQ.out
            · exact HJ.out j (by omega)
          case measure => simp [intOf]; omega
      · have HJ : Hid (∀ j, j < k → G j = H j) := hj
        clear hj
        go_wp2
        go_ret
        obtain rfl : k = n := by omega
        exact ⟨⟨true, rfl, by simp; exact HJ.out⟩, _, rfl⟩
  · have hne : ((n : Int) != (m : Int)) = true := by simp; omega
    go_enter Tryf.func12, Tryf.ntmps12
    go_wp2
    go_ret
    exact ⟨⟨false, rfl, by simp [hnm]⟩, 0, rfl⟩

/-- Zero at the head, or two neighbours that are one. -/
def ZD (n : Nat) (G : Nat → Int) : Prop := (0 < n ∧ G 0 = 0) ∨ ∃ j, 1 ≤ j ∧ j < n ∧ G j = G (j - 1)

theorem hasZeroOrDup_any (a : Option Addr) (n ca : Nat) (G : Nat → Int) (w : World) (hn : n ≤ 4000000) (hG : RowG w a n G) :
    Calls Tryf.prog 29 #[.slice a n ca] w fun e w' => Says e (ZD n G) ∧ ∃ q, w' = w.drewN q := by
  rcases hG with rfl | ⟨b1, o1, rfl, _, c1⟩
  · have hd : decide ((0 : Int) < ((0 : Nat) : Int)) = false := by simp
    go_enter Tryf.func29, Tryf.ntmps29
    go_wp2
    refine wp_loop_rounds 1 ?_
    rw [rounds_succ]
    go_wp2
    go_ret
    exact ⟨⟨false, rfl, by simp [ZD]⟩, 0, rfl⟩
  by_cases hn0 : n = 0
  · subst hn0
    go_enter Tryf.func29, Tryf.ntmps29
    go_wp2
    refine wp_loop_rounds 1 ?_
    rw [rounds_succ]
    go_wp2
    go_ret
    exact ⟨⟨false, rfl, by simp [ZD]⟩, 0, rfl⟩
  have e0 := c1 0 (by omega)
  rw [Nat.add_zero] at e0
  by_cases hz : G 0 = 0
  · have hb : (G 0 == 0) = true := by simpa using hz
    have HZ : Hid (G 0 = 0) := hz
    clear hz c1
    go_enter Tryf.func29, Tryf.ntmps29
    go_wp2
    go_ret
    exact ⟨⟨true, rfl, by simp; exact .inl ⟨by omega, HZ.out⟩⟩, 0, rfl⟩
  · have hb : (G 0 == 0) = false := by simpa using hz
    have HZ : Hid (¬ G 0 = 0) := hz
    clear hz
    go_enter Tryf.func29, Tryf.ntmps29
    go_wp2
    go_loopw [3] (fun i wr => ∃ k : Nat, 1 ≤ k ∧ k ≤ n ∧ i = .int .i64 k ∧ (∀ j, 1 ≤ j → j < k → G j ≠ G (j - 1)) ∧ ∃ q, wr = w.drewN q) (fun i _ => n - (intOf i).toNat)
    case atStart => exact ⟨1, by omega, by omega, rfl, fun j h1 h2 => by omega, 0, rfl⟩
    case round =>
      obtain ⟨k, hk1, hk, rfl, hj, q, rfl⟩ := hrel
      have HJ : Hid (∀ j, 1 ≤ j → j < k → G j ≠ G (j - 1)) := hj
      clear hj
      by_cases hlt : k < n
      · have e1 := c1 k hlt
        have e2 := c1 (k - 1) (by omega)
        obtain ⟨p, rfl⟩ : ∃ p, k = p + 1 := ⟨k - 1, by omega⟩
        rw [show p + 1 - 1 = p by omega] at e2
        have hk0 : (0 : Int) ≤ (p : Int) := by omega
        have hk1 : (p : Int) + 1 < (n : Int) := by omega
        have hk2 : (p : Int) < (n : Int) := by omega
        clear c1
        go_wp2
        go_quiet (fail)
        go_wp2
        · go_ret
          have hq : G (p + 1) = G p := by simpa using ‹(G (p + 1) == G p) = true›
          exact ⟨⟨true, rfl, by simp; exact .inr ⟨p + 1, by omega, hlt, hq⟩⟩, _, World.drewN_drewN _ _ _⟩
        · have hq : ¬ G (p + 1) = G p := by simpa using ‹(G (p + 1) == G p) = false›
          have HQ : Hid (¬ G (p + 1) = G p) := hq
          clear hq
          go_roundw
          case rel =>
            refine ⟨p + 1 + 1, by omega, by omega, by go_num, fun j h1 hj => ?_, _, rfl⟩
            by_cases e : j = p + 1
            · subst e; exact HQ.out
            · exact HJ.out j h1 (by omega)
          case measure => simp [intOf]; omega
      · go_wp2
        go_ret
        obtain rfl : k = n := by omega
        refine ⟨⟨false, rfl, ?_⟩, _, rfl⟩
        simp only [Bool.false_eq_true, false_iff]
        rintro (⟨_, h⟩ | ⟨j, h1, h2, h3⟩)
        · exact HZ.out h
        · exact HJ.out j h1 h2 h3

/-- containsSorted over an ascending row: is x among the numbers? -/
theorem containsSorted_any (a : Option Addr) (n ca : Nat) (G : Nat → Int) (x : Int) (w : World) (hn : n ≤ 4000000) (hG : RowG w a n G) (hs : ∀ i j, i < j → j < n → G i ≤ G j) :
    Calls Tryf.prog 30 #[.slice a n ca, .int .u64 x] w fun e w' => Says e (∃ j, j < n ∧ G j = x) ∧ w' = w := by
  have HS : Hid (∀ i j, i < j → j < n → G i ≤ G j) := hs
  clear hs
  go_enter Tryf.func30, Tryf.ntmps30
  go_wp2
  go_loop [5, 6] (fun l h => ∃ lo hi : Nat, lo ≤ hi ∧ hi ≤ n ∧ l = .int .i64 lo ∧ h = .int .i64 hi ∧ (∀ j, j < lo → G j < x) ∧ (∀ j, hi ≤ j → j < n → x ≤ G j)) (fun l h => (intOf h - intOf l).toNat)
  case atStart => exact ⟨0, n, by omega, by omega, rfl, rfl, fun j h => by omega, fun j h1 h2 => by omega⟩
  case round =>
    obtain ⟨lo, hi, hlh, hhn, rfl, rfl, h1, h2⟩ := hrel
    have H1 : Hid (∀ j, j < lo → G j < x) := h1
    have H2 : Hid (∀ j, hi ≤ j → j < n → x ≤ G j) := h2
    clear h1 h2
    by_cases hlt : lo < hi
    · rcases hG with h0 | ⟨b1, o1, rfl, _, c1⟩
      · omega
      obtain ⟨mid, em⟩ : ∃ mid : Nat, (lo : Int) + ((hi : Int) - (lo : Int)) / 2 = (mid : Int) := ⟨lo + (hi - lo) / 2, by omega⟩
      have hm1 : lo ≤ mid := by omega
      have hm2 : mid < hi := by omega
      have e1 := c1 mid (by omega)
      clear c1
      go_wp2
      · have hq : G mid < x := by assumption
        have HQ : Hid (G mid < x) := hq
        go_round
        case rel =>
          refine ⟨mid + 1, hi, by omega, hhn, by go_num, rfl, fun j hj => ?_, H2.out⟩
          by_cases e : j = mid
          · subst e; exact HQ.out
          · have := HS.out j mid (by omega) (by omega); have := HQ.out; omega
        case measure => simp [intOf]; omega
      · have hq : x ≤ G mid := by assumption
        have HQ : Hid (x ≤ G mid) := hq
        go_round
        case rel =>
          refine ⟨lo, mid, by omega, by omega, rfl, rfl, H1.out, fun j hj hjn => ?_⟩
          by_cases e : j = mid
          · subst e; exact HQ.out
          · have := HS.out mid j (by omega) (by omega); have := HQ.out; omega
        case measure => simp [intOf]; omega
    · obtain rfl : lo = hi := by omega
      by_cases hln : lo < n
      · rcases hG with h0 | ⟨b1, o1, rfl, _, c1⟩
        · omega
        have e1 := c1 lo hln
        clear c1
        go_wp2
        go_ret
        refine ⟨⟨G lo == x, rfl, ?_⟩, rfl⟩
        rw [beq_iff_eq]
        refine ⟨fun h => ⟨lo, hln, h⟩, ?_⟩
        rintro ⟨j, hj, hx⟩
        have g1 := H2.out lo (Nat.le_refl _) hln
        by_cases e : j < lo
        · have := H1.out j e; omega
        · by_cases e2 : j = lo
          · subst e2; exact hx
          · have := HS.out lo j (by omega) hj; omega
      · have hd : decide ((lo : Int) < (n : Int)) = false := by simp; omega
        go_wp2
        go_ret
        refine ⟨⟨false, rfl, ?_⟩, rfl⟩
        simp only [Bool.false_eq_true, false_iff]
        rintro ⟨j, hj, hx⟩
        have := H1.out j (by omega)
        omega
end Go.Proofs.Qxb6615150aFmt
