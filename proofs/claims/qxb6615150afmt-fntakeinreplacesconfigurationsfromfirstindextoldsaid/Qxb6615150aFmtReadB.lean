import Derived.Test.Qxb6615150aFmtRead
import Derived.Test.Qxb6615150aFmtSrt0
namespace Go.Proofs.Qxb6615150aFmt
open Go.RowKit

theorem isNaN64 (x : Int) (w : World) : Calls Tryf.prog 64 #[.int .u64 x] w fun e w' => e = .returned (.bool false) ∧ w' = w := by
  go_enter Tryf.func64, Tryf.ntmps64
  go_wp2
  go_ret
  exact ⟨by simp, rfl⟩

/-- A place, and whether p. -/
def SaysAt (e : Ending) (p : Prop) : Prop := ∃ (i : Nat) (r : Bool), e = .returned (.tuple #[.int .i64 i, .bool r]) ∧ (r = true ↔ p)

/-- slices.BinarySearch over an ascending row. -/
theorem binarySearch_any (a : Option Addr) (n ca : Nat) (G : Nat → Int) (x : Int) (w : World) (hn : n ≤ 4000000) (hG : RowG w a n G) (hs : ∀ i j, i < j → j < n → G i ≤ G j) :
    Calls Tryf.prog 57 #[.slice a n ca, .int .u64 x] w fun e w' => SaysAt e (∃ j, j < n ∧ G j = x) ∧ w' = w := by
  have HS : Hid (∀ i j, i < j → j < n → G i ≤ G j) := hs
  clear hs
  go_enter Tryf.func57, Tryf.ntmps57
  go_wp2
  go_loop [7, 8] (fun l h => ∃ lo hi : Nat, lo ≤ hi ∧ hi ≤ n ∧ l = .int .i64 lo ∧ h = .int .i64 hi ∧ (∀ j, j < lo → G j < x) ∧ (∀ j, hi ≤ j → j < n → x ≤ G j)) (fun l h => (intOf h - intOf l).toNat)
  case atStart => exact ⟨0, n, by omega, by omega, rfl, rfl, fun j h => by omega, fun j h1 h2 => by omega⟩
  case round =>
    obtain ⟨lo, hi, hlh, hhn, rfl, rfl, h1, h2⟩ := hrel
    have H1 : Hid (∀ j, j < lo → G j < x) := h1
    have H2 : Hid (∀ j, hi ≤ j → j < n → x ≤ G j) := h2
    clear h1 h2
    by_cases hlt : lo < hi
    · rcases hG with h0 | ⟨b1, o1, rfl, _, c1⟩
      · omega
      obtain ⟨mid, em⟩ : ∃ mid : Nat, ((lo : Int) + (hi : Int)) / 2 = (mid : Int) := ⟨(lo + hi) / 2, by omega⟩
      have hm1 : lo ≤ mid := by omega
      have hm2 : mid < hi := by omega
      have e1 := c1 mid (by omega)
      have hL := srt_cmp_Less_int (G mid) x w
      clear c1
      by_cases hq : G mid < x
      · have hlt' : Sort.ltInt (G mid) x = true := by simpa [Sort.ltInt] using hq
        rw [hlt'] at hL
        have HQ : Hid (G mid < x) := hq
        clear hq hlt'
        go_wp2_with (go_at_call 63; refine hL.mono ?_; rintro e w' ⟨rfl, rfl⟩)
        go_round
        case rel =>
          refine ⟨mid + 1, hi, by omega, hhn, by go_num, rfl, fun j hj => ?_, H2.out⟩
          by_cases e : j = mid
          · subst e; exact HQ.out
          · have := HS.out j mid (by omega) (by omega); have := HQ.out; omega
        case measure => simp [intOf]; omega
      · have hlt' : Sort.ltInt (G mid) x = false := by simp [Sort.ltInt]; omega
        rw [hlt'] at hL
        have HQ : Hid (x ≤ G mid) := by show x ≤ G mid; omega
        clear hq hlt'
        go_wp2_with (go_at_call 63; refine hL.mono ?_; rintro e w' ⟨rfl, rfl⟩)
        go_round
        case rel =>
          refine ⟨lo, mid, by omega, by omega, rfl, rfl, H1.out, fun j hj hjn => ?_⟩
          by_cases e : j = mid
          · subst e; exact HQ.out
          · have := HS.out mid j (by omega) (by omega); have := HQ.out; omega
        case measure => simp [intOf]; omega
    · obtain rfl : lo = hi := by omega
      by_cases hln : lo < n
      · rcases hG with h0 | ⟨b1, o1, rfl, _, c1⟩
        · omega
        have e1 := c1 lo hln
        have hN := isNaN64 (G lo) w
        clear c1
        by_cases hx : G lo = x
        · have hb : (G lo == x) = true := by simpa using hx
          have HX : Hid (G lo = x) := hx
          clear hx
          go_wp2
          go_ret2
          exact ⟨⟨lo, true, rfl, by simp; exact ⟨lo, hln, HX.out⟩⟩, rfl⟩
        · have hb : (G lo == x) = false := by simpa using hx
          have HX : Hid (¬ G lo = x) := hx
          clear hx
          go_wp2_with (go_at_call 64; refine hN.mono ?_; rintro e w' ⟨rfl, rfl⟩)
          go_ret2
          refine ⟨⟨lo, false, rfl, ?_⟩, rfl⟩
          simp only [Bool.false_eq_true, false_iff]
          rintro ⟨j, hj, hx⟩
          have g1 := H2.out lo (Nat.le_refl _) hln
          have := HX.out
          by_cases e : j < lo
          · have := H1.out j e; omega
          · by_cases e2 : j = lo
            · subst e2; exact HX.out hx
            · have := HS.out lo j (by omega) hj; omega
      · have hd : decide ((lo : Int) < (n : Int)) = false := by simp; omega
        go_wp2
        go_ret2
        refine ⟨⟨lo, false, rfl, ?_⟩, rfl⟩
        simp only [Bool.false_eq_true, false_iff]
        rintro ⟨j, hj, hx⟩
        have := H1.out j (by omega)
        omega

/-- voters.has. -/
theorem has_any (s0 s1 s3 s4 : Value) (a : Option Addr) (n ca : Nat) (G : Nat → Int) (x : Int) (w : World) (hn : n ≤ 4000000) (hG : RowG w a n G) (hs : ∀ i j, i < j → j < n → G i ≤ G j) :
    Calls Tryf.prog 47 #[.agg #[s0, s1, .slice a n ca, s3, s4], .int .u64 x] w fun e w' => Says e (∃ j, j < n ∧ G j = x) ∧ w' = w.alloc (.cells #[s0, s1, .slice a n ca, s3, s4] 27) := by
  have hB := binarySearch_any a n ca G x (w.alloc (.cells #[s0, s1, .slice a n ca, s3, s4] 27)) hn (hG.below ((Below.refl _ w).alloc (Nat.le_refl _) _)) hs
  clear hs
  go_enter Tryf.func47, Tryf.ntmps47
  go_wp2_with (go_at_call 57; refine hB.mono ?_; rintro e w' ⟨⟨p, r, rfl, hr⟩, rfl⟩)
  have HR : Hid _ := hr
  clear hr hB
  go_wp2
  go_ret
  exact ⟨⟨r, rfl, HR.out⟩, rfl⟩
end Go.Proofs.Qxb6615150aFmt
