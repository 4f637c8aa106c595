import Derived.Test.Qxb6615150aFmtDec
namespace Go.Proofs.Qxb6615150aFmt
open Go.RowKit

/-- cmp.Compare. -/
theorem compare_any (x y : Int) (w : World) : Calls Tryf.prog 67 #[.int .u64 x, .int .u64 y] w fun e w' => e = .returned (.int .i64 (if x < y then -1 else if y < x then 1 else 0)) ∧ w' = w := by
  by_cases h1 : x < y
  · go_enter Tryf.func67, Tryf.ntmps67
    go_wp2_with (go_at_call 78; refine (srt_cmp_isNaN_int _ _).mono ?_; rintro e w' ⟨rfl, rfl⟩)
    go_ret
    exact ⟨by first | rfl | (simp [h1]; rfl), rfl⟩
  · by_cases h2 : y < x
    · go_enter Tryf.func67, Tryf.ntmps67
      go_wp2_with (go_at_call 78; refine (srt_cmp_isNaN_int _ _).mono ?_; rintro e w' ⟨rfl, rfl⟩)
      go_ret
      exact ⟨by first | rfl | (simp [h1, h2]; rfl), rfl⟩
    · go_enter Tryf.func67, Tryf.ntmps67
      go_wp2_with (go_at_call 78; refine (srt_cmp_isNaN_int _ _).mono ?_; rintro e w' ⟨rfl, rfl⟩)
      go_ret
      exact ⟨by first | rfl | (simp [h1, h2]; rfl), rfl⟩

/-- after's function. -/
theorem after1_any (x y : Int) (s0 s1 s2 s3 s4 : Value) (w : World) : Calls Tryf.prog 66 #[.agg #[.int .u64 x, s0, s1, s2, s3, s4], .int .u64 y] w fun e w' => e = .returned (.int .i64 (if x < y then -1 else if y < x then 1 else 0)) ∧ w' = w.alloc (.cells #[.int .u64 x, s0, s1, s2, s3, s4] 69) := by
  have hc := fun o => compare_any x y (w.alloc o)
  generalize (if x < y then (-1 : Int) else if y < x then 1 else 0) = r at hc ⊢
  go_enter Tryf.func66, Tryf.ntmps66
  go_wp2_with (go_at_call 67; refine (hc _).mono ?_; rintro e w' ⟨rfl, rfl⟩)
  go_ret
  exact ⟨rfl, rfl⟩

/-- n changes lie at g: their indices X, their voters' slices S. -/
def RowC (w : World) (g n : Nat) (X : Nat → Int) (S : Nat → Nat → Value) : Prop :=
  g < w.heap.size ∧ ∀ k, k < n → w.cell? ⟨g, k * 6, none⟩ = some (.int .u64 (X k)) ∧ ∀ j, j < 5 → w.cell? ⟨g, k * 6 + 1 + j, none⟩ = some (S k j)
theorem RowC.below {w w' : World} {g n : Nat} {X : Nat → Int} {S : Nat → Nat → Value} (h : RowC w g n X S) (hb : Below w.heap.size w w') : RowC w' g n X S :=
  ⟨Nat.lt_of_lt_of_le h.1 hb.size, fun k hk => ⟨(hb.cell (p := ⟨g, k * 6, none⟩) h.1).trans (h.2 k hk).1, fun j hj => (hb.cell (p := ⟨g, k * 6 + 1 + j, none⟩) h.1).trans ((h.2 k hk).2 j hj)⟩⟩

/-- A place that parts what lies below y from the rest. -/
def Parts (n : Nat) (X : Nat → Int) (y : Int) (p : Nat) : Prop := p ≤ n ∧ (∀ j, j < p → X j < y) ∧ (∀ j, p ≤ j → j < n → y ≤ X j)
def PartsAt (n : Nat) (X : Nat → Int) (y : Int) (e : Ending) : Prop := ∃ (p : Nat) (r : Bool), e = .returned (.tuple #[.int .i64 p, .bool r]) ∧ Parts n X y p

set_option maxRecDepth 100000 in
set_option maxHeartbeats 1000000 in
/-- slices.BinarySearchFunc over ascending changes. -/
theorem searchC_any (ao : Option Addr) (g n ca : Nat) (X : Nat → Int) (S : Nat → Nat → Value) (y : Int) (w : World) (hn : n ≤ 4000000) (ha : n ≠ 0 → ao = some ⟨g, 0, none⟩) (hR : n ≠ 0 → RowC w g n X S) (hs : ∀ i j, i < j → j < n → X i ≤ X j) :
    Calls Tryf.prog 65 #[.slice ao n ca, .int .u64 y, .func (.func 66) #[] #[]] w fun e w' => PartsAt n X y e ∧ Below w.heap.size w w' := by
  have HS : Hid (∀ i j, i < j → j < n → X i ≤ X j) := hs
  clear hs
  go_enter Tryf.func65, Tryf.ntmps65
  go_wp2_with fail
  go_loopw [9, 10] (fun l h wr => ∃ lo hi : Nat, lo ≤ hi ∧ hi ≤ n ∧ l = .int .i64 lo ∧ h = .int .i64 hi ∧ (∀ j, j < lo → X j < y) ∧ (∀ j, hi ≤ j → j < n → y ≤ X j) ∧ Below w.heap.size w wr) (fun l h _ => (intOf h - intOf l).toNat)
  case atStart => exact ⟨0, n, by omega, by omega, rfl, rfl, fun j h => by omega, fun j h1 h2 => by omega, Below.refl _ w⟩
  case round =>
    obtain ⟨lo, hi, hlh, hhn, rfl, rfl, h1, h2, hb⟩ := hrel
    have H1 : Hid (∀ j, j < lo → X j < y) := h1
    have H2 : Hid (∀ j, hi ≤ j → j < n → y ≤ X j) := h2
    have HB : Hid (Below w.heap.size w wr) := hb
    clear h1 h2
    by_cases hlt : lo < hi
    · obtain rfl := ha (by omega)
      obtain ⟨mid, em⟩ : ∃ mid : Nat, ((lo : Int) + (hi : Int)) / 2 = (mid : Int) := ⟨(lo + hi) / 2, by omega⟩
      have hm1 : lo ≤ mid := by omega
      have hm2 : mid < hi := by omega
      have hc := ((hR (by omega)).below hb).2 mid (by omega)
      have c0 := hc.1
      have c1 := hc.2 0 (by omega)
      have c2 := hc.2 1 (by omega)
      have c3 := hc.2 2 (by omega)
      have c4 := hc.2 3 (by omega)
      have c5 := hc.2 4 (by omega)
      have hf := after1_any (X mid) y (S mid 0) (S mid 1) (S mid 2) (S mid 3) (S mid 4) wr
      clear hb hc
      by_cases hq : X mid < y
      · have HQ : Hid (X mid < y) := hq
        rw [if_pos hq] at hf
        clear hq
        go_wp2_with fail
        refine hf.mono ?_
        clear hf
        rintro e w' ⟨rfl, rfl⟩
        go_wp2_with fail
        go_roundw
        case rel =>
          refine ⟨mid + 1, hi, by omega, hhn, by go_num, rfl, fun j hj => ?_, H2.out, HB.out.alloc HB.out.size _⟩
          by_cases e : j = mid
          · subst e; exact HQ.out
          · have := HS.out j mid (by omega) (by omega); have := HQ.out; omega
        case measure => simp [intOf]; omega
      · have HQ : Hid (y ≤ X mid) := by show y ≤ X mid; omega
        rw [if_neg hq] at hf
        have hr : ∃ r : Int, 0 ≤ r ∧ (if y < X mid then (1 : Int) else 0) = r := ⟨_, by split <;> omega, rfl⟩
        obtain ⟨r, hr0, hre⟩ := hr
        rw [hre] at hf
        have hd : decide (r < 0) = false := by simp; omega
        clear hq hre
        go_wp2_with fail
        refine hf.mono ?_
        clear hf
        rintro e w' ⟨rfl, rfl⟩
        go_wp2_with fail
        go_roundw
        case rel =>
          refine ⟨lo, mid, by omega, by omega, rfl, rfl, H1.out, fun j hj hjn => ?_, HB.out.alloc HB.out.size _⟩
          by_cases e : j = mid
          · subst e; exact HQ.out
          · have := HS.out mid j (by omega) (by omega); have := HQ.out; omega
        case measure => simp [intOf]; omega
    · obtain rfl : lo = hi := by omega
      have HP : Hid (Parts n X y lo) := ⟨by omega, H1.out, fun j h1 h2 => H2.out j (by omega) h2⟩
      by_cases hln : lo < n
      · obtain rfl := ha (by omega)
        have hc := ((hR (by omega)).below hb).2 lo hln
        have c0 := hc.1
        have c1 := hc.2 0 (by omega)
        have c2 := hc.2 1 (by omega)
        have c3 := hc.2 2 (by omega)
        have c4 := hc.2 3 (by omega)
        have c5 := hc.2 4 (by omega)
        have hf := after1_any (X lo) y (S lo 0) (S lo 1) (S lo 2) (S lo 3) (S lo 4) wr
        generalize (if X lo < y then (-1 : Int) else if y < X lo then 1 else 0) = r at hf
        have hd0 : decide ((lo : Int) < (lo : Int)) = false := by simp
        clear hb hc
        go_wp2_with fail
        refine hf.mono ?_
        clear hf
        rintro e w' ⟨rfl, rfl⟩
        go_wp2_with fail
        go_ret2
        exact ⟨⟨lo, _, rfl, HP.out⟩, HB.out.alloc HB.out.size _⟩
      · have hd : decide ((lo : Int) < (n : Int)) = false := by simp; omega
        have hd0 : decide ((lo : Int) < (lo : Int)) = false := by simp
        clear hb
        go_wp2_with fail
        go_ret2
        exact ⟨⟨lo, _, rfl, HP.out⟩, HB.out⟩

/-- configHistory.after. -/
theorem after_any (hb : Nat) (ao : Option Addr) (g n ca : Nat) (X : Nat → Int) (S : Nat → Nat → Value) (x y : Int) (hy : IntKind.u64.wrap (x + 1) = y) (w : World) (hn : n ≤ 4000000) (hc : w.cell? ⟨hb, 5, none⟩ = some (.slice ao n ca)) (ha : n ≠ 0 → ao = some ⟨g, 0, none⟩) (hR : n ≠ 0 → RowC w g n X S) (hs : ∀ i j, i < j → j < n → X i ≤ X j) :
    Calls Tryf.prog 58 #[.pointer (some ⟨hb, 0, none⟩), .int .u64 x] w fun e w' => (∃ p : Nat, e = .returned (.int .i64 p) ∧ Parts n X y p) ∧ Below w.heap.size w w' := by
  have hsr := searchC_any ao g n ca X S y w hn ha hR hs
  clear ha hR hs
  go_enter Tryf.func58, Tryf.ntmps58
  go_wp2_with fail
  refine hsr.mono ?_
  clear hsr
  rintro e w' ⟨⟨p, r, rfl, hp⟩, hb⟩
  have H : Hid (Parts n X y p ∧ Below w.heap.size w w') := ⟨hp, hb⟩
  clear hp hb
  go_wp2_with fail
  go_ret
  exact ⟨⟨p, rfl, H.out.1⟩, H.out.2⟩
end Go.Proofs.Qxb6615150aFmt
