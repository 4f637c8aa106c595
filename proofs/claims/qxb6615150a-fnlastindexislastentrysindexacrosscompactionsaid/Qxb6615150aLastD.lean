import Derived.Test.Qxb6615150aLastC
namespace Go.Proofs.Qxb6615150a
open Go.RowKit

theorem wrap_step (x0 : Int) (m : Nat) : IntKind.u64.wrap (x0 + ((m : Int) + 1)) = IntKind.u64.wrap (IntKind.u64.wrap (x0 + 1) + (m : Int)) := by
  simp only [IntKind.wrap_u64]; omega
theorem wrap_rest (x0 : Int) (q m : Nat) (h : q ≤ m) : IntKind.u64.wrap (IntKind.u64.wrap (IntKind.u64.wrap (x0 + 1) + (q : Int)) + ((m - q : Nat) : Int)) = IntKind.u64.wrap (IntKind.u64.wrap (x0 + 1) + (m : Int)) := by
  simp only [IntKind.wrap_u64]; omega
theorem wrap_zero (x0 : Int) (h0 : 0 ≤ x0) (h1 : x0 ≤ 18446744073709551615) : IntKind.u64.wrap x0 = x0 := by
  simp only [IntKind.wrap_u64]; omega

set_option maxHeartbeats 1000000 in
theorem law_walk (x0 x1 x3 x4 : Int) (ao : Option Addr) (b off n cap : Nat) (I T K Q S : Nat → Int) (A : Nat → Option Addr) (L C : Nat → Nat) (w : World)
    (hx0 : 0 ≤ x0) (hx0' : x0 ≤ 18446744073709551615) (hn : n ≤ maxLen) (hA : n ≠ 0 → ao = some ⟨b, off, none⟩) (hb : n ≠ 0 → b < w.heap.size) (hE : Ents w b off n I T K Q S A L C) :
    Calls Try.prog 3 #[.int .u64 x0, .int .u64 x1, .slice ao n cap, .int .u64 x3, .int .i64 x4] w fun e w' => e = .returned (.bool true) ∧ Below w.heap.size w w' := by
  have hn' := hn
  unfold maxLen at hn'
  have HX : Hid (0 ≤ x0 ∧ x0 ≤ 18446744073709551615) := ⟨hx0, hx0'⟩
  clear hx0 hx0'
  go_enter Try.func3, Try.ntmps3
  go_wp2_with fail
  refine (bytes_any x0 x1 x3 x4 ao b off n cap I T K Q S A L C w hn hA hE).mono ?_
  rintro e w' ⟨⟨r, rfl⟩, rfl⟩
  cases r
  · go_wp2_with fail
    go_ret
    exact ⟨rfl, Below.refl _ _⟩
  go_wp2_with fail
  refine (weigh_any 0 ao b off n cap I T K Q S A L C _ (by omega) (by omega) hn hA hE).mono ?_
  rintro e w' ⟨⟨t, rfl, ht⟩, rfl⟩
  by_cases ht1 : t ≤ 1048576
  · have hn2 : n ≤ 30000 := by have := ht ht1; omega
    clear ht
    by_cases hk0 : x4 < 0
    · go_wp2_with fail
      go_ret
      exact ⟨rfl, Below.refl _ _⟩
    by_cases hk1 : (n : Int) < x4
    · go_wp2_with fail
      go_ret
      exact ⟨rfl, Below.refl _ _⟩
    by_cases hst : x3 < x0
    · go_wp2_with fail
      go_ret
      exact ⟨rfl, Below.refl _ _⟩
    go_wp2_with fail
    go_loop [11] (fun i => ∃ k : Nat, k ≤ n ∧ i = .int .i64 k ∧ ∀ j, j < k → I j = IntKind.u64.wrap (IntKind.u64.wrap (x0 + 1) + (j : Int))) (fun i => n - (intOf i).toNat)
    case atStart => exact ⟨0, Nat.zero_le _, rfl, fun j hj => by omega⟩
    case round =>
      obtain ⟨k, hk, rfl, hI⟩ := hrel
      by_cases hlt : k < n
      · obtain rfl := hA (by omega)
        have e0 := hE.c0 k hlt
        have HI : Hid (∀ j, j < k → I j = IntKind.u64.wrap (IntKind.u64.wrap (x0 + 1) + (j : Int))) := hI
        clear hI
        go_wp2_with fail
        · go_ret
          exact ⟨rfl, Below.refl _ _⟩
        · have hq : I k = IntKind.u64.wrap (IntKind.u64.wrap (x0 + 1) + (k : Int)) := by simpa using ‹(I k != IntKind.u64.wrap (IntKind.u64.wrap (x0 + 1) + (k : Int))) = false›
          have HQ : Hid (I k = IntKind.u64.wrap (IntKind.u64.wrap (x0 + 1) + (k : Int))) := hq
          clear hq
          go_round
          case rel =>
            refine ⟨k + 1, by omega, by go_num, fun j hj => ?_⟩
            by_cases hjk : j = k
            · subst hjk; exact HQ.out
            · exact HI.out j (by omega)
          case measure => simp [intOf]; omega
      · obtain rfl : k = n := by omega
        have HI : Hid (∀ j, j < k → I j = IntKind.u64.wrap (IntKind.u64.wrap (x0 + 1) + (j : Int))) := hI
        clear hI
        rcases Nat.eq_zero_or_pos k with h0 | hpos
        · subst h0
          obtain rfl : x4 = 0 := by omega
          go_wp2_with fail
          refine (toEntries_any ao b off 0 cap I T K Q S A L C _ hn2 hA hb hE).mono ?_
          rintro e w1 ⟨rfl, hb1, hrow⟩
          go_wp2_with fail
          refine (newLog_any _ _ _ _ _ _ _).mono ?_
          rintro e w2 ⟨rfl, rfl⟩
          have hz := hb1.size
          go_wp2_with fail
          refine (newLog_any _ _ _ _ _ _ _).mono ?_
          rintro e w2 ⟨rfl, rfl⟩
          go_wp2_with fail
          refine (zzLast_any x0 w1.heap.size (some ⟨w'.heap.size, 0, none⟩) 0 0 _ (by omega) (by simp) (by simp)).mono ?_
          rintro e w2 ⟨rfl, m, rfl⟩
          have hg0 : (IntKind.u64.wrap x0 == x0) = true := by simpa using wrap_zero x0 HX.out.1 HX.out.2
          go_wp2_with fail
          refine (zzLast_any x0 (w1.heap.size + 1) (some ⟨w'.heap.size, 0, none⟩) 0 0 _ (by omega) (by simp) (by simp)).mono ?_
          rintro e w2 ⟨rfl, m2, rfl⟩
          go_wp2_with fail
          go_ret
          exact ⟨rfl, below_drewN ((hb1.alloc hz _).alloc (by simp; omega) _) _⟩
        · obtain ⟨m, rfl⟩ : ∃ m, k = m + 1 := ⟨k - 1, by omega⟩
          obtain rfl := hA (by omega)
          have e0 := hE.c0 m (by omega)
          have HM : Hid (I m = IntKind.u64.wrap (IntKind.u64.wrap (x0 + 1) + (m : Int))) := HI.out m (by omega)
          by_cases hx4 : x4 = 0
          · subst hx4
            go_wp2_with fail
            refine (toEntries_any _ b off (m + 1) cap I T K Q S A L C _ hn2 (fun _ => rfl) hb hE).mono ?_
            rintro e w1 ⟨rfl, hb1, hrow⟩
            go_wp2_with fail
            refine (newLog_any _ _ _ _ _ _ _).mono ?_
            rintro e w2 ⟨rfl, rfl⟩
            have hz := hb1.size
            go_wp2_with fail
            refine (newLog_any _ _ _ _ _ _ _).mono ?_
            rintro e w2 ⟨rfl, rfl⟩
            go_wp2_with fail
            refine (zzLast_any x0 w1.heap.size (some ⟨w'.heap.size, 0, none⟩) (m + 1) (m + 1) _ (by omega) (by simp) (by simp)).mono ?_
            rintro e w2 ⟨rfl, m1, rfl⟩
            have hg0 : (IntKind.u64.wrap (x0 + ((m : Int) + 1)) == I m) = true := by rw [HM.out, wrap_step]; simp
            go_wp2_with fail
            refine (zzLast_any x0 (w1.heap.size + 1) (some ⟨w'.heap.size, 0, none⟩) (m + 1) (m + 1) _ (by omega) (by simp) (by simp)).mono ?_
            rintro e w2 ⟨rfl, m2, rfl⟩
            go_wp2_with fail
            go_ret
            exact ⟨rfl, below_drewN ((hb1.alloc hz _).alloc (by simp; omega) _) _⟩
          · obtain ⟨q, rfl⟩ : ∃ q : Nat, x4 = (q : Int) + 1 := ⟨(x4 - 1).toNat, by omega⟩
            have hq : q ≤ m := by omega
            have e1 := hE.c0 q (by omega)
            have e2 := hE.c1 q (by omega)
            have HQ : Hid (I q = IntKind.u64.wrap (IntKind.u64.wrap (x0 + 1) + (q : Int))) := HI.out q (by omega)
            go_wp2_with fail
            refine (toEntries_any _ b off (m + 1) cap I T K Q S A L C _ hn2 (fun _ => rfl) hb hE).mono ?_
            rintro e w1 ⟨rfl, hb1, hrow⟩
            go_wp2_with fail
            refine (newLog_any _ _ _ _ _ _ _).mono ?_
            rintro e w2 ⟨rfl, rfl⟩
            have hz := hb1.size
            have e1' := (hb1.cell (p := ⟨b, off + q * 6, none⟩) (hb (by omega))).trans e1
            have e2' := (hb1.cell (p := ⟨b, off + q * 6 + 1, none⟩) (hb (by omega))).trans e2
            have hbl : b < w1.heap.size := by have := hb (by omega); omega
            have hgm : (IntKind.u64.wrap (x0 + ((m : Int) + 1)) == I m) = true := by rw [HM.out, wrap_step]; simp
            by_cases hqm : q = m
            · subst hqm
              have hgq : (IntKind.u64.wrap (I q) == I q) = true := by
                have := HQ.out
                rw [this]; simp only [IntKind.wrap_u64]; simp
              by_cases hsn : x3 < I q
              all_goals
                go_wp2_with fail
                refine (newLog_any _ _ _ _ _ _ _).mono ?_
                rintro e w2 ⟨rfl, rfl⟩
                go_wp2_with fail
                refine (zzLast_any x0 w1.heap.size (some ⟨w'.heap.size, 0, none⟩) (q + 1) (q + 1) _ (by omega) (by simp) (by simp)).mono ?_
                rintro e w2 ⟨rfl, m1, rfl⟩
                go_wp2_with fail
                refine (zzLast_any (I q) (w1.heap.size + 1) (some ⟨w'.heap.size, 0, none⟩) 0 0 _ (by omega) (by simp) (by simp)).mono ?_
                rintro e w2 ⟨rfl, m2, rfl⟩
                go_wp2_with fail
                go_ret
                exact ⟨rfl, below_drewN ((hb1.alloc hz _).alloc (by simp; omega) _) _⟩
            · have hgq : (IntKind.u64.wrap (I q + ((m - q : Nat) : Int)) == I m) = true := by rw [HM.out, HQ.out, wrap_rest x0 q m hq]; simp
              by_cases hsn : x3 < I q
              all_goals
                go_wp2_with fail
                refine (newLog_any _ _ _ _ _ _ _).mono ?_
                rintro e w2 ⟨rfl, rfl⟩
                go_wp2_with fail
                refine (zzLast_any x0 w1.heap.size (some ⟨w'.heap.size, 0, none⟩) (m + 1) (m + 1) _ (by omega) (by simp) (by simp)).mono ?_
                rintro e w2 ⟨rfl, m1, rfl⟩
                go_wp2_with fail
                refine (zzLast_any (I q) (w1.heap.size + 1) (some ⟨w'.heap.size, (q + 1) * 6, none⟩) (m - q) (m - q) _ (by omega) (by simp) (by simp)).mono ?_
                rintro e w2 ⟨rfl, m2, rfl⟩
                go_wp2_with fail
                go_ret
                exact ⟨rfl, below_drewN ((hb1.alloc hz _).alloc (by simp; omega) _) _⟩
  · go_wp2_with fail
    go_ret
    exact ⟨rfl, Below.refl _ _⟩
end Go.Proofs.Qxb6615150a
