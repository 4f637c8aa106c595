import Derived.Test.Qxb6615150aFmtTakeQ
namespace Go.Proofs.Qxb6615150aFmt
open Go.RowKit Go.Lib

set_option maxRecDepth 100000 in
set_option maxHeartbeats 4000000 in
theorem law6_walk (x : Int) (ao : Option Addr) (b off n cap : Nat) (I T K Q S : Nat → Int) (A : Nat → Option Addr) (L C : Nat → Nat) (D : Nat → List UInt8) (w : World)
    (hn : n ≤ maxLen) (hA : n ≠ 0 → ao = some ⟨b, off, none⟩) (hb : n ≠ 0 → b < w.heap.size) (hE : Ents w b off n I T K Q S A L C) (hlen : ∀ i, i < n → L i ≤ maxLen) (hI : ∀ i, i < n → 0 ≤ I i ∧ I i ≤ 18446744073709551615) (hD : ∀ i, i < n → InB w (.slice (A i) (L i) (C i)) (D i)) :
    Calls Tryf.prog 6 #[.slice ao n cap, .int .i64 x] w fun e w' => e = .returned (.bool true) ∧ Below w.heap.size w w' := by
  have hby := bytes28_any x ao b off n cap I T K Q S A L C w hn hA hE hlen
  have hwe := weigh_any 0 ao b off n cap I T K Q S A L C w (by omega) (by omega) hn hA hE hlen
  have HI : Hid (∀ i, i < n → 0 ≤ I i ∧ I i ≤ 18446744073709551615) := hI
  have HD : Hid (∀ i, i < n → InB w (.slice (A i) (L i) (C i)) (D i)) := hD
  have HE : Hid (Ents w b off n I T K Q S A L C) := hE
  have HA : Hid ((n ≠ 0 → ao = some ⟨b, off, none⟩) ∧ (n ≠ 0 → b < w.heap.size)) := ⟨hA, hb⟩
  unfold maxLen at hn
  clear hI hD hE hlen hA hb
  go_enter Tryf.func6, Tryf.ntmps6
  go_wp2_with fail
  refine hby.mono ?_
  clear hby
  rintro e w' ⟨⟨r, rfl⟩, rfl⟩
  cases r with
  | false =>
    go_wp2_with fail
    go_ret
    exact ⟨rfl, Below.refl _ _⟩
  | true =>
    go_wp2_with fail
    refine hwe.mono ?_
    clear hwe
    rintro e w2 ⟨⟨t, rfl, ht⟩, rfl⟩
    by_cases htb : 1048576 < t
    · have hd : decide ((1048576 : Int) < t) = true := by simpa using htb
      clear ht
      go_wp2_with fail
      go_ret
      exact ⟨rfl, Below.refl _ _⟩
    · have hd : decide ((1048576 : Int) < t) = false := by simpa using htb
      obtain ⟨ht1, ht2⟩ := ht (by omega)
      have hn3 : n ≤ 30000 := by omega
      have HLE : Hid (∀ i, i < n → L i ≤ 1048576) := ht2
      clear ht ht2 htb
      by_cases hx0 : x < 0
      · have hd1 : decide (x < 0) = true := by simpa using hx0
        go_wp2_with fail
        go_ret
        exact ⟨rfl, Below.refl _ _⟩
      · have hd1 : decide (x < 0) = false := by simpa using hx0
        obtain ⟨k, rfl⟩ := Int.eq_ofNat_of_zero_le (show 0 ≤ x by omega)
        by_cases hxn : n < k
        · have hd2 : decide ((n : Int) < (k : Int)) = true := by simp; omega
          go_wp2_with fail
          go_ret
          exact ⟨rfl, Below.refl _ _⟩
        · have hd2 : decide ((n : Int) < (k : Int)) = false := by simp; omega
          go_wp2_with fail
          clear hd hd1 hd2 hx0
          go_loopw [5] (fun vi wr => ∃ j : Nat, 1 ≤ j ∧ j ≤ n + 1 ∧ vi = .int .i64 j ∧ (∀ i, 1 ≤ i → i < j → i < n → I (i - 1) < I i) ∧ ∃ q, wr = w2.drewN q) (fun vi _ => n + 1 - (intOf vi).toNat)
          case atStart => exact ⟨1, by omega, by omega, rfl, fun i h1 h2 => by omega, 0, rfl⟩
          case round =>
            obtain ⟨j, hj1, hj2, rfl, hs, q, rfl⟩ := hrel
            have HSA : Hid (∀ i, 1 ≤ i → i < j → i < n → I (i - 1) < I i) := hs
            clear hs
            by_cases hjn : j < n
            · obtain rfl := HA.out.1 (by omega)
              obtain ⟨p, rfl⟩ : ∃ p, j = p + 1 := ⟨j - 1, by omega⟩
              have c1 := HE.out.c0 (p + 1) hjn
              have c2 := HE.out.c0 p (by omega)
              have i1 : (p : Int) + 1 < (n : Int) := by omega
              have i2 : (p : Int) < (n : Int) := by omega
              go_wp2_with fail
              go_quiet (fail)
              go_wp2_with fail
              · go_ret
                exact ⟨rfl, below_drewN (below_drewN (Below.refl _ _) _) _⟩
              · have hq : I p < I (p + 1) := by assumption
                have HQ : Hid (I p < I (p + 1)) := hq
                go_roundw
                case rel =>
                  refine ⟨p + 1 + 1, by omega, by omega, by go_num, fun i h1 h2 h3 => ?_, _, rfl⟩
                  by_cases e : i = p + 1
                  · subst e; exact HQ.out
                  · exact HSA.out i h1 (by omega) h3
                case measure => simp [intOf]; omega
            · have hd : decide ((j : Int) < (n : Int)) = false := by simp; omega
              have HST : Hid (∀ i j, i < j → j < n → I i < I j) := by
                intro i j hij hj
                have hstep : ∀ d, i + d + 1 < n → I i < I (i + d + 1) := by
                  intro d
                  induction d with
                  | zero => intro h; exact HSA.out (i + 1) (by omega) (by omega) (by omega)
                  | succ d ih =>
                    intro h
                    have h1 := ih (by omega)
                    have h2 := HSA.out (i + (d + 1) + 1) (by omega) (by omega) (by omega)
                    rw [show i + (d + 1) + 1 - 1 = i + d + 1 by omega] at h2
                    omega
                have := hstep (j - i - 1) (by omega)
                rw [show i + (j - i - 1) + 1 = j by omega] at this
                exact this
              have hB2 : Below w2.heap.size w2 (w2.drewN q) := below_drewN (Below.refl _ _) q
              have hte := toEntries_any ao b off n cap I T K Q S A L C (w2.drewN q) hn3 HA.out.1 HA.out.2 (HE.out.later HA.out.2 hB2)
              go_wp2_with fail
              refine hte.mono ?_
              clear hte
              rintro e w3 ⟨rfl, hB3, hrow⟩
              have hB3' : Below w2.heap.size w2 w3 := hB2.trans hB3
              have hE3 : Ents w3 w2.heap.size 0 n I T K Q S A L C := Ents.of_row hrow
              have hlt3 : w2.heap.size < w3.heap.size := World.rowIs.lt hrow
              have HB3 : Hid (Below w2.heap.size w2 w3) := hB3'
              have HE3 : Hid (Ents w3 w2.heap.size 0 n I T K Q S A L C) := hE3
              clear hB2 hB3 hrow hB3' hE3
              -- one
              go_wp2_with fail
              refine (newHist_any w3).mono ?_
              rintro e w4 ⟨rfl, hH4, hB4, hs4⟩
              have hDD : ∀ i, i < n → InB w2 (.slice (A i) (L i) (C i)) (D i) ∧ (D i).length ≤ 1048576 := fun i hi => ⟨HD.out i hi, by
                obtain ⟨_, _, e, _⟩ := HD.out i hi
                simp at e
                have := HLE.out i hi
                omega⟩
              have ht1 := zzTakeIn_of (takeIn_any w2 w3.heap.size _ _ [] (some ⟨w2.heap.size, 0, none⟩) w2.heap.size 0 n n I T K Q S A L C D w4 hn3 (by simp; omega) (fun _ => rfl) (fun _ => hlt3) (HE3.out.later (fun _ => hlt3) hB4) (HB3.out.trans (hB4.mono HB3.out.size)) HB3.out.size hDD HI.out hH4 (fun i j _ h => by simp at h)) (fun e w' h => h.1)
              have HB4 : Hid (Below w3.heap.size w3 w4) := hB4
              clear hH4 hB4
              go_wp2_with fail
              refine ht1.mono ?_
              clear ht1
              rintro e w5 ⟨rfl, ⟨g1, v1, cs1, hH5, hk0, hk1⟩, hB5⟩
              have hkey1 : cs1.map key = el I K D n := by
                by_cases h0 : n = 0
                · rw [hk0 h0, h0]; rfl
                · obtain ⟨p, _, hp⟩ := hk1 h0
                  simpa using hp
              have hB5' : Below w3.heap.size w3 w5 := HB4.out.trans hB5
              have H5 : Hid (HS w5 w3.heap.size g1 v1 cs1 ∧ cs1.map key = el I K D n ∧ Below w3.heap.size w3 w5) := ⟨hH5, hkey1, hB5'⟩
              clear hk0 hk1 hB5 HB4 hB5' hH5 hkey1
              -- two
              go_wp2_with fail
              refine (newHist_any w5).mono ?_
              rintro e w6 ⟨rfl, hH6, hB6, hs6⟩
              have hs35 := H5.out.2.2.size
              have hlt5 : w2.heap.size < w5.heap.size := by omega
              have hE5 : Ents w5 w2.heap.size 0 n I T K Q S A L C := HE3.out.later (fun _ => hlt3) H5.out.2.2
              have hB25 : Below w2.heap.size w2 w5 := HB3.out.trans (H5.out.2.2.mono HB3.out.size)
              have hE6 := (hE5.later (fun _ => hlt5) hB6).from 0 k (by omega)
              simp only [Nat.zero_add, Nat.zero_mul] at hE6
              have ht2 := zzTakeIn_of (takeIn_any w2 w5.heap.size _ _ [] (some ⟨w2.heap.size, 0, none⟩) w2.heap.size 0 k n I T K Q S A L C D w6 (by omega) (by simp; omega) (fun _ => rfl) (fun _ => hlt5) hE6 (hB25.trans (hB6.mono hB25.size)) hB25.size (fun i hi => hDD i (by omega)) (fun i hi => HI.out i (by omega)) hH6 (fun i j _ h => by simp at h)) (fun e w' h => h.1)
              have H6 : Hid (Below w5.heap.size w5 w6 ∧ Ents w5 w2.heap.size 0 n I T K Q S A L C ∧ Below w2.heap.size w2 w5) := ⟨hB6, hE5, hB25⟩
              clear hH6 hB6 hE5 hB25 hE6
              go_wp2_with fail
              refine ht2.mono ?_
              clear ht2
              rintro e w7 ⟨rfl, ⟨g2, v2, cs2, hH7, hk0, hk1⟩, hB7⟩
              have hkey2 : cs2.map key = el I K D k := by
                by_cases h0 : k = 0
                · rw [hk0 h0, h0]; rfl
                · obtain ⟨p, _, hp⟩ := hk1 h0
                  simpa using hp
              have hB7' : Below w5.heap.size w5 w7 := H6.out.1.trans hB7
              have hs57 := hB7'.size
              have hE7 := (H6.out.2.1.later (fun _ => hlt5) hB7').from k (n - k) (by omega)
              have hB27 : Below w2.heap.size w2 w7 := H6.out.2.2.trans (hB7'.mono H6.out.2.2.size)
              have hasc2 := ix_asc hkey2 (el_sorted (K := K) (D := D) (fun i j h1 h2 => HST.out i j h1 (by omega)))
              have hl2 : cs2.length ≤ k := by
                have := congrArg List.length hkey2
                have h2 := el_length I K D k
                simp at this; omega
              obtain ⟨ao3, off3, cap3, hao3⟩ : ∃ (ao3 : Option Addr) (off3 cap3 : Nat), ((k = n ∧ ao3 = some ⟨w2.heap.size, 0, none⟩ ∧ cap3 = 0) ∨ (k ≠ n ∧ ao3 = some ⟨w2.heap.size, k * 6, none⟩ ∧ cap3 = n - k)) := by
                by_cases e : k = n
                · exact ⟨_, 0, _, .inl ⟨e, rfl, rfl⟩⟩
                · exact ⟨_, 0, _, .inr ⟨e, rfl, rfl⟩⟩
              have ht3 := zzTakeIn_of (takeIn_any w2 w5.heap.size g2 v2 cs2 ao3 w2.heap.size (0 + k * 6) (n - k) cap3 (fun i => I (k + i)) (fun i => T (k + i)) (fun i => K (k + i)) (fun i => Q (k + i)) (fun i => S (k + i)) (fun i => A (k + i)) (fun i => L (k + i)) (fun i => C (k + i)) (fun i => D (k + i)) w7 (by omega) (by omega) (fun h => by rcases hao3 with ⟨e, _⟩ | ⟨_, e, _⟩; omega; rw [e, Nat.zero_add]) (fun _ => hlt5) hE7 hB27 H6.out.2.2.size (fun i hi => hDD (k + i) (by omega)) (fun i hi => HI.out (k + i) (by omega)) hH7 hasc2) (fun e w' h => h.1)
              have H7 : Hid (cs2.map key = el I K D k ∧ Below w5.heap.size w5 w7) := ⟨hkey2, hB7'⟩
              clear hk0 hk1 hE7 hB27 hasc2 hH7 hB7 hB7' hkey2 hDD
              go_upto_region 17 with fail
              go_cut [] from 58 to 62 (fun wc => ∃ g3 v3 cs3, HS wc w5.heap.size g3 v3 cs3 ∧ cs3.map key = el I K D n ∧ Below w5.heap.size w5 wc)
              case first =>
                have fin : ∀ w8 m, m = n - k → (∃ g' v' cs', HS w8 w5.heap.size g' v' cs' ∧ (m = 0 → cs'.map key = cs2.map key) ∧ (m ≠ 0 → ∃ p, Parts cs2.length (ix cs2) (I (k + 0)) p ∧ cs'.map key = (cs2.take p).map key ++ el (fun i => I (k + i)) (fun i => K (k + i)) (fun i => D (k + i)) m)) → Below w5.heap.size w7 w8 → ∃ g3 v3 cs3, HS w8 w5.heap.size g3 v3 cs3 ∧ cs3.map key = el I K D n ∧ Below w5.heap.size w5 w8 := by
                  rintro w8 m rfl ⟨g', v', cs', hH, h0, h1⟩ hB
                  refine ⟨g', v', cs', hH, ?_, H7.out.2.trans hB⟩
                  by_cases e : k = n
                  · rw [h0 (by omega), H7.out.1, e]
                  · exact two_pieces (by omega) HST.out H7.out.1 (h1 (by omega))
                have HF : Hid (∀ w8 m, m = n - k → (∃ g' v' cs', HS w8 w5.heap.size g' v' cs' ∧ (m = 0 → cs'.map key = cs2.map key) ∧ (m ≠ 0 → ∃ p, Parts cs2.length (ix cs2) (I (k + 0)) p ∧ cs'.map key = (cs2.take p).map key ++ el (fun i => I (k + i)) (fun i => K (k + i)) (fun i => D (k + i)) m)) → Below w5.heap.size w7 w8 → ∃ g3 v3 cs3, HS w8 w5.heap.size g3 v3 cs3 ∧ cs3.map key = el I K D n ∧ Below w5.heap.size w5 w8) := fin
                clear fin
                rcases hao3 with ⟨hkn, rfl, rfl⟩ | ⟨hkn, rfl, rfl⟩
                · have hd9 : n - k = 0 := by omega
                  rw [hd9] at ht3
                  have HD9 : Hid (0 = n - k) := hd9.symm
                  clear hkn
                  go_wp2_with fail
                  refine ht3.mono ?_
                  rintro e w8 ⟨rfl, h8, hB8⟩
                  have H8 : Hid (∃ g3 v3 cs3, HS w8 w5.heap.size g3 v3 cs3 ∧ cs3.map key = el I K D n ∧ Below w5.heap.size w5 w8) := HF.out w8 0 HD9.out (by obtain ⟨a1, a2, a3, q1, q2, q3⟩ := h8; exact ⟨a1, a2, a3, q1, fun _ => q2 (by trivial), q3⟩) hB8
                  clear h8 hB8 ht3
                  go_wp2_with fail
                  go_meet
                  case rel => exact H8.out
                · go_wp2_with fail
                  refine ht3.mono ?_
                  rintro e w8 ⟨rfl, h8, hB8⟩
                  have H8 : Hid (∃ g3 v3 cs3, HS w8 w5.heap.size g3 v3 cs3 ∧ cs3.map key = el I K D n ∧ Below w5.heap.size w5 w8) := HF.out w8 (n - k) rfl h8 hB8
                  clear h8 hB8 ht3
                  go_wp2_with fail
                  go_meet
                  case rel => exact H8.out
              case rest =>
                clear ht3 hao3 H7 hl2
                obtain ⟨g3, v3, cs3, hH3, hk3, hB9⟩ := hcut
                have hH1 : HS wc w3.heap.size g1 v1 cs1 := H5.out.1.below hB9
                have hc1 := count_any _ _ _ _ wc hH1
                have hc2 := count_any _ _ _ _ wc hH3
                have hl1 : cs1.length = (el I K D n).length := by rw [← H5.out.2.1]; simp
                have hl3 : cs3.length = (el I K D n).length := by rw [← hk3]; simp
                have hEc : Ents wc w2.heap.size 0 n I T K Q S A L C := H6.out.2.1.later (fun _ => hlt5) hB9
                have HC : Hid (HS wc w3.heap.size g1 v1 cs1 ∧ HS wc w5.heap.size g3 v3 cs3 ∧ cs1.map key = el I K D n ∧ cs3.map key = el I K D n ∧ Below w2.heap.size w2 wc ∧ Ents wc w2.heap.size 0 n I T K Q S A L C) := ⟨hH1, hH3, H5.out.2.1, hk3, H6.out.2.2.trans (hB9.mono H6.out.2.2.size), hEc⟩
                rw [hl1] at hc1
                rw [hl3] at hc2
                have hll := el_length I K D n
                obtain ⟨m, hm⟩ : ∃ m, m = (el I K D n).length := ⟨_, rfl⟩
                rw [← hm] at hc1 hc2 hl1 hl3 hll
                have HM : Hid (m = (el I K D n).length) := hm
                clear hH1 hH3 hk3 hB9 hEc H5 H6 hm
                go_wp2_with fail
                refine hc1.mono ?_
                rintro e w9 ⟨rfl, rfl⟩
                go_wp2_with fail
                refine hc2.mono ?_
                rintro e w9 ⟨rfl, rfl⟩
                have hne : ((m : Int) != (m : Int)) = false := by simp
                go_wp2_with fail
                clear hc1 hc2 hne
                go_loopw [10, 11] (fun vj vi wr => ∃ i : Nat, i ≤ n ∧ vi = .int .i64 i ∧ vj = .int .i64 ((el I K D i).length : Nat) ∧ Below w9.heap.size w9 wr) (fun _ vi _ => n - (intOf vi).toNat)
                case atStart => exact ⟨0, by omega, rfl, rfl, Below.refl _ _⟩
                case round =>
                  obtain ⟨i, hi, rfl, rfl, hBr⟩ := hrel
                  obtain ⟨hH1, hH3, hk1, hk3, hB2c, hEc⟩ := HC.out
                  have hH1r := hH1.below hBr
                  have hH3r := hH3.below hBr
                  have hEr := hEc.later (fun _ => (show w2.heap.size < w9.heap.size by have := hB2c.size; have := hH1.rh.lt; omega)) hBr
                  have HBR : Hid (Below w2.heap.size w2 wr) := hB2c.trans (hBr.mono hB2c.size)
                  have HBr : Hid (Below w9.heap.size w9 wr) := hBr
                  by_cases hin : i < n
                  · by_cases hK : K i = 2
                    · have hbK : (K i != 2) = false := by simpa using hK
                      have c0 := hEr.c0 i hin
                      have c1 := hEr.c1 i hin
                      have c2 := hEr.c2 i hin
                      have c3 := hEr.c3 i hin
                      have c4 := hEr.c4 i hin
                      have c5 := hEr.c5 i hin
                      rw [Nat.zero_add] at c0 c1 c2 c3 c4 c5
                      have hjl := el_lt (I := I) (D := D) hin hK
                      have hj1 : (el I K D i).length < cs1.length := by rw [hl1, HM.out]; exact hjl
                      have hj3 : (el I K D i).length < cs3.length := by rw [hl3, HM.out]; exact hjl
                      have hg1 := chg_at hk1 hin hK hj1
                      have hg3 := chg_at hk3 hin hK hj3
                      have hdq : ∀ q, Below wr.heap.size wr (wr.drewN q) := fun q => below_drewN (Below.refl _ _) q
                      have hx1 : ∀ q, Calls Tryf.prog 24 #[.pointer (some ⟨w3.heap.size, 0, none⟩), .int .i64 ((el I K D i).length : Nat)] (wr.drewN q) fun e w' => e = .returned (.int .u64 (I i)) ∧ w' = wr.drewN q := fun q => by
                        have := index_any _ _ _ _ _ hj1 (wr.drewN q) (hH1r.below (hdq q))
                        rw [hg1.1] at this
                        exact this
                      have hx3 : ∀ q, Calls Tryf.prog 24 #[.pointer (some ⟨w5.heap.size, 0, none⟩), .int .i64 ((el I K D i).length : Nat)] (wr.drewN q) fun e w' => e = .returned (.int .u64 (I i)) ∧ w' = wr.drewN q := fun q => by
                        have := index_any _ _ _ _ _ hj3 (wr.drewN q) (hH3r.below (hdq q))
                        rw [hg3.1] at this
                        exact this
                      have HEL : Hid (el I K D (i + 1) = el I K D i ++ [(I i, D i)]) := el_in hK
                      have HER : Hid (Ents wr w2.heap.size 0 n I T K Q S A L C) := hEr
                      have hblt : w2.heap.size < wr.heap.size := by have := hB2c.size; have := hH1.rh.lt; have := hBr.size; omega
                      have HHR : Hid (HS wr w3.heap.size g1 v1 cs1 ∧ HS wr w5.heap.size g3 v3 cs3) := ⟨hH1r, hH3r⟩
                      have HG : Hid ((cs1[(el I K D i).length]).d = D i ∧ (cs3[(el I K D i).length]).d = D i) := ⟨hg1.2, hg3.2⟩
                      have i1 : (i : Int) < (n : Int) := by omega
                      have hdm : decide ((m : Int) ≤ ((el I K D i).length : Int)) = false := by rw [HM.out]; simp; omega
                      have hnn : (I i != I i) = false := by simp
                      clear hH1 hH3 hk1 hk3 hB2c hEc hH1r hH3r hEr hBr hg1 hg3 hdq
                      go_wp2_with fail
                      go_quiet (first | (go_at_call_of 24 (w3.heap.size); refine Calls.quiet_of_same (hx1 _)) | (go_at_call_of 24 (w5.heap.size); refine Calls.quiet_of_same (hx3 _)))
                      have hBq : Below wr.heap.size wr (wr.drewN nq) := below_drewN (Below.refl _ _) nq
                      generalize wr.drewN nq = wq at hBq ⊢
                      clear hx1 hx3 c0 c1 c2 c3 c4 c5
                      have hEq := HER.out.later (fun _ => hblt) hBq
                      have c0 := hEq.c0 i hin
                      have c1 := hEq.c1 i hin
                      have c2 := hEq.c2 i hin
                      have c3 := hEq.c3 i hin
                      have c4 := hEq.c4 i hin
                      have c5 := hEq.c5 i hin
                      rw [Nat.zero_add] at c0 c1 c2 c3 c4 c5
                      rw [hK] at c2
                      have hBwq : Below w2.heap.size w2 wq := HBR.out.trans (hBq.mono (by omega))
                      have hIBq : InB wq (.slice (A i) (L i) (C i)) (D i) := (HD.out i hin).below hBwq
                      have hdl : (D i).length ≤ 1048576 := by
                        obtain ⟨_, _, e, _⟩ := HD.out i hin
                        simp at e
                        have := HLE.out i hin
                        omega
                      have hmo := membershipOf_any (I i) (T i) (Q i) (S i) (.slice (A i) (L i) (C i)) (D i) wq hdl hIBq
                      have HQ : Hid (Below wr.heap.size wr wq) := hBq
                      clear hEq hIBq hBq hBwq
                      go_wp2_with fail
                      refine hmo.mono ?_
                      clear hmo
                      rintro e w10 ⟨⟨mv, rfl, hMR⟩, hB10⟩
                      have hB10' : Below wr.heap.size wr w10 := HQ.out.trans (hB10.mono HQ.out.size)
                      obtain ⟨t0, t1, t2, d0, d1, d2, rfl, hres, k0, k1, k2⟩ := hMR
                      obtain ⟨x0, y0, e0, _, _⟩ := k0.open
                      obtain ⟨x1, y1, e1, _, _⟩ := k1.open
                      obtain ⟨x2, y2, e2, _, _⟩ := k2.open
                      have HMR : Hid (MR wq.heap.size (D i) (.agg #[t0, t1, t2]) w10) := ⟨t0, t1, t2, d0, d1, d2, rfl, hres, k0, k1, k2⟩
                      have H10 : Hid (Below wr.heap.size wr w10) := hB10'
                      clear hres k0 k1 k2 hB10 hB10' c0 c1 c2 c3 c4 c5
                      subst e0 e1 e2
                      go_wp2_with fail
                      obtain ⟨wa, hwa⟩ : ∃ wa, wa = w10.alloc (.cells #[.slice x0 d0.length y0, .slice x1 d1.length y1, .slice x2 d2.length y2] 33) := ⟨_, rfl⟩
                      have hba : Below w10.heap.size w10 wa := by rw [hwa]; exact (Below.refl _ w10).alloc (Nat.le_refl _) _
                      have hha : wa.heap[w10.heap.size]? = some (.cells #[.slice x0 d0.length y0, .slice x1 d1.length y1, .slice x2 d2.length y2] 33) := by rw [hwa]; exact heap_alloc_new w10 _
                      rw [← hwa]
                      clear hwa
                      have hMRa : MR wq.heap.size (D i) (.agg #[.slice x0 d0.length y0, .slice x1 d1.length y1, .slice x2 d2.length y2]) wa := HMR.out.below hba
                      have hra : Below wr.heap.size wr wa := H10.out.trans (hba.mono H10.out.size)
                      have G1 : ∀ W, Below wa.heap.size wa W → Calls Tryf.prog 26 #[.pointer (some ⟨w3.heap.size, 0, none⟩), .int .i64 ((el I K D i).length : Nat)] W fun e W' => (∃ m, e = .returned m ∧ MR 0 (D i) m W') ∧ Below wa.heap.size wa W' := fun W hW =>
                        (chMembership_any _ _ _ _ _ hj1 W (HHR.out.1.below (hra.trans (hW.mono hra.size)))).mono (fun e W' ⟨⟨m, e1, e2⟩, hB⟩ => ⟨⟨m, e1, HG.out.1 ▸ e2⟩, hW.trans (hB.mono hW.size)⟩)
                      have G3 : ∀ W, Below wa.heap.size wa W → Calls Tryf.prog 26 #[.pointer (some ⟨w5.heap.size, 0, none⟩), .int .i64 ((el I K D i).length : Nat)] W fun e W' => (∃ m, e = .returned m ∧ MR 0 (D i) m W') ∧ Below wa.heap.size wa W' := fun W hW =>
                        (chMembership_any _ _ _ _ _ hj3 W (HHR.out.2.below (hra.trans (hW.mono hra.size)))).mono (fun e W' ⟨⟨m, e1, e2⟩, hB⟩ => ⟨⟨m, e1, HG.out.2 ▸ e2⟩, hW.trans (hB.mono hW.size)⟩)
                      have GS : ∀ W m1, Below wa.heap.size wa W → MR 0 (D i) m1 W → Calls Tryf.prog 25 #[m1, .agg #[.slice x0 d0.length y0, .slice x1 d1.length y1, .slice x2 d2.length y2]] W fun e W' => e = .returned (.bool true) ∧ Below wa.heap.size wa W' := fun W m1 hW h1 =>
                        (sameMembership_any _ _ _ _ _ W hdl h1 (hMRa.below hW)).mono (fun e W' ⟨e1, hB⟩ => ⟨e1, hW.trans (hB.mono hW.size)⟩)
                      have hmb : w10.heap.size < wa.heap.size := (Array.getElem?_eq_some_iff.1 hha).1
                      have KS : ∀ W, Below wa.heap.size wa W → Below wa.heap.size wa W ∧ W.cell? ⟨w10.heap.size, 0, none⟩ = some (.slice x0 d0.length y0) ∧ W.cell? ⟨w10.heap.size, 1, none⟩ = some (.slice x1 d1.length y1) ∧ W.cell? ⟨w10.heap.size, 2, none⟩ = some (.slice x2 d2.length y2) := fun W hW =>
                        ⟨hW, (hW.cell hmb).trans (by simp [World.cell?, hha]), (hW.cell hmb).trans (by simp [World.cell?, hha]), (hW.cell hmb).trans (by simp [World.cell?, hha])⟩
                      have hra0 : Below wa.heap.size wa wa := Below.refl _ _
                      obtain ⟨_, a0, a1, a2⟩ := KS wa hra0
                      have HRA : Hid (Below wr.heap.size wr wa) := hra
                      clear hra hMRa hba hha
                      go_region_held3 (fun W => Below wa.heap.size wa W ∧ W.cell? ⟨w10.heap.size, 0, none⟩ = some (.slice x0 d0.length y0) ∧ W.cell? ⟨w10.heap.size, 1, none⟩ = some (.slice x1 d1.length y1) ∧ W.cell? ⟨w10.heap.size, 2, none⟩ = some (.slice x2 d2.length y2))
                        (exact KS _ (by first | assumption | exact Below.drew (by assumption)))
                        (first
                          | (go_at_call_of 26 (w3.heap.size); refine (G1 _ (by first | assumption | exact Below.drew (by assumption))).mono ?_; rintro e W1 ⟨⟨m1, rfl, hm1⟩, hW1⟩)
                          | (go_at_call_of 26 (w5.heap.size); refine (G3 _ (by first | assumption | exact Below.drew (by assumption))).mono ?_; rintro e W1 ⟨⟨m1, rfl, hm1⟩, hW1⟩)
                          | (go_at_call 25; refine (GS _ _ (by first | assumption | exact Below.drew (by assumption)) (by assumption)).mono ?_; rintro e W1 ⟨rfl, hW1⟩))
                      have H11 : Hid (Below w9.heap.size w9 W1) := HBr.out.trans ((HRA.out.trans (hW1.mono HRA.out.size)).mono HBr.out.size)
                      have hjb : (el I K D i).length < 30000 := by have := el_length I K D i; omega
                      clear G1 G3 GS KS a0 a1 a2 hra0 hm1 hW1
                      go_wp2_with fail
                      go_roundw
                      case rel => exact ⟨i + 1, by omega, by go_num, by rw [HEL.out, List.length_append]; go_num, H11.out⟩
                      case measure => simp [intOf]; omega
                    · have hbK : (K i != 2) = true := by simpa using hK
                      have c2 := hEr.c2 i hin
                      rw [Nat.zero_add] at c2
                      have HEL : Hid (el I K D (i + 1) = el I K D i) := el_out hK
                      have i1 : (i : Int) < (n : Int) := by omega
                      clear hK hH1 hH3 hk1 hk3 hB2c hEc hH1r hH3r hEr hBr
                      go_wp2_with fail
                      go_roundw
                      case rel => exact ⟨i + 1, by omega, by go_num, by rw [HEL.out], HBr.out⟩
                      case measure => simp [intOf]; omega
                  · have hin' : i = n := by omega
                    have hd : decide ((i : Int) < (n : Int)) = false := by simp; omega
                    have hme : (((el I K D i).length : Int) == (m : Int)) = true := by rw [hin', ← HM.out]; simp
                    clear hH1 hH3 hk1 hk3 hB2c hEc hH1r hH3r hEr hBr hin'
                    go_wp2_with fail
                    go_ret
                    exact ⟨by rw [← hme]; rfl, HBR.out⟩
end Go.Proofs.Qxb6615150aFmt
