import Derived.Test.Qxb6615150aFmtWant
namespace Go.Proofs.Qxb6615150aFmt
open Go.RowKit Go.Lib

set_option maxRecDepth 100000 in
set_option maxHeartbeats 4000000 in
theorem law5_walk (ao1 : Option Addr) (b1 off1 n1 cap1 : Nat) (I T K Q S : Nat → Int) (A : Nat → Option Addr) (L C : Nat → Nat) (D : Nat → List UInt8) (ao2 : Option Addr) (b2 off2 n2 cap2 : Nat) (I' T' K' Q' S' : Nat → Int) (A' : Nat → Option Addr) (L' C' : Nat → Nat) (D' : Nat → List UInt8) (w : World)
    (hn1 : n1 ≤ maxLen) (hA1 : n1 ≠ 0 → ao1 = some ⟨b1, off1, none⟩) (hb1 : n1 ≠ 0 → b1 < w.heap.size) (hE1 : Ents w b1 off1 n1 I T K Q S A L C) (hlen1 : ∀ i, i < n1 → L i ≤ maxLen) (hI1 : ∀ i, i < n1 → 0 ≤ I i ∧ I i ≤ 18446744073709551615) (hD1 : ∀ i, i < n1 → InB w (.slice (A i) (L i) (C i)) (D i))
    (hn2 : n2 ≤ maxLen) (hA2 : n2 ≠ 0 → ao2 = some ⟨b2, off2, none⟩) (hb2 : n2 ≠ 0 → b2 < w.heap.size) (hE2 : Ents w b2 off2 n2 I' T' K' Q' S' A' L' C') (hlen2 : ∀ i, i < n2 → L' i ≤ maxLen) (hI2 : ∀ i, i < n2 → 0 ≤ I' i ∧ I' i ≤ 18446744073709551615) (hD2 : ∀ i, i < n2 → InB w (.slice (A' i) (L' i) (C' i)) (D' i)) :
    Calls Tryf.prog 5 #[.slice ao1 n1 cap1, .slice ao2 n2 cap2] w fun e w' => e = .returned (.bool true) ∧ Below w.heap.size w w' := by
  have hby := bytes18_any ao1 ao2 b1 off1 n1 cap1 b2 off2 n2 cap2 I T K Q S A L C I' T' K' Q' S' A' L' C' w hn1 hA1 hE1 hlen1 hn2 hA2 hE2 hlen2
  have hwe := weigh_any 0 ao1 b1 off1 n1 cap1 I T K Q S A L C w (by omega) (by omega) hn1 hA1 hE1 hlen1
  have hwe2 := fun t h0 h1 => weigh_any t ao2 b2 off2 n2 cap2 I' T' K' Q' S' A' L' C' w h0 h1 hn2 hA2 hE2 hlen2
  have HI : Hid ((∀ i, i < n1 → 0 ≤ I i ∧ I i ≤ 18446744073709551615) ∧ (∀ i, i < n2 → 0 ≤ I' i ∧ I' i ≤ 18446744073709551615)) := ⟨hI1, hI2⟩
  have HD : Hid ((∀ i, i < n1 → InB w (.slice (A i) (L i) (C i)) (D i)) ∧ (∀ i, i < n2 → InB w (.slice (A' i) (L' i) (C' i)) (D' i))) := ⟨hD1, hD2⟩
  have HE : Hid (Ents w b1 off1 n1 I T K Q S A L C ∧ Ents w b2 off2 n2 I' T' K' Q' S' A' L' C') := ⟨hE1, hE2⟩
  have HA : Hid ((n1 ≠ 0 → ao1 = some ⟨b1, off1, none⟩) ∧ (n1 ≠ 0 → b1 < w.heap.size) ∧ (n2 ≠ 0 → ao2 = some ⟨b2, off2, none⟩) ∧ (n2 ≠ 0 → b2 < w.heap.size)) := ⟨hA1, hb1, hA2, hb2⟩
  unfold maxLen at hn1 hn2
  clear hI1 hI2 hD1 hD2 hE1 hE2 hlen1 hlen2 hA1 hA2 hb1 hb2
  go_enter Tryf.func5, Tryf.ntmps5
  go_wp2_with fail
  refine hby.mono ?_
  clear hby
  rintro e w' ⟨⟨r, rfl⟩, rfl⟩
  cases r with
  | false =>
    go_wp2_with fail
    go_ret
    exact ⟨rfl, Below.refl _ _⟩
  | true =>
    go_wp2_with fail
    refine hwe.mono ?_
    clear hwe
    rintro e w2 ⟨⟨t, rfl, ht⟩, rfl⟩
    by_cases htb : 1048576 < t
    · have hd : decide ((1048576 : Int) < t) = true := by simpa using htb
      clear ht hwe2
      go_wp2_with fail
      go_ret
      exact ⟨rfl, Below.refl _ _⟩
    · have hd : decide ((1048576 : Int) < t) = false := by simpa using htb
      obtain ⟨ht1, ht2⟩ := ht (by omega)
      have hwe := hwe2 t (by omega) (by omega)
      have hn13 : n1 ≤ 30000 := by omega
      have HLE : Hid (∀ i, i < n1 → L i ≤ 1048576) := ht2
      clear ht ht2 hwe2
      go_wp2_with fail
      refine hwe.mono ?_
      clear hwe
      rintro e w3 ⟨⟨u, rfl, hu⟩, rfl⟩
      by_cases hub : 1048576 < u
      · have hd3 : decide ((1048576 : Int) < u) = true := by simpa using hub
        clear hu
        go_wp2_with fail
        go_ret
        exact ⟨rfl, Below.refl _ _⟩
      · have hd3 : decide ((1048576 : Int) < u) = false := by simpa using hub
        obtain ⟨hu1, hu2⟩ := hu (by omega)
        have hn23 : n2 ≤ 30000 := by omega
        have HLE2 : Hid (∀ i, i < n2 → L' i ≤ 1048576) := hu2
        clear hu hu2 hub htb hu1 ht1
        go_wp2_with fail
        clear hd hd3
        go_loopw [6] (fun vi wr => ∃ j : Nat, 1 ≤ j ∧ j ≤ n1 + 1 ∧ vi = .int .i64 j ∧ (∀ i, 1 ≤ i → i < j → i < n1 → I (i - 1) < I i) ∧ ∃ q, wr = w3.drewN q) (fun vi _ => n1 + 1 - (intOf vi).toNat)
        case atStart => exact ⟨1, by omega, by omega, rfl, fun i h1 h2 => by omega, 0, rfl⟩
        case round =>
          obtain ⟨j, hj1, hj2, rfl, hs, q, rfl⟩ := hrel
          have HSA : Hid (∀ i, 1 ≤ i → i < j → i < n1 → I (i - 1) < I i) := hs
          clear hs
          by_cases hjn : j < n1
          · obtain rfl := HA.out.1 (by omega)
            obtain ⟨p, rfl⟩ : ∃ p, j = p + 1 := ⟨j - 1, by omega⟩
            have c1 := HE.out.1.c0 (p + 1) hjn
            have c2 := HE.out.1.c0 p (by omega)
            have i1 : (p : Int) + 1 < (n1 : Int) := by omega
            have i2 : (p : Int) < (n1 : Int) := by omega
            go_wp2_with fail
            go_quiet (fail)
            go_wp2_with fail
            · go_ret
              exact ⟨rfl, below_drewN (below_drewN (Below.refl _ _) _) _⟩
            · have hq : I p < I (p + 1) := by assumption
              have HQ : Hid (I p < I (p + 1)) := hq
              go_roundw
              case rel =>
                refine ⟨p + 1 + 1, by omega, by omega, by go_num, fun i h1 h2 h3 => ?_, _, rfl⟩
                by_cases e : i = p + 1
                · subst e; exact HQ.out
                · exact HSA.out i h1 (by omega) h3
              case measure => simp [intOf]; omega
          · have hd : decide ((j : Int) < (n1 : Int)) = false := by simp; omega
            have HST : Hid (∀ i j, i < j → j < n1 → I i < I j) := asc_of (fun i h1 h2 => HSA.out i h1 (by omega) h2)
            have hB3 : Below w3.heap.size w3 (w3.drewN q) := below_drewN (Below.refl _ _) q
            have hte := toEntries_any ao1 b1 off1 n1 cap1 I T K Q S A L C (w3.drewN q) hn13 HA.out.1 HA.out.2.1 (HE.out.1.later HA.out.2.1 hB3)
            go_wp2_with fail
            refine hte.mono ?_
            clear hte
            rintro e w4 ⟨rfl, hB4, hrow⟩
            have hB34 : Below w3.heap.size w3 w4 := hB3.trans hB4
            have hE4 : Ents w4 w3.heap.size 0 n1 I T K Q S A L C := Ents.of_row hrow
            have hlt34 : w3.heap.size < w4.heap.size := World.rowIs.lt hrow
            have hte2 := toEntries_any ao2 b2 off2 n2 cap2 I' T' K' Q' S' A' L' C' w4 hn23 HA.out.2.2.1 (fun h => Nat.lt_trans (HA.out.2.2.2 h) hlt34) (HE.out.2.later HA.out.2.2.2 hB34)
            have H4 : Hid (Below w3.heap.size w3 w4 ∧ Ents w4 w3.heap.size 0 n1 I T K Q S A L C) := ⟨hB34, hE4⟩
            clear hB3 hB4 hrow hB34 hE4 HSA
            go_wp2_with fail
            refine hte2.mono ?_
            clear hte2
            rintro e w5 ⟨rfl, hB5, hrow⟩
            have hlt45 : w4.heap.size < w5.heap.size := World.rowIs.lt hrow
            obtain ⟨w6, hmk, hW6, hB6⟩ := make_own51 w5 n1 n2 (by omega)
            have H5 : Hid (Below w3.heap.size w3 w5 ∧ Ents w5 w3.heap.size 0 n1 I T K Q S A L C ∧ Ents w5 w4.heap.size 0 n2 I' T' K' Q' S' A' L' C') := ⟨H4.out.1.trans (hB5.mono (Nat.le_of_lt hlt34)), H4.out.2.later (fun _ => hlt34) hB5, Ents.of_row hrow⟩
            have H6 : Hid (WS w5.heap.size w6 (.slice (some ⟨w5.heap.size, 0, none⟩) 0 (n1 + n2)) [] ∧ Below w5.heap.size w5 w6) := ⟨hW6, hB6⟩
            clear hrow hB5 hW6 hB6 H4
            go_wp2_with fail
            clear hmk
            have hlt35 : w3.heap.size < w5.heap.size := by omega
            obtain ⟨f1, hf1⟩ : ∃ f1, f1 = en I T K Q S A L C D := ⟨_, rfl⟩
            obtain ⟨f2, hf2⟩ : ∃ f2, f2 = en I' T' K' Q' S' A' L' C' D' := ⟨_, rfl⟩
            have HF : Hid (f1 = en I T K Q S A L C D ∧ f2 = en I' T' K' Q' S' A' L' C' D') := ⟨hf1, hf2⟩
            clear hf1 hf2
            go_loopw [9, 10] (fun vo vi wr => ∃ i : Nat, i ≤ n1 ∧ vi = .int .i64 i ∧ WS w5.heap.size wr vo (wl (cB K I n2 (I' 0)) f1 i) ∧ Below w5.heap.size w5 wr) (fun _ vi _ => n1 - (intOf vi).toNat)
            case atStart => exact ⟨0, by omega, rfl, H6.out.1, H6.out.2⟩
            case round =>
              clear H6
              obtain ⟨i, hi, rfl, hown, hB⟩ := hrel
              have hwl := wl_length (cB K I n2 (I' 0)) f1 i
              by_cases hin : i < n1
              · have hE1 := H5.out.2.1.later (fun _ => hlt35) hB
                have hE2 := H5.out.2.2.later (fun _ => hlt45) hB
                have c0 := hE1.c0 i hin
                have c1 := hE1.c1 i hin
                have c2 := hE1.c2 i hin
                have c3 := hE1.c3 i hin
                have c4 := hE1.c4 i hin
                have c5 := hE1.c5 i hin
                rw [Nat.zero_add] at c0 c1 c2 c3 c4 c5
                have i1 : (i : Int) < (n1 : Int) := by omega
                have HB : Hid (Below w5.heap.size w5 wr) := hB
                have HO : Hid (WS w5.heap.size wr u9 (wl (cB K I n2 (I' 0)) f1 i)) := hown
                by_cases hcb : cB K I n2 (I' 0) i = true
                · have hap := fun q => append_en1 w5.heap.size (wr.drewN q) hB.size u9 _ hown (en I T K Q S A L C D i) (by omega)
                  dsimp only [en] at hap
                  have HW : Hid (wl (cB K I n2 (I' 0)) f1 (i + 1) = wl (cB K I n2 (I' 0)) f1 i ++ [⟨I i, T i, K i, Q i, S i, A i, L i, C i, D i⟩]) := by
                    show wl (cB K I n2 (I' 0)) f1 (i + 1) = _
                    rw [wl_in hcb, HF.out.1]; rfl
                  have hcase : (K i == 2) = true ∧ (((n2 : Int) == 0) = true ∨ (((n2 : Int) == 0) = false ∧ (0 : Int) < (n2 : Int) ∧ wr.cell? ⟨w4.heap.size, 0, none⟩ = some (.int .u64 (I' 0)) ∧ decide (I i < I' 0) = true)) := by
                    simp only [cB, Bool.and_eq_true, Bool.or_eq_true] at hcb
                    refine ⟨hcb.1, ?_⟩
                    by_cases hz : n2 = 0
                    · left; simp [hz]
                    · right
                      have h0 := hE2.c0 0 (by omega)
                      rcases hcb.2 with h | h
                      · simp at h; omega
                      · exact ⟨by simp; omega, by omega, by simpa using h0, h⟩
                  clear hcb hown hB hE1 hE2
                  obtain ⟨hk, hz | ⟨hz, hzp, z0, hlt⟩⟩ := hcase <;> (
                    go_wp2_with fail
                    go_quiet (fail)
                    obtain ⟨v', w', hr, hown', hBk⟩ := hap nq
                    have H7 : Hid (WS w5.heap.size w' v' (wl (cB K I n2 (I' 0)) f1 i ++ [⟨I i, T i, K i, Q i, S i, A i, L i, C i, D i⟩]) ∧ Below w5.heap.size w5 w') := And.intro hown' (hBk w5 (below_drewN HB.out nq))
                    clear hown' hBk hap
                    go_wp2_with (at_builtin; refine wpList_append_run rfl _ _ 47 47 rfl hr ?_)
                    go_roundw
                    case rel => exact ⟨i + 1, by omega, by go_num, by rw [HW.out]; exact H7.out.1, H7.out.2⟩
                    case measure => simp [intOf]; omega)
                · have HW : Hid (wl (cB K I n2 (I' 0)) f1 (i + 1) = wl (cB K I n2 (I' 0)) f1 i) := wl_out (by simpa using hcb)
                  have hcase : (K i == 2) = false ∨ ((K i == 2) = true ∧ ((n2 : Int) == 0) = false ∧ (0 : Int) < (n2 : Int) ∧ wr.cell? ⟨w4.heap.size, 0, none⟩ = some (.int .u64 (I' 0)) ∧ decide (I i < I' 0) = false) := by
                    by_cases hk : (K i == 2) = true
                    · right
                      simp only [cB, hk, Bool.true_and, Bool.or_eq_true, not_or, Bool.not_eq_true] at hcb
                      have hz : ¬ n2 = 0 := by simpa using hcb.1
                      have h0 := hE2.c0 0 (by omega)
                      exact ⟨hk, by simp; omega, by omega, by simpa using h0, hcb.2⟩
                    · left; simpa using hk
                  clear hcb hown hB hE1 hE2 c1 c3 c4 c5
                  obtain hk | ⟨hk, hz, hzp, z0, hlt⟩ := hcase <;> (
                    go_wp2_with fail
                    go_quiet (fail)
                    go_wp2_with fail
                    go_roundw
                    case rel => exact ⟨i + 1, by omega, by go_num, by rw [HW.out]; exact HO.out, below_drewN HB.out _⟩
                    case measure => simp [intOf]; omega)
              · have hd : decide ((i : Int) < (n1 : Int)) = false := by simp; omega
                obtain rfl : n1 = i := by omega
                have HO : Hid (WS w5.heap.size wr u9 (wl (cB K I n2 (I' 0)) f1 n1) ∧ Below w5.heap.size w5 wr) := ⟨hown, hB⟩
                clear hown hB
                go_wp2_with fail
                go_loopw [9, 11] (fun vo vi wr => ∃ i : Nat, i ≤ n2 ∧ vi = .int .i64 i ∧ WS w5.heap.size wr vo (wl (cB K I n2 (I' 0)) f1 n1 ++ wl (cE K') f2 i) ∧ Below w5.heap.size w5 wr) (fun _ vi _ => n2 - (intOf vi).toNat)
                case atStart => exact ⟨0, by omega, rfl, by simpa [wl] using HO.out.1, HO.out.2⟩
                case round =>
                  clear HO
                  obtain ⟨i, hi, rfl, hown, hB⟩ := hrel
                  have hwl2 := wl_length (cE K') f2 i
                  by_cases hin : i < n2
                  · have hE2 := H5.out.2.2.later (fun _ => hlt45) hB
                    have c0 := hE2.c0 i hin
                    have c1 := hE2.c1 i hin
                    have c2 := hE2.c2 i hin
                    have c3 := hE2.c3 i hin
                    have c4 := hE2.c4 i hin
                    have c5 := hE2.c5 i hin
                    rw [Nat.zero_add] at c0 c1 c2 c3 c4 c5
                    have i1 : (i : Int) < (n2 : Int) := by omega
                    by_cases hcb : cE K' i = true
                    · have hk : (K' i == 2) = true := hcb
                      obtain ⟨v', w', hr, hown', hBk⟩ := append_en1 w5.heap.size wr hB.size u9 _ hown (en I' T' K' Q' S' A' L' C' D' i) (by simp; omega)
                      dsimp only [en] at hr hown'
                      have HW : Hid (wl (cE K') f2 (i + 1) = wl (cE K') f2 i ++ [⟨I' i, T' i, K' i, Q' i, S' i, A' i, L' i, C' i, D' i⟩]) := by
                        show wl (cE K') f2 (i + 1) = _
                        rw [wl_in hcb, HF.out.2]; rfl
                      have H7 : Hid (WS w5.heap.size w' v' (wl (cB K I n2 (I' 0)) f1 n1 ++ wl (cE K') f2 i ++ [⟨I' i, T' i, K' i, Q' i, S' i, A' i, L' i, C' i, D' i⟩]) ∧ Below w5.heap.size w5 w') := And.intro hown' (hBk w5 hB)
                      clear hown' hBk hown hB hE2 hcb
                      go_wp2_with (at_builtin; refine wpList_append_run rfl _ _ 47 47 rfl hr ?_)
                      go_roundw
                      case rel => exact ⟨i + 1, by omega, by go_num, by rw [HW.out, ← List.append_assoc]; exact H7.out.1, H7.out.2⟩
                      case measure => simp [intOf]; omega
                    · have hk : (K' i == 2) = false := by simpa [cE] using hcb
                      have HW : Hid (wl (cE K') f2 (i + 1) = wl (cE K') f2 i) := wl_out (by simpa using hcb)
                      have H7 : Hid (WS w5.heap.size wr u9 (wl (cB K I n2 (I' 0)) f1 n1 ++ wl (cE K') f2 i) ∧ Below w5.heap.size w5 wr) := ⟨hown, hB⟩
                      clear hown hB hE2 hcb
                      go_wp2_with fail
                      go_roundw
                      case rel => exact ⟨i + 1, by omega, by go_num, by rw [HW.out]; exact H7.out.1, H7.out.2⟩
                      case measure => simp [intOf]; omega
                  · have hd4 : decide ((i : Int) < (n2 : Int)) = false := by simp; omega
                    obtain rfl : n2 = i := by omega
                    obtain ⟨ws, hws⟩ : ∃ ws, ws = wl (cB K I n2 (I' 0)) f1 n1 ++ wl (cE K') f2 n2 := ⟨_, rfl⟩
                    rw [← hws] at hown
                    have hwsl : ws.length ≤ 60000 := by rw [hws, List.length_append]; omega
                    have HWS : Hid (ws = wl (cB K I n2 (I' 0)) (en I T K Q S A L C D) n1 ++ wl (cE K') (en I' T' K' Q' S' A' L' C' D') n2) := by
                      show ws = _
                      rw [hws, HF.out.1, HF.out.2]
                    obtain ⟨ao9, cap9, e9, hc1, hc2, hg9⟩ := hown.open
                    rw [e9] at hown
                    subst e9
                    have HO : Hid (WS w5.heap.size wr (.slice ao9 ws.length cap9) ws ∧ Below w5.heap.size w5 wr ∧ (ws.length ≠ 0 → ∃ g, ao9 = some ⟨g, 0, none⟩)) := ⟨hown, hB, fun h => by obtain ⟨g, h1, _⟩ := hg9 h; exact ⟨g, h1⟩⟩
                    have hs5 := hB.size
                    have hE1 := H5.out.2.1.later (fun _ => hlt35) hB
                    have hE2 := H5.out.2.2.later (fun _ => hlt45) hB
                    have hB3r : Below w3.heap.size w3 wr := H5.out.1.trans (hB.mono (by omega))
                    clear hown hB hws hwl hwl2 hg9 hin hi hc1 hc2
                    unfold maxLen at *
                    go_wp2_with fail
                    refine (newHist_any wr).mono ?_
                    rintro e w8 ⟨rfl, hH8, hB8, hs8⟩
                    have hDD : ∀ i, i < n1 → InB w3 (.slice (A i) (L i) (C i)) (D i) ∧ (D i).length ≤ 1048576 := fun i hi => ⟨HD.out.1 i hi, by
                      obtain ⟨_, _, e, _⟩ := HD.out.1 i hi
                      simp at e
                      have := HLE.out i hi
                      omega⟩
                    have hDD2 : ∀ i, i < n2 → InB w3 (.slice (A' i) (L' i) (C' i)) (D' i) ∧ (D' i).length ≤ 1048576 := fun i hi => ⟨HD.out.2 i hi, by
                      obtain ⟨_, _, e, _⟩ := HD.out.2 i hi
                      simp at e
                      have := HLE2.out i hi
                      omega⟩
                    have hb3r : w3.heap.size < wr.heap.size := by omega
                    have hb4r : w4.heap.size < wr.heap.size := by omega
                    have ht1 := zzTakeIn_of (takeIn_any w3 wr.heap.size _ _ [] (some ⟨w3.heap.size, 0, none⟩) w3.heap.size 0 n1 n1 I T K Q S A L C D w8 hn13 (by simp; omega) (fun _ => rfl) (fun _ => hb3r) (hE1.later (fun _ => hb3r) hB8) (hB3r.trans (hB8.mono hB3r.size)) hB3r.size hDD HI.out.1 hH8 (fun i j _ h => by simp at h)) (fun e w' h => h.1)
                    have H8 : Hid (Below wr.heap.size wr w8 ∧ Below w3.heap.size w3 wr ∧ Ents wr w4.heap.size 0 n2 I' T' K' Q' S' A' L' C') := ⟨hB8, hB3r, hE2⟩
                    have HDD : Hid (∀ i, i < n2 → InB w3 (.slice (A' i) (L' i) (C' i)) (D' i) ∧ (D' i).length ≤ 1048576) := hDD2
                    have HWM : Hid (∀ c, c ∈ ws → c.x2 = 2 ∧ InB w3 (.slice c.ad c.ln c.cp) c.d ∧ c.d.length ≤ 1048576) := fun c hc => want_mem (P := fun v d => InB w3 v d ∧ d.length ≤ 1048576) hDD hDD2 c (by rw [← HWS.out]; exact hc)
                    clear hH8 hB8 hE1 hE2 hB3r hDD hDD2
                    go_wp2_with fail
                    refine ht1.mono ?_
                    clear ht1
                    rintro e w9 ⟨rfl, ⟨g1, v1, cs1, hH9, hk0, hk1⟩, hB9⟩
                    have hkey1 : cs1.map key = el I K D n1 := by
                      by_cases h0 : n1 = 0
                      · rw [hk0 h0, h0]; rfl
                      · obtain ⟨p, _, hp⟩ := hk1 h0
                        simpa using hp
                    have hl1 : cs1.length ≤ n1 := by
                      have := congrArg List.length hkey1
                      have h2 := el_length I K D n1
                      simp at this; omega
                    have hB9' : Below wr.heap.size wr w9 := H8.out.1.trans hB9
                    have hasc := ix_asc hkey1 (el_sorted (K := K) (D := D) HST.out)
                    have ht2 := zzTakeIn_of (takeIn_any w3 wr.heap.size g1 v1 cs1 (some ⟨w4.heap.size, 0, none⟩) w4.heap.size 0 n2 n2 I' T' K' Q' S' A' L' C' D' w9 hn23 (by omega) (fun _ => rfl) (fun _ => hb4r) (H8.out.2.2.later (fun _ => hb4r) hB9') (H8.out.2.1.trans (hB9'.mono H8.out.2.1.size)) H8.out.2.1.size HDD.out HI.out.2 hH9 hasc) (fun e w' h => h.1)
                    have H9 : Hid (Below wr.heap.size wr w9 ∧ cs1.map key = el I K D n1) := ⟨hB9', hkey1⟩
                    clear hk0 hk1 hB9 hB9' hasc hH9 hkey1 hl1
                    go_wp2_with fail
                    refine ht2.mono ?_
                    clear ht2
                    rintro e w10 ⟨rfl, ⟨g2, v2, cs2, hH10, hk0, hk1⟩, hB10⟩
                    have hkey : cs2.map key = ws.map ekey := by rw [HWS.out]; exact want_keys H9.out.2 hk0 hk1
                    have hl2 : cs2.length = ws.length := by simpa using congrArg List.length hkey
                    have hB10' : Below wr.heap.size wr w10 := H9.out.1.trans hB10
                    have hct := count_any _ _ _ _ w10 hH10
                    rw [hl2] at hct
                    have H10 : Hid (HS w10 wr.heap.size g2 v2 cs2 ∧ Below wr.heap.size wr w10 ∧ cs2.map key = ws.map ekey ∧ cs2.length = ws.length ∧ WS w5.heap.size w10 (.slice ao9 ws.length cap9) ws) := ⟨hH10, hB10', hkey, hl2, HO.out.1.below (Nat.le_refl _) hB10'⟩
                    clear hk0 hk1 hB10 hB10' hH10 hkey hl2 H9
                    go_wp2_with fail
                    refine hct.mono ?_
                    clear hct
                    rintro e w11 ⟨rfl, rfl⟩
                    have hne : ((ws.length : Int) != (ws.length : Int)) = false := by simp
                    go_wp2_with fail
                    clear hne
                    obtain ⟨wh, hwh⟩ : ∃ wh, wh = wr := ⟨wr, rfl⟩
                    subst hwh
                    go_loopw [13] (fun vi wr => ∃ i : Nat, i ≤ ws.length ∧ vi = .int .i64 i ∧ Below w11.heap.size w11 wr) (fun vi _ => ws.length - (intOf vi).toNat)
                    case atStart => exact ⟨0, by omega, rfl, Below.refl _ _⟩
                    case round =>
                      obtain ⟨i, hi, rfl, hBr⟩ := hrel
                      obtain ⟨hH, hBw, hkey, hl2, hWS⟩ := H10.out
                      have hHr := hH.below hBr
                      have hWr := hWS.below (Nat.le_refl _) hBr
                      have HBr : Hid (Below w11.heap.size w11 wr) := hBr
                      have HBw : Hid (Below w3.heap.size w3 wr) := (H8.out.2.1.trans (hBw.mono H8.out.2.1.size)).trans (hBr.mono (Nat.le_trans H8.out.2.1.size hBw.size))
                      by_cases hin : i < ws.length
                      · obtain ⟨ao', cap', e', _, _, hg⟩ := hWr.open
                        obtain ⟨g, rfl, _, hglt, hcell⟩ := hg (by omega)
                        simp only [Value.slice.injEq, true_and] at e'
                        obtain ⟨rfl, rfl⟩ := e'
                        have hj2 : i < cs2.length := by omega
                        have hkc : (cs2[i]).idx = (ws[i]).x0 ∧ (cs2[i]).d = (ws[i]).d := by
                          have := congrArg (·[i]?) hkey
                          simpa [hin, hj2, key, ekey] using this
                        obtain ⟨hx2, hIB, hdl⟩ := HWM.out _ (List.getElem_mem hin)
                        have hcell' := hcell i hin
                        obtain ⟨c, hc⟩ : ∃ c, c = ws[i] := ⟨_, rfl⟩
                        rw [← hc] at hkc hx2 hIB hdl hcell'
                        have c0 : wr.cell? ⟨g, i * 6, none⟩ = some (.int .u64 c.x0) := hcell' 0 _ (by omega) rfl
                        have c1 : wr.cell? ⟨g, i * 6 + 1, none⟩ = some (.int .u64 c.x1) := hcell' 1 _ (by omega) rfl
                        have c2 : wr.cell? ⟨g, i * 6 + 2, none⟩ = some (.int .u8 2) := by rw [← hx2]; exact hcell' 2 _ (by omega) rfl
                        have c3 : wr.cell? ⟨g, i * 6 + 3, none⟩ = some (.int .u64 c.x3) := hcell' 3 _ (by omega) rfl
                        have c4 : wr.cell? ⟨g, i * 6 + 4, none⟩ = some (.int .u64 c.x4) := hcell' 4 _ (by omega) rfl
                        have c5 : wr.cell? ⟨g, i * 6 + 5, none⟩ = some (.slice c.ad c.ln c.cp) := hcell' 5 _ (by omega) rfl
                        have hx : ∀ q, Calls Tryf.prog 24 #[.pointer (some ⟨wh.heap.size, 0, none⟩), .int .i64 (i : Nat)] (wr.drewN q) fun e w' => e = .returned (.int .u64 c.x0) ∧ w' = wr.drewN q := fun q => by
                          have := index_any _ _ _ _ _ hj2 (wr.drewN q) (hHr.below (below_drewN (Below.refl _ _) q))
                          rw [hkc.1] at this
                          exact this
                        have HHR : Hid (HS wr wh.heap.size g2 v2 cs2 ∧ (cs2[i]).d = c.d ∧ InB w3 (.slice c.ad c.ln c.cp) c.d) := ⟨hHr, hkc.2, hIB⟩
                        have HCC : Hid (∀ W, Below wr.heap.size wr W → W.cell? ⟨g, i * 6, none⟩ = some (.int .u64 c.x0) ∧ W.cell? ⟨g, i * 6 + 1, none⟩ = some (.int .u64 c.x1) ∧ W.cell? ⟨g, i * 6 + 2, none⟩ = some (.int .u8 2) ∧ W.cell? ⟨g, i * 6 + 3, none⟩ = some (.int .u64 c.x3) ∧ W.cell? ⟨g, i * 6 + 4, none⟩ = some (.int .u64 c.x4) ∧ W.cell? ⟨g, i * 6 + 5, none⟩ = some (.slice c.ad c.ln c.cp)) := fun W hW =>
                          ⟨(hW.cell hglt).trans c0, (hW.cell hglt).trans c1, (hW.cell hglt).trans c2, (hW.cell hglt).trans c3, (hW.cell hglt).trans c4, (hW.cell hglt).trans c5⟩
                        have i1 : (i : Int) < (ws.length : Int) := by omega
                        have hnn : (c.x0 != c.x0) = false := by simp
                        clear hH hBw hkey hl2 hWS hHr hWr hBr hkc hIB hcell hcell' hc hx2 c1 c2 c3 c4 c5 hg
                        go_wp2_with fail
                        go_quiet (first | (go_at_call 24; refine Calls.quiet_of_same (hx _)))
                        have hBq : Below wr.heap.size wr (wr.drewN nq) := below_drewN (Below.refl _ _) nq
                        generalize wr.drewN nq = wq at hBq ⊢
                        clear hx c0
                        have HQ : Hid (Below wr.heap.size wr wq) := hBq
                        have KS : ∀ W, Below wq.heap.size wq W → Below wq.heap.size wq W ∧ W.cell? ⟨g, i * 6, none⟩ = some (.int .u64 c.x0) ∧ W.cell? ⟨g, i * 6 + 1, none⟩ = some (.int .u64 c.x1) ∧ W.cell? ⟨g, i * 6 + 2, none⟩ = some (.int .u8 2) ∧ W.cell? ⟨g, i * 6 + 3, none⟩ = some (.int .u64 c.x3) ∧ W.cell? ⟨g, i * 6 + 4, none⟩ = some (.int .u64 c.x4) ∧ W.cell? ⟨g, i * 6 + 5, none⟩ = some (.slice c.ad c.ln c.cp) := fun W hW => ⟨hW, HCC.out W (HQ.out.trans (hW.mono HQ.out.size))⟩
                        have hB3q : Below w3.heap.size w3 wq := HBw.out.trans (hBq.mono HBw.out.size)
                        have G1 : ∀ W, Below wq.heap.size wq W → Calls Tryf.prog 26 #[.pointer (some ⟨wh.heap.size, 0, none⟩), .int .i64 (i : Nat)] W fun e W' => (∃ m, e = .returned m ∧ MR 0 c.d m W') ∧ Below wq.heap.size wq W' := fun W hW =>
                          (chMembership_any _ _ _ _ _ hj2 W (HHR.out.1.below (HQ.out.trans (hW.mono HQ.out.size)))).mono (fun e W' ⟨⟨m, e1, e2⟩, hB⟩ => ⟨⟨m, e1, HHR.out.2.1 ▸ e2⟩, hW.trans (hB.mono hW.size)⟩)
                        have G2 : ∀ W, Below wq.heap.size wq W → Calls Tryf.prog 27 #[.agg #[.int .u64 c.x0, .int .u64 c.x1, .int .u8 2, .int .u64 c.x3, .int .u64 c.x4, .slice c.ad c.ln c.cp]] W fun e W' => (∃ m, e = .returned m ∧ MR 0 c.d m W') ∧ Below W.heap.size W W' ∧ Below wq.heap.size wq W' := fun W hW =>
                          (membershipOf_any c.x0 c.x1 c.x3 c.x4 (.slice c.ad c.ln c.cp) c.d W hdl (HHR.out.2.2.below (hB3q.trans (hW.mono hB3q.size)))).mono (fun e W' ⟨⟨m, e1, e2⟩, hB⟩ => ⟨⟨m, e1, e2.zero⟩, hB, hW.trans (hB.mono hW.size)⟩)
                        have GS : ∀ W m1 m2, Below wq.heap.size wq W → MR 0 c.d m1 W → MR 0 c.d m2 W → Calls Tryf.prog 25 #[m1, m2] W fun e W' => e = .returned (.bool true) ∧ Below wq.heap.size wq W' := fun W m1 m2 hW h1 h2 =>
                          (sameMembership_any _ _ _ _ _ W hdl h1 h2).mono (fun e W' ⟨e1, hB⟩ => ⟨e1, hW.trans (hB.mono hW.size)⟩)
                        have hra0 : Below wq.heap.size wq wq := Below.refl _ _
                        obtain ⟨_, a0, a1, a2, a3, a4, a5⟩ := KS wq hra0
                        clear hBq hB3q
                        go_wp2_with fail
                        go_region_held3 (fun W => Below wq.heap.size wq W ∧ W.cell? ⟨g, i * 6, none⟩ = some (.int .u64 c.x0) ∧ W.cell? ⟨g, i * 6 + 1, none⟩ = some (.int .u64 c.x1) ∧ W.cell? ⟨g, i * 6 + 2, none⟩ = some (.int .u8 2) ∧ W.cell? ⟨g, i * 6 + 3, none⟩ = some (.int .u64 c.x3) ∧ W.cell? ⟨g, i * 6 + 4, none⟩ = some (.int .u64 c.x4) ∧ W.cell? ⟨g, i * 6 + 5, none⟩ = some (.slice c.ad c.ln c.cp))
                          (exact KS _ (by first | assumption | exact Below.drew (by assumption)))
                          (first
                            | (go_at_call 26; refine (G1 _ (by first | assumption | exact Below.drew (by assumption))).mono ?_; rintro e W1 ⟨⟨m1, rfl, hm1⟩, hW1⟩)
                            | (go_at_call 27; refine (G2 _ (by first | assumption | exact Below.drew (by assumption))).mono ?_; rintro e W2 ⟨⟨m2, rfl, hm2⟩, hBB, hW2⟩; replace hm1 := MR.below hm1 hBB)
                            | (go_at_call 25; refine (GS _ _ _ (by first | assumption | exact Below.drew (by assumption)) (by assumption) (by assumption)).mono ?_; rintro e W3 ⟨rfl, hW3⟩))
                        have H12 : Hid (Below w11.heap.size w11 W3) := HBr.out.trans ((HQ.out.trans (hW3.mono HQ.out.size)).mono HBr.out.size)
                        clear G1 G2 GS KS a0 a1 a2 a3 a4 a5 hra0 hm1 hm2 hW1 hW2 hW3 hBB
                        go_wp2_with fail
                        go_roundw
                        case rel => exact ⟨i + 1, by omega, by go_num, H12.out⟩
                        case measure => simp [intOf]; omega
                      · have hd5 : decide ((i : Int) < (ws.length : Int)) = false := by simp; omega
                        clear hH hBw hkey hl2 hWS hHr hWr hBr
                        go_wp2_with fail
                        go_ret
                        exact ⟨rfl, HBw.out⟩
end Go.Proofs.Qxb6615150aFmt
