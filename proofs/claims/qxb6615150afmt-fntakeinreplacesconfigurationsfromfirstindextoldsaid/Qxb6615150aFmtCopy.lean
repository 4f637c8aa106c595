import Derived.Test.Qxb6615150aFmtMerge
import Derived.Test.Qxb6615150aFmtRead
import Derived.Deep.OwnRows
import Derived.Laws.CopyOwn
namespace Go.Proofs.Qxb6615150aFmt
open Go.RowKit

/-- Two rows of the call's own, n numbers each. -/
structure SC (w wr : World) (g1 g2 n : Nat) (A B : Nat → Int) : Prop where
  ne : g1 ≠ g2
  b1 : w.heap.size ≤ g1
  b2 : w.heap.size ≤ g2
  r1 : wr.rowIs g1 43 n (fun t => .int .u64 (A t))
  r2 : wr.rowIs g2 43 n (fun t => .int .u64 (B t))
  bel : Below w.heap.size w wr

theorem SC.drewN {w wr : World} {g1 g2 n : Nat} {A B : Nat → Int} (h : SC w wr g1 g2 n A B) (q : Nat) : SC w (wr.drewN q) g1 g2 n A B := ⟨h.ne, h.b1, h.b2, h.r1, h.r2, below_drewN h.bel q⟩
theorem SC.swap {w wr : World} {g1 g2 n : Nat} {A B : Nat → Int} (h : SC w wr g1 g2 n A B) : SC w wr g2 g1 n B A := ⟨h.ne.symm, h.b2, h.b1, h.r2, h.r1, h.bel⟩
theorem SC.store {w wr : World} {g1 g2 n : Nat} {A B : Nat → Int} (h : SC w wr g1 g2 n A B) (k : Nat) (x : Int) : SC w (wr.setCell ⟨g2, k, none⟩ (.int .u64 x)) g1 g2 n A (fun t => if t = k then x else B t) :=
  ⟨h.ne, h.b1, h.b2, h.r1.setOther h.ne _, (h.r2.set k (.int .u64 x)).congr (fun t _ => by show (if t = k then Value.int .u64 x else .int .u64 (B t)) = .int .u64 (if t = k then x else B t); split <;> rfl), h.bel.setCell h.b2 _⟩

theorem run_make22 (n : Nat) (hn : n ≤ 4000000) (w : World) :
    (Instr.makeSlice 22 (.int .i64 (n : Int)) (.int .i64 (n : Int))).run Tryf.prog w = .ok (.slice (some ⟨w.heap.size, 0, none⟩) n n) (w.alloc (.cells (madeCells #[.int .u64 0] n) 43)) :=
  run_make_row' (P := Tryf.prog) 22 43 (.int .u64 0) 8 Tryf.underlying22 (by kernel_rfl) rfl .i64 .i64 n (by omega) (by omega) w

/-- Numbers under a list. -/
theorem seg_getD (zs : List Int) : seg (fun t => zs[t]?.getD 0) 0 zs.length = zs := by
  apply List.ext_getElem
  · simp [seg]
  · intro i h1 h2
    simp [seg, h2]

/-- 'copy' into the row that has just been made, whole. -/
theorem copy_run (ao : Option Addr) (n cap : Nat) (G : Nat → Int) (w : World) (hG : RowG w ao n G) :
    ∃ w1, (Builtin.copy_ #[22, 22] 3 #[.slice (some ⟨w.heap.size, 0, none⟩) n n, .slice ao n cap]).run Tryf.prog (w.alloc (.cells (madeCells #[.int .u64 0] n) 43)) = .ok (.int .i64 n) w1 ∧
      w1.rowIs w.heap.size 43 n (fun t => .int .u64 (G t)) ∧ Below w.heap.size w w1 ∧ w1.heap.size = w.heap.size + 1 := by
  rcases hG with rfl | ⟨b, off, rfl, hb, hc⟩
  · exact ⟨_, run_copy_none (P := Tryf.prog) _ 22 22 3 43 _ _ _ _ _ _ Tryf.underlying22 (by kernel_rfl) (by simp), (World.rowIs_made w (.int .u64 0) 0 43).congr (fun i hi => by omega), (Below.refl _ w).alloc (Nat.le_refl _) _, by simp⟩
  · have hg : (w.alloc (.cells (madeCells #[.int .u64 0] n) 43)).heap[w.heap.size]? = some (.cells (madeCells #[.int .u64 0] n) 43 (0, 0)) := heap_alloc_new w _
    have h := run_copy_row (P := Tryf.prog) (w.alloc (.cells (madeCells #[.int .u64 0] n) 43)) 22 22 3 43 w.heap.size 0 n n ⟨b, off, none⟩ n cap (madeCells #[.int .u64 0] n) 43 ((List.range n).map fun t => .int .u64 (G t))
      Tryf.underlying22 (by kernel_rfl) hg (by simp) (fun j v hj => by
        simp only [List.getElem?_map] at hj
        by_cases hjn : j < n
        · simp [List.getElem?_range hjn] at hj
          subst hj
          rw [Go.WideShapes.add_plain]
          exact (World.cell?_alloc_lt _ _ _ hb).trans (hc j hjn)
        · rw [List.getElem?_eq_none (by simp; omega)] at hj; simp at hj) (by simp [size_madeCells]) (by intro v hv; obtain ⟨t, _, rfl⟩ := List.mem_map.1 hv; rfl)
    simp only [List.length_map, List.length_range] at h
    refine ⟨_, h, ⟨_, setRow_heap _ _ _ _ _ _ hg, by simp [size_madeCells], fun i hi => ?_⟩, below_setRow ((Below.refl _ w).alloc (Nat.le_refl _) _) (Nat.le_refl _) _, by simp [World.setRow]⟩
    simp only [List.take_zero, List.nil_append, List.getElem?_toArray]
    rw [List.getElem?_append_left (by simpa using hi)]
    simp [hi]

set_option maxRecDepth 100000 in
set_option maxHeartbeats 4000000 in
/-- sortedCopy: a new slice that holds the numbers ascending. -/
theorem sortedCopy_walk (ao : Option Addr) (n cap : Nat) (G : Nat → Int) (w : World) (hn : n ≤ 4000000) (hG : RowG w ao n G) :
    Calls Tryf.prog 8 #[.slice ao n cap] w fun e w' => ∃ (g1 g2 : Nat) (A B : Nat → Int), e = .returned (.slice (some ⟨g1, 0, none⟩) n n) ∧ SC w w' g1 g2 n A B ∧ (seg A 0 n).Perm (seg G 0 n) ∧ ∀ p q, p < q → q < n → A p ≤ A q := by
  have hmk := run_make22 n hn
  obtain ⟨w1, hcp, hrow, hbel, hsz⟩ := copy_run ao n cap G w hG
  have HS : Hid (SC w (w1.alloc (.cells (madeCells #[.int .u64 0] n) 43)) w.heap.size w1.heap.size n G (fun _ => 0)) :=
    ⟨by omega, Nat.le_refl _, by omega, hrow.alloc _, (World.rowIs_made w1 (.int .u64 0) n 43).congr (fun _ _ => rfl), hbel.alloc (by omega) _⟩
  clear hrow hbel hG hsz
  go_enter Tryf.func8, Tryf.ntmps8
  go_wp2_with fail
  clear hmk hcp
  go_loopw [3, 4, 5] (fun va vb vw wr => ∃ (g1 g2 wd : Nat) (A B : Nat → Int), va = .slice (some ⟨g1, 0, none⟩) n n ∧ vb = .slice (some ⟨g2, 0, none⟩) n n ∧ vw = .int .i64 wd ∧ 1 ≤ wd ∧ wd ≤ 2 * n + 1 ∧
      SC w wr g1 g2 n A B ∧ Runs A n wd ∧ (seg A 0 n).Perm (seg G 0 n)) (fun _ _ vw _ => 2 * n + 1 - (intOf vw).toNat)
  case atStart => exact ⟨_, _, 1, G, _, rfl, rfl, rfl, by omega, by omega, HS.out, Runs.one _ _, List.Perm.refl _⟩
  case round =>
    obtain ⟨g1, g2, wd, A, B, rfl, rfl, rfl, hwd1, hwd2, hSC, hR, hP⟩ := hrel
    clear HS
    have HR : Hid (Runs A n wd) := hR
    have HP : Hid ((seg A 0 n).Perm (seg G 0 n)) := hP
    have HS : Hid (SC w wr g1 g2 n A B) := hSC
    clear hR hP hSC
    by_cases hlt : wd < n
    · obtain ⟨wo, rfl⟩ : ∃ wo : World, wo = wr := ⟨_, rfl⟩
      go_wp2_with fail
      go_loopw [6] (fun vl wr => ∃ (t lo : Nat) (B' : Nat → Int), vl = .int .i64 lo ∧ lo = 2 * wd * t ∧ lo ≤ n + 2 * wd ∧ SC w wr g1 g2 n A B' ∧ Upto A B' wd (min lo n)) (fun vl _ => n + 2 * wd - (intOf vl).toNat)
      case atStart => exact ⟨0, 0, B, rfl, by simp, by omega, HS.out, by simpa using Upto.zero A B wd⟩
      case round =>
        obtain ⟨t, lo, B', rfl, hlo, hlo2, hSC, hU⟩ := hrel
        have HL : Hid (lo = 2 * wd * t) := hlo
        have HU : Hid (Upto A B' wd (min lo n)) := hU
        have HS : Hid (SC w wr g1 g2 n A B') := hSC
        clear hlo hU hSC
        by_cases hln : lo < n
        · obtain ⟨wo, rfl⟩ : ∃ wo : World, wo = wr := ⟨_, rfl⟩
          rcases (show lo + 2 * wd ≤ n ∨ (lo + wd ≤ n ∧ n < lo + 2 * wd) ∨ n < lo + wd from by omega) with hA | ⟨hA, hB⟩ | hA
          · obtain ⟨mid, em⟩ : ∃ mid : Nat, (lo : Int) + (wd : Int) = (mid : Int) := ⟨lo + wd, by omega⟩
            obtain ⟨hi, eh⟩ : ∃ hi : Nat, (lo : Int) + 2 * (wd : Int) = (hi : Int) := ⟨lo + 2 * wd, by omega⟩
            have hmid : mid = lo + wd := by omega
            have hhi : hi = lo + 2 * wd := by omega
            have HM1 : Hid (mid = lo + wd) := hmid
            have HM2 : Hid (hi = lo + 2 * wd) := hhi
            have hm1 : lo ≤ mid := by omega
            have hm2 : mid ≤ hi := by omega
            have hm3 : hi ≤ n := by omega
            have hm4 : mid ≤ lo + wd := by omega
            have hm5 : lo + wd ≤ mid := by omega
            have hm6 : hi ≤ lo + 2 * wd := by omega
            have hm7 : lo + 2 * wd ≤ hi := by omega
            clear hmid hhi
            have HA1 : Hid (∀ p q, lo ≤ p → p < q → q < mid → A p ≤ A q) := by have h := HR.out.left (t := t) (mid := mid) (by omega) (by rw [← HL.out]; omega) (by omega); rw [← HL.out] at h; exact h
            have HA2 : Hid (∀ p q, mid ≤ p → p < q → q < hi → A p ≤ A q) := HR.out.right (t := t) (by omega) (by rw [← HL.out]; omega) (by rw [← HL.out]; omega) (by omega)
            go_wp2_with fail
            go_loopw [9, 10, 11] (fun vi vj vk wr => ∃ (i j k : Nat) (B2 : Nat → Int), vi = .int .i64 i ∧ vj = .int .i64 j ∧ vk = .int .i64 k ∧ Mid A B2 B' lo mid hi i j k ∧ SC w wr g1 g2 n A B2) (fun vi vj _ _ => (mid - (intOf vi).toNat) + (hi - (intOf vj).toNat))
            case atStart => exact ⟨lo, mid, lo, B', rfl, rfl, rfl, Mid.start A B' (by omega) (by omega), HS.out⟩
            case round =>
              clear HS
              obtain ⟨i, j, k, B2, rfl, rfl, rfl, hM, hSC⟩ := hrel
              have HM : Hid _ := hM
              have HS : Hid _ := hSC
              have h1 := hM.li; have h2 := hM.im; have h3 := hM.mj; have h4 := hM.jh; have h5 := hM.sum
              by_cases hi1 : i < mid
              · by_cases hj1 : j < hi
                · have e1 : wr.cell? ⟨g1, i, none⟩ = some (.int .u64 (A i)) := hSC.r1.cell (by omega)
                  have e0 : wr.cell? ⟨g1, j, none⟩ = some (.int .u64 (A j)) := hSC.r1.cell (by omega)
                  have e2 : wr.cell? ⟨g2, k, none⟩ = some (.int .u64 (B2 k)) := hSC.r2.cell (by omega)
                  have e3 := hSC.r2.frozen k
                  have hk0 : (0 : Int) ≤ (i : Int) := by omega
                  have hk1 : (i : Int) < (n : Int) := by omega
                  have hk2 : (0 : Int) ≤ (j : Int) := by omega
                  have hk3 : (j : Int) < (n : Int) := by omega
                  clear hM hSC
                  go_wp2_with fail
                  go_quiet (fail)
                  go_wp2_with fail
                  · have hq : A j < A i := by assumption
                    have HQ : Hid (∀ q, i ≤ q → q < mid → A j < A q) := fun q h1 h2 => by
                      rcases Nat.lt_or_ge i q with e | e
                      · have := HA1.out i q (by omega) e h2; omega
                      · have e' : q = i := by omega
                        subst e'; exact hq
                    go_roundw
                    case rel => exact ⟨i, j + 1, k + 1, _, rfl, by go_num, by go_num, HM.out.takeR hj1 HA2.out (fun q h1 h2 => Int.le_of_lt (HQ.out q h1 h2)), (HS.out.drewN nq).store k (A j)⟩
                    case measure => simp [intOf]; omega
                  · have hq : A i ≤ A j := by assumption
                    have HQ : Hid (∀ q, j ≤ q → q < hi → A i ≤ A q) := fun q h1 h2 => by
                      rcases Nat.lt_or_ge j q with e | e
                      · have := HA2.out j q (by omega) e h2; omega
                      · have e' : q = j := by omega
                        subst e'; exact hq
                    go_roundw
                    case rel => exact ⟨i + 1, j, k + 1, _, by go_num, rfl, by go_num, HM.out.takeL hi1 HA1.out HQ.out, (HS.out.drewN nq).store k (A i)⟩
                    case measure => simp [intOf]; omega
                · have hx : i < mid → j = hi := fun _ => by omega
                  have hd : decide ((j : Int) < ((hi : Nat) : Int)) = false := by simp; omega
                  have SCD := hSC
                  clear hM hSC
                  go_wp2_with fail
                  go_loopw [9, 11] (fun vi vk wr => ∃ (i k : Nat) (B3 : Nat → Int), vi = .int .i64 i ∧ vk = .int .i64 k ∧ (i < mid → j = hi) ∧ Mid A B3 B' lo mid hi i j k ∧ SC w wr g1 g2 n A B3) (fun vi _ _ => mid - (intOf vi).toNat)
                  case atStart => exact ⟨i, k, B2, rfl, rfl, hx, HM.out, SCD⟩
                  case round =>
                    clear HM HS h1 h2 h3 h4 h5 hx
                    obtain ⟨i, k, B3, rfl, rfl, hx, hM, hSC⟩ := hrel
                    have HM : Hid _ := hM
                    have HS : Hid _ := hSC
                    have h1 := hM.li; have h2 := hM.im; have h3 := hM.mj; have h4 := hM.jh; have h5 := hM.sum
                    by_cases hi1 : i < mid
                    · have e1 : wr.cell? ⟨g1, i, none⟩ = some (.int .u64 (A i)) := hSC.r1.cell (by omega)
                      have e2 : wr.cell? ⟨g2, k, none⟩ = some (.int .u64 (B3 k)) := hSC.r2.cell (by omega)
                      have e3 := hSC.r2.frozen k
                      have hjh := hx hi1
                      clear hM hSC hx
                      go_wp2_with fail
                      go_roundw
                      case rel => exact ⟨i + 1, k + 1, _, by go_num, by go_num, fun _ => hjh, HM.out.takeL hi1 HA1.out (fun q h1 h2 => by omega), HS.out.store k (A i)⟩
                      case measure => simp [intOf]; omega
                    · have hie : i = mid := by omega
                      have HIE : Hid _ := hie
                      clear hM hSC hie hx
                      go_wp2_with fail
                      go_loopw [10, 11] (fun vj vk wr => ∃ (j k : Nat) (B4 : Nat → Int), vj = .int .i64 j ∧ vk = .int .i64 k ∧ Mid A B4 B' lo mid hi i j k ∧ SC w wr g1 g2 n A B4) (fun vj _ _ => hi - (intOf vj).toNat)
                      case atStart => exact ⟨j, k, B3, rfl, rfl, HM.out, HS.out⟩
                      case round =>
                        clear HM HS h1 h2 h3 h4 h5
                        obtain ⟨j, k, B4, rfl, rfl, hM, hSC⟩ := hrel
                        have HM : Hid _ := hM
                        have HS : Hid _ := hSC
                        have h1 := hM.li; have h2 := hM.im; have h3 := hM.mj; have h4 := hM.jh; have h5 := hM.sum
                        by_cases hj1 : j < hi
                        · have e1 : wr.cell? ⟨g1, j, none⟩ = some (.int .u64 (A j)) := hSC.r1.cell (by omega)
                          have e2 : wr.cell? ⟨g2, k, none⟩ = some (.int .u64 (B4 k)) := hSC.r2.cell (by omega)
                          have e3 := hSC.r2.frozen k
                          clear hM hSC
                          go_wp2_with fail
                          go_roundw
                          case rel => exact ⟨j + 1, k + 1, _, by go_num, by go_num, HM.out.takeR hj1 HA2.out (fun q h1 h2 => by have := HIE.out; omega), HS.out.store k (A j)⟩
                          case measure => simp [intOf]; omega
                        · have HJE : Hid (j = hi) := by show j = hi; omega
                          clear hM hSC
                          go_wp2_with fail
                          go_roundw
                          case rel =>
                            have hie := HIE.out; have hje := HJE.out; have hl := HL.out
                            have hke : k = hi := by omega
                            have hM := HM.out
                            have hU := HU.out
                            rw [Nat.min_eq_left (by omega)] at hU
                            rw [hie, hje, hke] at hM
                            refine ⟨t + 1, lo + 2 * wd, B4, by go_num, by rw [hl, Nat.mul_add, Nat.mul_one], by omega, HS.out, ?_⟩
                            rw [show min (lo + 2 * wd) n = hi by omega]
                            rw [hl] at hU hM
                            exact Upto.next (by omega) hU hM
                          case measure => simp [intOf]; omega
              · have hx : i < mid → j = hi := fun h => absurd h hi1
                have hd : decide ((i : Int) < ((mid : Nat) : Int)) = false := by simp; omega
                have SCD := hSC
                clear hM hSC
                go_wp2_with fail
                go_loopw [9, 11] (fun vi vk wr => ∃ (i k : Nat) (B3 : Nat → Int), vi = .int .i64 i ∧ vk = .int .i64 k ∧ (i < mid → j = hi) ∧ Mid A B3 B' lo mid hi i j k ∧ SC w wr g1 g2 n A B3) (fun vi _ _ => mid - (intOf vi).toNat)
                case atStart => exact ⟨i, k, B2, rfl, rfl, hx, HM.out, SCD⟩
                case round =>
                  clear HM HS h1 h2 h3 h4 h5 hx
                  obtain ⟨i, k, B3, rfl, rfl, hx, hM, hSC⟩ := hrel
                  have HM : Hid _ := hM
                  have HS : Hid _ := hSC
                  have h1 := hM.li; have h2 := hM.im; have h3 := hM.mj; have h4 := hM.jh; have h5 := hM.sum
                  by_cases hi1 : i < mid
                  · have e1 : wr.cell? ⟨g1, i, none⟩ = some (.int .u64 (A i)) := hSC.r1.cell (by omega)
                    have e2 : wr.cell? ⟨g2, k, none⟩ = some (.int .u64 (B3 k)) := hSC.r2.cell (by omega)
                    have e3 := hSC.r2.frozen k
                    have hjh := hx hi1
                    clear hM hSC hx
                    go_wp2_with fail
                    go_roundw
                    case rel => exact ⟨i + 1, k + 1, _, by go_num, by go_num, fun _ => hjh, HM.out.takeL hi1 HA1.out (fun q h1 h2 => by omega), HS.out.store k (A i)⟩
                    case measure => simp [intOf]; omega
                  · have hie : i = mid := by omega
                    have HIE : Hid _ := hie
                    clear hM hSC hie hx
                    go_wp2_with fail
                    go_loopw [10, 11] (fun vj vk wr => ∃ (j k : Nat) (B4 : Nat → Int), vj = .int .i64 j ∧ vk = .int .i64 k ∧ Mid A B4 B' lo mid hi i j k ∧ SC w wr g1 g2 n A B4) (fun vj _ _ => hi - (intOf vj).toNat)
                    case atStart => exact ⟨j, k, B3, rfl, rfl, HM.out, HS.out⟩
                    case round =>
                      clear HM HS h1 h2 h3 h4 h5
                      obtain ⟨j, k, B4, rfl, rfl, hM, hSC⟩ := hrel
                      have HM : Hid _ := hM
                      have HS : Hid _ := hSC
                      have h1 := hM.li; have h2 := hM.im; have h3 := hM.mj; have h4 := hM.jh; have h5 := hM.sum
                      by_cases hj1 : j < hi
                      · have e1 : wr.cell? ⟨g1, j, none⟩ = some (.int .u64 (A j)) := hSC.r1.cell (by omega)
                        have e2 : wr.cell? ⟨g2, k, none⟩ = some (.int .u64 (B4 k)) := hSC.r2.cell (by omega)
                        have e3 := hSC.r2.frozen k
                        clear hM hSC
                        go_wp2_with fail
                        go_roundw
                        case rel => exact ⟨j + 1, k + 1, _, by go_num, by go_num, HM.out.takeR hj1 HA2.out (fun q h1 h2 => by have := HIE.out; omega), HS.out.store k (A j)⟩
                        case measure => simp [intOf]; omega
                      · have HJE : Hid (j = hi) := by show j = hi; omega
                        clear hM hSC
                        go_wp2_with fail
                        go_roundw
                        case rel =>
                          have hie := HIE.out; have hje := HJE.out; have hl := HL.out
                          have hke : k = hi := by omega
                          have hM := HM.out
                          have hU := HU.out
                          rw [Nat.min_eq_left (by omega)] at hU
                          rw [hie, hje, hke] at hM
                          refine ⟨t + 1, lo + 2 * wd, B4, by go_num, by rw [hl, Nat.mul_add, Nat.mul_one], by omega, HS.out, ?_⟩
                          rw [show min (lo + 2 * wd) n = hi by omega]
                          rw [hl] at hU hM
                          exact Upto.next (by omega) hU hM
                        case measure => simp [intOf]; omega
          · obtain ⟨mid, em⟩ : ∃ mid : Nat, (lo : Int) + (wd : Int) = (mid : Int) := ⟨lo + wd, by omega⟩
            have hm1 : lo ≤ mid := by omega
            have hm2 : mid ≤ n := by omega
            have hm4 : mid ≤ lo + wd := by omega
            have hm5 : lo + wd ≤ mid := by omega
            have HA1 : Hid (∀ p q, lo ≤ p → p < q → q < mid → A p ≤ A q) := by have h := HR.out.left (t := t) (mid := mid) (by omega) (by rw [← HL.out]; omega) (by omega); rw [← HL.out] at h; exact h
            have HA2 : Hid (∀ p q, mid ≤ p → p < q → q < n → A p ≤ A q) := HR.out.right (t := t) (by omega) (by rw [← HL.out]; omega) (by rw [← HL.out]; omega) (by omega)
            go_wp2_with fail
            go_loopw [9, 10, 11] (fun vi vj vk wr => ∃ (i j k : Nat) (B2 : Nat → Int), vi = .int .i64 i ∧ vj = .int .i64 j ∧ vk = .int .i64 k ∧ Mid A B2 B' lo mid n i j k ∧ SC w wr g1 g2 n A B2) (fun vi vj _ _ => (mid - (intOf vi).toNat) + (n - (intOf vj).toNat))
            case atStart => exact ⟨lo, mid, lo, B', rfl, rfl, rfl, Mid.start A B' (by omega) (by omega), HS.out⟩
            case round =>
              clear HS
              obtain ⟨i, j, k, B2, rfl, rfl, rfl, hM, hSC⟩ := hrel
              have HM : Hid _ := hM
              have HS : Hid _ := hSC
              have h1 := hM.li; have h2 := hM.im; have h3 := hM.mj; have h4 := hM.jh; have h5 := hM.sum
              by_cases hi1 : i < mid
              · by_cases hj1 : j < n
                · have e1 : wr.cell? ⟨g1, i, none⟩ = some (.int .u64 (A i)) := hSC.r1.cell (by omega)
                  have e0 : wr.cell? ⟨g1, j, none⟩ = some (.int .u64 (A j)) := hSC.r1.cell (by omega)
                  have e2 : wr.cell? ⟨g2, k, none⟩ = some (.int .u64 (B2 k)) := hSC.r2.cell (by omega)
                  have e3 := hSC.r2.frozen k
                  have hk0 : (0 : Int) ≤ (i : Int) := by omega
                  have hk1 : (i : Int) < (n : Int) := by omega
                  have hk2 : (0 : Int) ≤ (j : Int) := by omega
                  have hk3 : (j : Int) < (n : Int) := by omega
                  clear hM hSC
                  go_wp2_with fail
                  go_quiet (fail)
                  go_wp2_with fail
                  · have hq : A j < A i := by assumption
                    have HQ : Hid (∀ q, i ≤ q → q < mid → A j < A q) := fun q h1 h2 => by
                      rcases Nat.lt_or_ge i q with e | e
                      · have := HA1.out i q (by omega) e h2; omega
                      · have e' : q = i := by omega
                        subst e'; exact hq
                    go_roundw
                    case rel => exact ⟨i, j + 1, k + 1, _, rfl, by go_num, by go_num, HM.out.takeR hj1 HA2.out (fun q h1 h2 => Int.le_of_lt (HQ.out q h1 h2)), (HS.out.drewN nq).store k (A j)⟩
                    case measure => simp [intOf]; omega
                  · have hq : A i ≤ A j := by assumption
                    have HQ : Hid (∀ q, j ≤ q → q < n → A i ≤ A q) := fun q h1 h2 => by
                      rcases Nat.lt_or_ge j q with e | e
                      · have := HA2.out j q (by omega) e h2; omega
                      · have e' : q = j := by omega
                        subst e'; exact hq
                    go_roundw
                    case rel => exact ⟨i + 1, j, k + 1, _, by go_num, rfl, by go_num, HM.out.takeL hi1 HA1.out HQ.out, (HS.out.drewN nq).store k (A i)⟩
                    case measure => simp [intOf]; omega
                · have hx : i < mid → j = n := fun _ => by omega
                  have hd : decide ((j : Int) < ((n : Nat) : Int)) = false := by simp; omega
                  have SCD := hSC
                  clear hM hSC
                  go_wp2_with fail
                  go_loopw [9, 11] (fun vi vk wr => ∃ (i k : Nat) (B3 : Nat → Int), vi = .int .i64 i ∧ vk = .int .i64 k ∧ (i < mid → j = n) ∧ Mid A B3 B' lo mid n i j k ∧ SC w wr g1 g2 n A B3) (fun vi _ _ => mid - (intOf vi).toNat)
                  case atStart => exact ⟨i, k, B2, rfl, rfl, hx, HM.out, SCD⟩
                  case round =>
                    clear HM HS h1 h2 h3 h4 h5 hx
                    obtain ⟨i, k, B3, rfl, rfl, hx, hM, hSC⟩ := hrel
                    have HM : Hid _ := hM
                    have HS : Hid _ := hSC
                    have h1 := hM.li; have h2 := hM.im; have h3 := hM.mj; have h4 := hM.jh; have h5 := hM.sum
                    by_cases hi1 : i < mid
                    · have e1 : wr.cell? ⟨g1, i, none⟩ = some (.int .u64 (A i)) := hSC.r1.cell (by omega)
                      have e2 : wr.cell? ⟨g2, k, none⟩ = some (.int .u64 (B3 k)) := hSC.r2.cell (by omega)
                      have e3 := hSC.r2.frozen k
                      have hjh := hx hi1
                      clear hM hSC hx
                      go_wp2_with fail
                      go_roundw
                      case rel => exact ⟨i + 1, k + 1, _, by go_num, by go_num, fun _ => hjh, HM.out.takeL hi1 HA1.out (fun q h1 h2 => by omega), HS.out.store k (A i)⟩
                      case measure => simp [intOf]; omega
                    · have hie : i = mid := by omega
                      have HIE : Hid _ := hie
                      clear hM hSC hie hx
                      go_wp2_with fail
                      go_loopw [10, 11] (fun vj vk wr => ∃ (j k : Nat) (B4 : Nat → Int), vj = .int .i64 j ∧ vk = .int .i64 k ∧ Mid A B4 B' lo mid n i j k ∧ SC w wr g1 g2 n A B4) (fun vj _ _ => n - (intOf vj).toNat)
                      case atStart => exact ⟨j, k, B3, rfl, rfl, HM.out, HS.out⟩
                      case round =>
                        clear HM HS h1 h2 h3 h4 h5
                        obtain ⟨j, k, B4, rfl, rfl, hM, hSC⟩ := hrel
                        have HM : Hid _ := hM
                        have HS : Hid _ := hSC
                        have h1 := hM.li; have h2 := hM.im; have h3 := hM.mj; have h4 := hM.jh; have h5 := hM.sum
                        by_cases hj1 : j < n
                        · have e1 : wr.cell? ⟨g1, j, none⟩ = some (.int .u64 (A j)) := hSC.r1.cell (by omega)
                          have e2 : wr.cell? ⟨g2, k, none⟩ = some (.int .u64 (B4 k)) := hSC.r2.cell (by omega)
                          have e3 := hSC.r2.frozen k
                          clear hM hSC
                          go_wp2_with fail
                          go_roundw
                          case rel => exact ⟨j + 1, k + 1, _, by go_num, by go_num, HM.out.takeR hj1 HA2.out (fun q h1 h2 => by have := HIE.out; omega), HS.out.store k (A j)⟩
                          case measure => simp [intOf]; omega
                        · have HJE : Hid (j = n) := by show j = n; omega
                          clear hM hSC
                          go_wp2_with fail
                          go_roundw
                          case rel =>
                            have hie := HIE.out; have hje := HJE.out; have hl := HL.out
                            have hke : k = n := by omega
                            have hM := HM.out
                            have hU := HU.out
                            rw [Nat.min_eq_left (by omega)] at hU
                            rw [hie, hje, hke] at hM
                            refine ⟨t + 1, lo + 2 * wd, B4, by go_num, by rw [hl, Nat.mul_add, Nat.mul_one], by omega, HS.out, ?_⟩
                            rw [show min (lo + 2 * wd) n = n by omega]
                            rw [hl] at hU hM
                            exact Upto.next (by omega) hU hM
                          case measure => simp [intOf]; omega
              · have hx : i < mid → j = n := fun h => absurd h hi1
                have hd : decide ((i : Int) < ((mid : Nat) : Int)) = false := by simp; omega
                have SCD := hSC
                clear hM hSC
                go_wp2_with fail
                go_loopw [9, 11] (fun vi vk wr => ∃ (i k : Nat) (B3 : Nat → Int), vi = .int .i64 i ∧ vk = .int .i64 k ∧ (i < mid → j = n) ∧ Mid A B3 B' lo mid n i j k ∧ SC w wr g1 g2 n A B3) (fun vi _ _ => mid - (intOf vi).toNat)
                case atStart => exact ⟨i, k, B2, rfl, rfl, hx, HM.out, SCD⟩
                case round =>
                  clear HM HS h1 h2 h3 h4 h5 hx
                  obtain ⟨i, k, B3, rfl, rfl, hx, hM, hSC⟩ := hrel
                  have HM : Hid _ := hM
                  have HS : Hid _ := hSC
                  have h1 := hM.li; have h2 := hM.im; have h3 := hM.mj; have h4 := hM.jh; have h5 := hM.sum
                  by_cases hi1 : i < mid
                  · have e1 : wr.cell? ⟨g1, i, none⟩ = some (.int .u64 (A i)) := hSC.r1.cell (by omega)
                    have e2 : wr.cell? ⟨g2, k, none⟩ = some (.int .u64 (B3 k)) := hSC.r2.cell (by omega)
                    have e3 := hSC.r2.frozen k
                    have hjh := hx hi1
                    clear hM hSC hx
                    go_wp2_with fail
                    go_roundw
                    case rel => exact ⟨i + 1, k + 1, _, by go_num, by go_num, fun _ => hjh, HM.out.takeL hi1 HA1.out (fun q h1 h2 => by omega), HS.out.store k (A i)⟩
                    case measure => simp [intOf]; omega
                  · have hie : i = mid := by omega
                    have HIE : Hid _ := hie
                    clear hM hSC hie hx
                    go_wp2_with fail
                    go_loopw [10, 11] (fun vj vk wr => ∃ (j k : Nat) (B4 : Nat → Int), vj = .int .i64 j ∧ vk = .int .i64 k ∧ Mid A B4 B' lo mid n i j k ∧ SC w wr g1 g2 n A B4) (fun vj _ _ => n - (intOf vj).toNat)
                    case atStart => exact ⟨j, k, B3, rfl, rfl, HM.out, HS.out⟩
                    case round =>
                      clear HM HS h1 h2 h3 h4 h5
                      obtain ⟨j, k, B4, rfl, rfl, hM, hSC⟩ := hrel
                      have HM : Hid _ := hM
                      have HS : Hid _ := hSC
                      have h1 := hM.li; have h2 := hM.im; have h3 := hM.mj; have h4 := hM.jh; have h5 := hM.sum
                      by_cases hj1 : j < n
                      · have e1 : wr.cell? ⟨g1, j, none⟩ = some (.int .u64 (A j)) := hSC.r1.cell (by omega)
                        have e2 : wr.cell? ⟨g2, k, none⟩ = some (.int .u64 (B4 k)) := hSC.r2.cell (by omega)
                        have e3 := hSC.r2.frozen k
                        clear hM hSC
                        go_wp2_with fail
                        go_roundw
                        case rel => exact ⟨j + 1, k + 1, _, by go_num, by go_num, HM.out.takeR hj1 HA2.out (fun q h1 h2 => by have := HIE.out; omega), HS.out.store k (A j)⟩
                        case measure => simp [intOf]; omega
                      · have HJE : Hid (j = n) := by show j = n; omega
                        clear hM hSC
                        go_wp2_with fail
                        go_roundw
                        case rel =>
                          have hie := HIE.out; have hje := HJE.out; have hl := HL.out
                          have hke : k = n := by omega
                          have hM := HM.out
                          have hU := HU.out
                          rw [Nat.min_eq_left (by omega)] at hU
                          rw [hie, hje, hke] at hM
                          refine ⟨t + 1, lo + 2 * wd, B4, by go_num, by rw [hl, Nat.mul_add, Nat.mul_one], by omega, HS.out, ?_⟩
                          rw [show min (lo + 2 * wd) n = n by omega]
                          rw [hl] at hU hM
                          exact Upto.next (by omega) hU hM
                        case measure => simp [intOf]; omega
          · have hm1 : lo ≤ n := by omega
            have HA1 : Hid (∀ p q, lo ≤ p → p < q → q < n → A p ≤ A q) := by have h := HR.out.left (t := t) (mid := n) (by omega) (by rw [← HL.out]; omega) (by omega); rw [← HL.out] at h; exact h
            have HA2 : Hid (∀ p q, n ≤ p → p < q → q < n → A p ≤ A q) := HR.out.right (t := t) (by omega) (by rw [← HL.out]; omega) (by rw [← HL.out]; omega) (by omega)
            go_wp2_with fail
            go_loopw [9, 10, 11] (fun vi vj vk wr => ∃ (i j k : Nat) (B2 : Nat → Int), vi = .int .i64 i ∧ vj = .int .i64 j ∧ vk = .int .i64 k ∧ Mid A B2 B' lo n n i j k ∧ SC w wr g1 g2 n A B2) (fun vi vj _ _ => (n - (intOf vi).toNat) + (n - (intOf vj).toNat))
            case atStart => exact ⟨lo, n, lo, B', rfl, rfl, rfl, Mid.start A B' (by omega) (by omega), HS.out⟩
            case round =>
              clear HS
              obtain ⟨i, j, k, B2, rfl, rfl, rfl, hM, hSC⟩ := hrel
              have HM : Hid _ := hM
              have HS : Hid _ := hSC
              have h1 := hM.li; have h2 := hM.im; have h3 := hM.mj; have h4 := hM.jh; have h5 := hM.sum
              by_cases hi1 : i < n
              · by_cases hj1 : j < n
                · exact absurd hj1 (by omega)
                · have hx : i < n → j = n := fun _ => by omega
                  have hd : decide ((j : Int) < ((n : Nat) : Int)) = false := by simp; omega
                  have SCD := hSC
                  clear hM hSC
                  go_wp2_with fail
                  go_loopw [9, 11] (fun vi vk wr => ∃ (i k : Nat) (B3 : Nat → Int), vi = .int .i64 i ∧ vk = .int .i64 k ∧ (i < n → j = n) ∧ Mid A B3 B' lo n n i j k ∧ SC w wr g1 g2 n A B3) (fun vi _ _ => n - (intOf vi).toNat)
                  case atStart => exact ⟨i, k, B2, rfl, rfl, hx, HM.out, SCD⟩
                  case round =>
                    clear HM HS h1 h2 h3 h4 h5 hx
                    obtain ⟨i, k, B3, rfl, rfl, hx, hM, hSC⟩ := hrel
                    have HM : Hid _ := hM
                    have HS : Hid _ := hSC
                    have h1 := hM.li; have h2 := hM.im; have h3 := hM.mj; have h4 := hM.jh; have h5 := hM.sum
                    by_cases hi1 : i < n
                    · have e1 : wr.cell? ⟨g1, i, none⟩ = some (.int .u64 (A i)) := hSC.r1.cell (by omega)
                      have e2 : wr.cell? ⟨g2, k, none⟩ = some (.int .u64 (B3 k)) := hSC.r2.cell (by omega)
                      have e3 := hSC.r2.frozen k
                      have hjh := hx hi1
                      clear hM hSC hx
                      go_wp2_with fail
                      go_roundw
                      case rel => exact ⟨i + 1, k + 1, _, by go_num, by go_num, fun _ => hjh, HM.out.takeL hi1 HA1.out (fun q h1 h2 => by omega), HS.out.store k (A i)⟩
                      case measure => simp [intOf]; omega
                    · have hie : i = n := by omega
                      have HIE : Hid _ := hie
                      clear hM hSC hie hx
                      go_wp2_with fail
                      go_loopw [10, 11] (fun vj vk wr => ∃ (j k : Nat) (B4 : Nat → Int), vj = .int .i64 j ∧ vk = .int .i64 k ∧ Mid A B4 B' lo n n i j k ∧ SC w wr g1 g2 n A B4) (fun vj _ _ => n - (intOf vj).toNat)
                      case atStart => exact ⟨j, k, B3, rfl, rfl, HM.out, HS.out⟩
                      case round =>
                        clear HM HS h1 h2 h3 h4 h5
                        obtain ⟨j, k, B4, rfl, rfl, hM, hSC⟩ := hrel
                        have HM : Hid _ := hM
                        have HS : Hid _ := hSC
                        have h1 := hM.li; have h2 := hM.im; have h3 := hM.mj; have h4 := hM.jh; have h5 := hM.sum
                        by_cases hj1 : j < n
                        · exact absurd hj1 (by omega)
                        · have HJE : Hid (j = n) := by show j = n; omega
                          clear hM hSC
                          go_wp2_with fail
                          go_roundw
                          case rel =>
                            have hie := HIE.out; have hje := HJE.out; have hl := HL.out
                            have hke : k = n := by omega
                            have hM := HM.out
                            have hU := HU.out
                            rw [Nat.min_eq_left (by omega)] at hU
                            rw [hie, hje, hke] at hM
                            refine ⟨t + 1, lo + 2 * wd, B4, by go_num, by rw [hl, Nat.mul_add, Nat.mul_one], by omega, HS.out, ?_⟩
                            rw [show min (lo + 2 * wd) n = n by omega]
                            rw [hl] at hU hM
                            exact Upto.next (by omega) hU hM
                          case measure => simp [intOf]; omega
              · have hx : i < n → j = n := fun h => absurd h hi1
                have hd : decide ((i : Int) < ((n : Nat) : Int)) = false := by simp; omega
                have SCD := hSC
                clear hM hSC
                go_wp2_with fail
                go_loopw [9, 11] (fun vi vk wr => ∃ (i k : Nat) (B3 : Nat → Int), vi = .int .i64 i ∧ vk = .int .i64 k ∧ (i < n → j = n) ∧ Mid A B3 B' lo n n i j k ∧ SC w wr g1 g2 n A B3) (fun vi _ _ => n - (intOf vi).toNat)
                case atStart => exact ⟨i, k, B2, rfl, rfl, hx, HM.out, SCD⟩
                case round =>
                  clear HM HS h1 h2 h3 h4 h5 hx
                  obtain ⟨i, k, B3, rfl, rfl, hx, hM, hSC⟩ := hrel
                  have HM : Hid _ := hM
                  have HS : Hid _ := hSC
                  have h1 := hM.li; have h2 := hM.im; have h3 := hM.mj; have h4 := hM.jh; have h5 := hM.sum
                  by_cases hi1 : i < n
                  · have e1 : wr.cell? ⟨g1, i, none⟩ = some (.int .u64 (A i)) := hSC.r1.cell (by omega)
                    have e2 : wr.cell? ⟨g2, k, none⟩ = some (.int .u64 (B3 k)) := hSC.r2.cell (by omega)
                    have e3 := hSC.r2.frozen k
                    have hjh := hx hi1
                    clear hM hSC hx
                    go_wp2_with fail
                    go_roundw
                    case rel => exact ⟨i + 1, k + 1, _, by go_num, by go_num, fun _ => hjh, HM.out.takeL hi1 HA1.out (fun q h1 h2 => by omega), HS.out.store k (A i)⟩
                    case measure => simp [intOf]; omega
                  · have hie : i = n := by omega
                    have HIE : Hid _ := hie
                    clear hM hSC hie hx
                    go_wp2_with fail
                    go_loopw [10, 11] (fun vj vk wr => ∃ (j k : Nat) (B4 : Nat → Int), vj = .int .i64 j ∧ vk = .int .i64 k ∧ Mid A B4 B' lo n n i j k ∧ SC w wr g1 g2 n A B4) (fun vj _ _ => n - (intOf vj).toNat)
                    case atStart => exact ⟨j, k, B3, rfl, rfl, HM.out, HS.out⟩
                    case round =>
                      clear HM HS h1 h2 h3 h4 h5
                      obtain ⟨j, k, B4, rfl, rfl, hM, hSC⟩ := hrel
                      have HM : Hid _ := hM
                      have HS : Hid _ := hSC
                      have h1 := hM.li; have h2 := hM.im; have h3 := hM.mj; have h4 := hM.jh; have h5 := hM.sum
                      by_cases hj1 : j < n
                      · exact absurd hj1 (by omega)
                      · have HJE : Hid (j = n) := by show j = n; omega
                        clear hM hSC
                        go_wp2_with fail
                        go_roundw
                        case rel =>
                          have hie := HIE.out; have hje := HJE.out; have hl := HL.out
                          have hke : k = n := by omega
                          have hM := HM.out
                          have hU := HU.out
                          rw [Nat.min_eq_left (by omega)] at hU
                          rw [hie, hje, hke] at hM
                          refine ⟨t + 1, lo + 2 * wd, B4, by go_num, by rw [hl, Nat.mul_add, Nat.mul_one], by omega, HS.out, ?_⟩
                          rw [show min (lo + 2 * wd) n = n by omega]
                          rw [hl] at hU hM
                          exact Upto.next (by omega) hU hM
                        case measure => simp [intOf]; omega
        · have HE : Hid (Upto A B' wd n) := by have h := HU.out; rw [Nat.min_eq_right (by omega)] at h; exact h
          go_wp2_with fail
          go_roundw
          case rel => exact ⟨g2, g1, wd * 2, B', A, rfl, rfl, by go_num, by omega, by omega, HS.out.swap, Runs.double HE.out, HE.out.perm.trans HP.out⟩
          case measure => simp [intOf]; omega
    · go_wp2_with fail
      go_ret
      exact ⟨g1, g2, A, B, rfl, HS.out, HP.out, HR.out.whole (by omega)⟩
end Go.Proofs.Qxb6615150aFmt
