import Derived.Test.Qxb6615150aFmtConcat
import Derived.Test.Qxb6615150aFmtCompact
namespace Go.Proofs.Qxb6615150aFmt
open Go.RowKit

theorem make_own (w : World) (N : Nat) (hN : N ≤ 4000000) : ∃ w1, (Instr.makeSlice 22 (.int .i64 0) (.int .i64 (N : Int))).run Tryf.prog w = .ok (.slice (some ⟨w.heap.size, 0, none⟩) 0 N) w1 ∧
    w1.ownsRow w.heap.size 43 1 (.slice (some ⟨w.heap.size, 0, none⟩) 0 N) 0 (([] : List Int).map (Value.int .u64)) ∧ Below w.heap.size w w1 := by
  obtain ⟨i0, hi, hz0, hz1, hz2⟩ := info_parts Tryf.info43
  obtain ⟨w', hrun, r1, r2⟩ := run_make_own (P := Tryf.prog) w w.heap.size 22 43 i0 (.int .u64 0) 1 Tryf.underlying22 hi hz0 hz1 .i64 .i64 N (by rw [hz2]; omega) (by unfold maxLen; omega) (Nat.le_refl _)
  exact ⟨w', hrun, r1, (Below.refl _ w).grown r2 (Nat.le_refl _) (fun k e => by cases e)⟩

/-- 'append(v, x)', v the call's own. -/
theorem append_one (t ty : TypeId) (ht : Tryf.prog.underlying t = some (.slice 43)) (base : Nat) (w : World) (hbase : base ≤ w.heap.size) (v : Value) (xs : List Int) (hown : w.ownsRow base 43 1 v xs.length (xs.map (Value.int .u64))) (x : Int) (hl : xs.length < 4000000) :
    ∃ v' w', (Builtin.append_ #[t, t] ty #[v, .slice (some ⟨w.heap.size, 0, none⟩) 1 1]).run Tryf.prog (w.alloc (.cells #[.int .u64 x] 43)) = .ok v' w' ∧ w'.ownsRow base 43 1 v' (xs ++ [x]).length ((xs ++ [x]).map (Value.int .u64)) ∧ ∀ w0, Below base w0 w → Below base w0 w' := by
  obtain ⟨v', w', h1, h2, h3⟩ := append_run t ty ht base (w.alloc (.cells #[.int .u64 x] 43)) (by simp; omega) v xs (hown.alloc _) (fun _ => True) (.slice (some ⟨w.heap.size, 0, none⟩) 1 1) [x]
    (.inr ⟨w.heap.size, 0, 1, rfl, Nat.le_refl _, trivial, by simp, fun j hj => by obtain rfl : j = 0 := (by simp at hj; omega); simp [go_sem, gl]⟩) (by simp; omega)
  exact ⟨v', w', h1, h2, fun w0 hb => (hb.alloc hbase _).grown h3 (by simp; omega) (fun k e => (hown.lt k e).1)⟩

set_option maxRecDepth 100000 in
set_option maxHeartbeats 1000000 in
theorem unionSorted_any (p : Nat → Prop) (x y z : Value) (xs ys zs : List Int) (w : World) (hl : xs.length + ys.length + zs.length ≤ 500000) (hx : Lst p w x xs) (hy : Lst p w y ys) (hz : Lst p w z zs) :
    Calls Tryf.prog 13 #[x, y, z] w fun e w' => ∃ v, e = .returned v ∧ Lst (w.heap.size ≤ ·) w' v (dl (gl (srt (xs ++ ys ++ zs))) (xs ++ ys ++ zs).length) ∧ Below w.heap.size w w' := by
  obtain ⟨ax, cx, ex, _, _⟩ := hx.open
  obtain ⟨ay, cy, ey, _, _⟩ := hy.open
  obtain ⟨az, cz, ez, _, _⟩ := hz.open
  obtain ⟨w1, hmk, hown0, hB1⟩ := make_own w (xs.length + ys.length + zs.length) (by omega)
  have hcast : ((xs.length + ys.length + zs.length : Nat) : Int) = (xs.length : Int) + (ys.length : Int) + (zs.length : Int) := by omega
  rw [hcast] at hmk
  obtain ⟨v1, w2, hr1, hown1, hgb1⟩ := append_run 22 22 Tryf.underlying22 w.heap.size w1 hB1.size _ [] hown0 p x xs (hx.below hB1) (by simp; omega)
  have hB2 : Below w.heap.size w w2 := hB1.grown hgb1 hB1.size (fun k e => (hown0.lt k e).1)
  obtain ⟨v2, w3, hr2, hown2, hgb2⟩ := append_run 22 22 Tryf.underlying22 w.heap.size w2 hB2.size v1 ([] ++ xs) hown1 p y ys (hy.below hB2) (by simp; omega)
  have hB3 : Below w.heap.size w w3 := hB2.grown hgb2 hB2.size (fun k e => (hown1.lt k e).1)
  obtain ⟨v3, w4, hr3, hown3, hgb3⟩ := append_run 22 22 Tryf.underlying22 w.heap.size w3 hB3.size v2 ([] ++ xs ++ ys) hown2 p z zs (hz.below hB3) (by simp; omega)
  have hB4 : Below w.heap.size w w4 := hB3.grown hgb3 hB3.size (fun k e => (hown2.lt k e).1)
  obtain ⟨us, hus⟩ : ∃ us, us = xs ++ ys ++ zs := ⟨_, rfl⟩
  have hul : us.length ≤ 500000 := by rw [hus]; simp; omega
  rw [← hus]
  have hsc := sortedCopy_any _ v3 us w4 (by omega) (by rw [hus]; simpa using Lst.of_owns hown3)
  rw [ex] at hr1
  rw [ey] at hr2
  rw [ez] at hr3
  subst ex ey ez
  have H4 : Hid (Below w.heap.size w w4) := hB4
  clear hx hy hz hB1 hown1 hgb1 hB2 hown2 hgb2 hB3 hown3 hgb3 hB4 hcast hus hown0
  obtain ⟨G, hGe⟩ : ∃ G, G = gl (srt us) := ⟨_, rfl⟩
  rw [← hGe]
  have HGe : Hid (G = gl (srt us)) := hGe
  clear hGe
  go_enter Tryf.func13, Tryf.ntmps13
  go_wp2_with (at_builtin; first | refine wpList_append_run rfl _ _ 22 22 rfl hr1 ?_ | refine wpList_append_run rfl _ _ 22 22 rfl hr2 ?_ | refine wpList_append_run rfl _ _ 22 22 rfl hr3 ?_)
  refine hsc.mono ?_
  clear hsc hr1 hr2 hr3 hmk
  rintro e w5 ⟨vs, rfl, hs, hB5⟩
  have hBs : Below w.heap.size w w5 := H4.out.trans (hB5.mono H4.out.size)
  obtain ⟨ad, cs, rfl, hG, _⟩ := hs.open
  rw [srt_length] at hG ⊢
  obtain ⟨w6, hmk, hown, hB6⟩ := make_own w5 us.length (by omega)
  rw [← HGe.out] at hG
  have H1 : Hid (w6.ownsRow w5.heap.size 43 1 (.slice (some ⟨w5.heap.size, 0, none⟩) 0 us.length) (dl G 0).length ((dl G 0).map (Value.int .u64))) := hown
  have H3 : Hid (Below w5.heap.size w5 w6) := hB6
  have HW : Hid (Below w.heap.size w w5) := hBs
  have hsz : w.heap.size ≤ w5.heap.size := hBs.size
  clear hs hB5 hBs hown hB6 HGe H4
  go_wp2_with fail
  clear hmk
  go_loopw [9, 10] (fun vo vi wr => ∃ (k : Nat), k ≤ us.length ∧ vi = .int .i64 k ∧ wr.ownsRow w5.heap.size 43 1 vo (dl G k).length ((dl G k).map (Value.int .u64)) ∧ Below w5.heap.size w5 wr) (fun _ vi _ => us.length - (intOf vi).toNat)
  case atStart => exact ⟨0, by omega, rfl, H1.out, H3.out⟩
  case round =>
    clear H1 H3
    obtain ⟨k, hk, rfl, hown, hB⟩ := hrel
    by_cases hlt : k < us.length
    · rcases hG.below hB with h0 | ⟨b, off, rfl, hb, hc⟩
      · omega
      have e1 := hc k hlt
      have hk1 : (k : Int) < (us.length : Int) := by omega
      have hdl := dl_length G k
      by_cases hk0 : k = 0
      · subst hk0
        rw [Nat.add_zero] at e1
        have hap := fun q => append_one 22 22 Tryf.underlying22 w5.heap.size (wr.drewN q) hB.size _ _ hown (G 0) (by omega)
        have HD : Hid (dl G (0 + 1) = dl G 0 ++ [G 0]) := dl_take (.inl rfl)
        have HB : Hid (Below w5.heap.size w5 wr) := hB
        clear hc hown hB
        go_wp2_with fail
        go_quiet (fail)
        obtain ⟨v', w', hr, hown', hBk⟩ := hap nq
        have H5 : Hid (w'.ownsRow w5.heap.size 43 1 v' _ _ ∧ Below w5.heap.size w5 w') := And.intro hown' (hBk w5 (below_drewN HB.out nq))
        clear hown' hBk hap
        go_wp2_with (at_builtin; refine wpList_append_run rfl _ _ 22 22 rfl hr ?_)
        go_roundw
        case rel => exact ⟨0 + 1, by omega, by go_num, by rw [HD.out]; exact H5.out.1, H5.out.2⟩
        case measure => simp [intOf]; omega
      · have hd : ((k : Int) == 0) = false := by simp; omega
        obtain ⟨r, rfl⟩ : ∃ r, k = r + 1 := ⟨k - 1, by omega⟩
        have hd' : ((r : Int) + 1 == 0) = false := by simp; omega
        have e2 := hc r (by omega)
        have hr0 : (0 : Int) ≤ (r : Int) := by omega
        have hr1 : (r : Int) < (us.length : Int) := by omega
        by_cases hq : G (r + 1) = G r
        · have hbq : (G (r + 1) != G r) = false := by simpa using hq
          have HD : Hid (dl G (r + 1 + 1) = dl G (r + 1)) := dl_skip (by omega) hq
          have H5 : Hid (wr.ownsRow w5.heap.size 43 1 u9 _ _ ∧ Below w5.heap.size w5 wr) := And.intro hown hB
          clear hc hown hB hq
          go_wp2_with fail
          go_quiet (fail)
          go_wp2_with fail
          go_roundw
          case rel => exact ⟨r + 1 + 1, by omega, by go_num, by rw [HD.out]; exact H5.out.1, below_drewN H5.out.2 _⟩
          case measure => simp [intOf]; omega
        · have hbq : (G (r + 1) != G r) = true := by simpa using hq
          have hap := fun q => append_one 22 22 Tryf.underlying22 w5.heap.size (wr.drewN q) hB.size _ _ hown (G (r + 1)) (by omega)
          have HD : Hid (dl G (r + 1 + 1) = dl G (r + 1) ++ [G (r + 1)]) := dl_take (.inr hq)
          have HB : Hid (Below w5.heap.size w5 wr) := hB
          clear hc hown hB hq
          go_wp2_with fail
          go_quiet (fail)
          obtain ⟨v', w', hr, hown', hBk⟩ := hap nq
          have H5 : Hid (w'.ownsRow w5.heap.size 43 1 v' _ _ ∧ Below w5.heap.size w5 w') := And.intro hown' (hBk w5 (below_drewN HB.out nq))
          clear hown' hBk hap
          go_wp2_with (at_builtin; refine wpList_append_run rfl _ _ 22 22 rfl hr ?_)
          go_roundw
          case rel => exact ⟨r + 1 + 1, by omega, by go_num, by rw [HD.out]; exact H5.out.1, H5.out.2⟩
          case measure => simp [intOf]; omega
    · have hd : decide ((k : Int) < (us.length : Int)) = false := by simp; omega
      obtain rfl : k = us.length := by omega
      have H5 : Hid (wr.ownsRow w5.heap.size 43 1 u9 _ _ ∧ Below w5.heap.size w5 wr) := And.intro hown hB
      clear hown hB
      go_wp2_with fail
      go_ret
      exact ⟨_, rfl, (Lst.of_owns H5.out.1).mono (fun b h => Nat.le_trans hsz h), HW.out.trans (H5.out.2.mono hsz)⟩
end Go.Proofs.Qxb6615150aFmt
