import Derived.RangeFuncBox
import Derived.RangeFuncLeaves
import Derived.Shelf.Abstract
import Derived.WalkKit
import Derived.OwnWalkIn
import Derived.TacticsInMore
import Derived.LoopNIn
import Derived.LoopIn
import Derived.Maps.AppendAt
import Derived.Test.Qxb6615150aFmtRows
namespace Go.Proofs.Qxb6615150aFmt
open Go.RowKit Go.Shelf

attribute [local go_sem] Oper.semAt_some

/-- The slice at 'ao' holds the numbers zs, in a block below n₀ (or there are none). -/
def Rowed (n₀ : Nat) (W : World) (ao : Option Addr) (zs : List Int) : Prop :=
  zs = [] ∨ ∃ b off, ao = some ⟨b, off, none⟩ ∧ b < n₀ ∧ ∀ j, j < zs.length → W.cell? ⟨b, off + j, none⟩ = some (.int .u64 (zs[j]?.getD 0))
theorem Rowed.below {n₀ : Nat} {A B : World} (h : Below n₀ A B) {ao : Option Addr} {zs : List Int} : Rowed n₀ A ao zs → Rowed n₀ B ao zs
  | .inl e => .inl e
  | .inr ⟨b, off, e, hb, hc⟩ => .inr ⟨b, off, e, hb, fun j hj => (h.cell (p := ⟨b, off + j, none⟩) hb).trans (hc j hj)⟩
theorem Rowed.mono {n m : Nat} {A : World} {ao : Option Addr} {zs : List Int} (hnm : n ≤ m) : Rowed n A ao zs → Rowed m A ao zs
  | .inl e => .inl e
  | .inr ⟨b, off, e, hb, hc⟩ => .inr ⟨b, off, e, Nat.lt_of_lt_of_le hb hnm, hc⟩

/-- What has come when k rounds are over. -/
def upto (zs : List Int) (k : Nat) : List Int := (List.range k).map fun j => zs[j]?.getD 0
theorem upto_succ (zs : List Int) (k : Nat) : upto zs (k + 1) = upto zs k ++ [zs[k]?.getD 0] := by simp [upto, List.range_succ]
theorem upto_length (zs : List Int) (k : Nat) : (upto zs k).length = k := by simp [upto]
theorem upto_all (zs : List Int) : upto zs zs.length = zs := by
  apply List.ext_getElem
  · simp [upto]
  · intro i h1 h2
    simp [upto, h2]

set_option maxRecDepth 100000 in
set_option maxHeartbeats 2000000 in
theorem values1_in (F : Fence) (n : Nat) (h7 : F.fn 53) (hro : F.round = none) (hn : 1 ≤ n) (l Bs n₀ : Nat) (ao : Option Addr) (cap : Nat) (zs : List Int) (hreach : zs.length ≤ 4000000) (J Jx : List Int → World → Prop)
    (hY : ∀ pre x W, J pre W → pre.length < zs.length → YieldAt F (n - 1) Tryf.prog l #[.int .u64 x] W fun e W' =>
      (e = .returned (.bool true) ∧ J (pre ++ [x]) W' ∧ Below n₀ W W') ∨ (e = .returned (.bool false) ∧ Jx (pre ++ [x]) W'))
    (W : World) (hBs : W.cell? ⟨Bs, 0, none⟩ = some (.slice ao zs.length cap)) (hc : Rowed n₀ W ao zs) (h0 : J [] W) :
    CallsIn F n Tryf.prog 53 #[.func (.yield l) #[] #[], .pointer (some ⟨Bs, 0, none⟩)] W fun e W' => (∃ v, e = .returned v) ∧
      ((∃ ys, ys = zs ∧ J ys W') ∨ (∃ pre, True ∧ Jx pre W')) := by
  refine callsIn_of_wp Tryf.func53 rfl h7 ?_ hro
  simp only [Tryf.ntmps53, List.size_toArray, List.length_cons, List.length_nil, Nat.reduceAdd, Nat.reduceSub, Array.replicate_succ, Array.replicate_zero, List.push_toArray, List.append_toArray, List.nil_append, List.cons_append]
  gi_wp2
  gi_loopw [7] (fun i wr => ∃ k : Nat, k ≤ zs.length ∧ i = .int .i64 k ∧ J (upto zs k) wr ∧ Below n₀ W wr)
    (fun i _ => zs.length - (intOf i).toNat)
  case atStart => exact ⟨0, Nat.zero_le _, rfl, h0, Below.refl _ _⟩
  case round =>
    obtain ⟨k, hk, rfl, hJs, hnx⟩ := hrel
    by_cases hlt : k < zs.length
    · rcases hc with rfl | ⟨b, off, rfl, hb, hcs⟩
      · simp at hlt
      have hcx' : wr.cell? ⟨b, off + k, none⟩ = some (.int .u64 (zs[k]?.getD 0)) := (hnx.cell (p := ⟨b, off + k, none⟩) hb).trans (hcs k hlt)
      have HU : Hid (upto zs (k + 1) = upto zs k ++ [zs[k]?.getD 0]) := upto_succ zs k
      generalize zs[k]?.getD 0 = z at hcx' HU
      obtain ⟨fn, tmps, assign, body, hy, hR⟩ := hY _ z wr hJs (by rw [upto_length]; exact hlt)
      gi_wp2
      refine hR.mono ?_
      rintro e W3 (⟨rfl, hJ3, hk3⟩ | ⟨rfl, hJx3⟩)
      · gi_wp2
        go_roundw
        case rel => exact ⟨k + 1, by omega, by simp, by rw [HU.out]; exact hJ3, hnx.trans hk3⟩
        case measure => simp [intOf]; omega
      · gi_wp2
        refine bodyPost_ret (results_none rfl _ _ _) rfl ?_
        exact ⟨⟨_, rfl⟩, .inr ⟨_, trivial, hJx3⟩⟩
    · obtain rfl : k = zs.length := by omega
      gi_wp2
      go_end0
      exact ⟨⟨_, rfl⟩, .inl ⟨_, upto_all zs, hJs⟩⟩
set_option maxRecDepth 100000 in
set_option maxHeartbeats 2000000 in
theorem values1s_in (F : Fence) (n : Nat) (h7 : F.fn 55) (hro : F.round = none) (hn : 1 ≤ n) (l Bs n₀ : Nat) (ao : Option Addr) (cap : Nat) (zs : List Int) (hreach : zs.length ≤ 4000000) (J Jx : List Int → World → Prop)
    (hY : ∀ pre x W, J pre W → pre.length < zs.length → YieldAt F (n - 1) Tryf.prog l #[.int .u64 x] W fun e W' =>
      (e = .returned (.bool true) ∧ J (pre ++ [x]) W' ∧ Below n₀ W W') ∨ (e = .returned (.bool false) ∧ Jx (pre ++ [x]) W'))
    (W : World) (hBs : W.cell? ⟨Bs, 0, none⟩ = some (.slice ao zs.length cap)) (hc : Rowed n₀ W ao zs) (h0 : J [] W) :
    CallsIn F n Tryf.prog 55 #[.func (.yield l) #[] #[], .pointer (some ⟨Bs, 0, none⟩)] W fun e W' => (∃ v, e = .returned v) ∧
      ((∃ ys, ys = zs ∧ J ys W') ∨ (∃ pre, True ∧ Jx pre W')) := by
  refine callsIn_of_wp Tryf.func55 rfl h7 ?_ hro
  simp only [Tryf.ntmps55, List.size_toArray, List.length_cons, List.length_nil, Nat.reduceAdd, Nat.reduceSub, Array.replicate_succ, Array.replicate_zero, List.push_toArray, List.append_toArray, List.nil_append, List.cons_append]
  gi_wp2
  gi_loopw [7] (fun i wr => ∃ k : Nat, k ≤ zs.length ∧ i = .int .i64 k ∧ J (upto zs k) wr ∧ Below n₀ W wr)
    (fun i _ => zs.length - (intOf i).toNat)
  case atStart => exact ⟨0, Nat.zero_le _, rfl, h0, Below.refl _ _⟩
  case round =>
    obtain ⟨k, hk, rfl, hJs, hnx⟩ := hrel
    by_cases hlt : k < zs.length
    · rcases hc with rfl | ⟨b, off, rfl, hb, hcs⟩
      · simp at hlt
      have hcx' : wr.cell? ⟨b, off + k, none⟩ = some (.int .u64 (zs[k]?.getD 0)) := (hnx.cell (p := ⟨b, off + k, none⟩) hb).trans (hcs k hlt)
      have HU : Hid (upto zs (k + 1) = upto zs k ++ [zs[k]?.getD 0]) := upto_succ zs k
      generalize zs[k]?.getD 0 = z at hcx' HU
      obtain ⟨fn, tmps, assign, body, hy, hR⟩ := hY _ z wr hJs (by rw [upto_length]; exact hlt)
      gi_wp2
      refine hR.mono ?_
      rintro e W3 (⟨rfl, hJ3, hk3⟩ | ⟨rfl, hJx3⟩)
      · gi_wp2
        go_roundw
        case rel => exact ⟨k + 1, by omega, by simp, by rw [HU.out]; exact hJ3, hnx.trans hk3⟩
        case measure => simp [intOf]; omega
      · gi_wp2
        refine bodyPost_ret (results_none rfl _ _ _) rfl ?_
        exact ⟨⟨_, rfl⟩, .inr ⟨_, trivial, hJx3⟩⟩
    · obtain rfl : k = zs.length := by omega
      gi_wp2
      go_end0
      exact ⟨⟨_, rfl⟩, .inl ⟨_, upto_all zs, hJs⟩⟩

theorem values_in (F : Fence) (n : Nat) (h5 : F.fn 38) (hro : F.round = none) (a : Option Addr) (len cap : Nat) (w : World) :
    CallsIn F n Tryf.prog 38 #[.slice a len cap] w fun e w' => e = .returned (.func (.func 53) #[] #[.pointer (some ⟨w.heap.size, 0, none⟩)]) ∧ w' = w.alloc (.cells #[.slice a len cap] 22) := by
  refine callsIn_of_wp Tryf.func38 rfl h5 ?_ hro
  simp only [Tryf.ntmps38, List.size_toArray, List.length_cons, List.length_nil, Nat.reduceAdd, Nat.reduceSub, Array.replicate_succ, Array.replicate_zero, List.push_toArray, List.append_toArray, List.nil_append, List.cons_append]
  gi_wp2
  go_ret
  exact ⟨rfl, rfl⟩

theorem valuess_in (F : Fence) (n : Nat) (h5 : F.fn 43) (hro : F.round = none) (a : Option Addr) (len cap : Nat) (w : World) :
    CallsIn F n Tryf.prog 43 #[.slice a len cap] w fun e w' => e = .returned (.func (.func 55) #[] #[.pointer (some ⟨w.heap.size, 0, none⟩)]) ∧ w' = w.alloc (.cells #[.slice a len cap] 25) := by
  refine callsIn_of_wp Tryf.func43 rfl h5 ?_ hro
  simp only [Tryf.ntmps43, List.size_toArray, List.length_cons, List.length_nil, Nat.reduceAdd, Nat.reduceSub, Array.replicate_succ, Array.replicate_zero, List.push_toArray, List.append_toArray, List.nil_append, List.cons_append]
  gi_wp2
  go_ret
  exact ⟨rfl, rfl⟩

theorem values_stops (F : Fence) (n : Nat) (h7 : F.fn 53) (hro : F.round = none) (hn : 1 ≤ n) (Bs n₀ : Nat) (ao : Option Addr) (cap : Nat) (zs : List Int) (hreach : zs.length ≤ 4000000) (w : World) (hBs : Bs < w.heap.size) (hn₀ : n₀ ≤ w.heap.size)
    (hc : w.cell? ⟨Bs, 0, none⟩ = some (.slice ao zs.length cap)) (hI : Rowed n₀ w ao zs) :
    SeqStopsK F n Tryf.prog 53 #[.pointer (some ⟨Bs, 0, none⟩)] (fun x : Int => #[Value.int .u64 x]) (Below n₀) (fun ys => ys = zs) (fun _ => True) zs.length w := fun l J Jx W hW _ _ hY h0 =>
  values1_in F n h7 hro hn l Bs n₀ ao cap zs hreach J Jx hY W ((hW.cell (p := ⟨Bs, 0, none⟩) hBs).trans hc) (hI.below (hW.mono hn₀)) h0

theorem valuess_stops (F : Fence) (n : Nat) (h7 : F.fn 55) (hro : F.round = none) (hn : 1 ≤ n) (Bs n₀ : Nat) (ao : Option Addr) (cap : Nat) (zs : List Int) (hreach : zs.length ≤ 4000000) (w : World) (hBs : Bs < w.heap.size) (hn₀ : n₀ ≤ w.heap.size)
    (hc : w.cell? ⟨Bs, 0, none⟩ = some (.slice ao zs.length cap)) (hI : Rowed n₀ w ao zs) :
    SeqStopsK F n Tryf.prog 55 #[.pointer (some ⟨Bs, 0, none⟩)] (fun x : Int => #[Value.int .u64 x]) (Below n₀) (fun ys => ys = zs) (fun _ => True) zs.length w := fun l J Jx W hW _ _ hY h0 =>
  values1s_in F n h7 hro hn l Bs n₀ ao cap zs hreach J Jx hY W ((hW.cell (p := ⟨Bs, 0, none⟩) hBs).trans hc) (hI.below (hW.mono hn₀)) h0

theorem Tryf.info43 : (Tryf.prog.info? 43).map (fun i => (i.zero, i.size, i.bytes)) = some (some (.int .u64 0), 1, 8) := by kernel_rfl

set_option maxRecDepth 100000 in
set_option maxHeartbeats 2000000 in
/-- slices.AppendSeq(nil, seq). -/
theorem appendSeq_in (F : Fence) (n : Nat) (h60 : F.fn 60) (hro : F.round = none) (hn : 3 ≤ n) (gf : Nat) (lb : Array Value) (hFg : F.fn gf) (eg : ∀ args w, (callFunc gf args).run Tryf.prog w = .ok (.enter gf args) w)
    (zs : List Int) (hlen : zs.length ≤ 4000000) (n₀ : Nat) (w : World) (hn₀ : n₀ ≤ w.heap.size)
    (hseq : SeqStopsK F (n - 1) Tryf.prog gf lb (fun x : Int => #[Value.int .u64 x]) (Below n₀) (fun ys => ys = zs) (fun _ => True) zs.length w) :
    CallsIn F n Tryf.prog 60 #[.slice none 0 0, .func (.func gf) #[] lb] w fun e W' => ∃ v, e = .returned v ∧ W'.ownsRow w.heap.size 43 1 v zs.length (zs.map (Value.int .u64)) ∧ (v = .slice none 0 0 ↔ zs = []) ∧ Below w.heap.size w W' := by
  have h1 : 1 ≤ n := by omega
  obtain ⟨i0, hi, hz0, hz1, hz2⟩ := info_parts Tryf.info43
  refine callsIn_of_wp_marks Tryf.func60 rfl h60 ?_ hro
  simp only [Tryf.ntmps60, List.size_toArray, List.length_cons, List.length_nil, Nat.reduceAdd, Nat.reduceSub, Array.replicate_succ, Array.replicate_zero, List.push_toArray, List.append_toArray, List.nil_append, List.cons_append]
  gi_wp2
  have bO := Boxed.new w 22 (.slice none 0 0)
  have hB0 : Below w.heap.size w (w.alloc (.cells #[.slice none 0 0] 22)) := (Below.refl _ w).alloc (Nat.le_refl _) _
  refine wpIn_rangeFunc_ownG hro h1 (gf := gf) (lb := lb) rfl hFg eg hseq belowK_t (belowK_b (by simp; omega)) hB0 (fun _ => rfl)
    (fun pre W => (∃ v, Boxed W w.heap.size 22 v ∧ W.ownsRow w.heap.size 43 1 v pre.length (pre.map (Value.int .u64)) ∧ (v = .slice none 0 0 ↔ pre = [])) ∧ Below w.heap.size w W)
    (fun _ _ _ => False)
    (OwnFrom.and (Own.from (holdsRow_own w.heap.size w.heap.size 22 43 1 (fun pre => pre.length) (fun pre => pre.map (Value.int .u64)) (fun pre v => v = .slice none 0 0 ↔ pre = [])) _) (ownFrom_below (Nat.le_refl _) (by simp)))
    (fun _ _ _ _ _ hs _ _ => hs)
    ⟨⟨_, bO, World.ownsRow_nil _ _ _ _, by simp⟩, hB0⟩
    (fun x => { tmps := #[.slice none 0 0, .func (.func gf) #[] lb, .pointer (some ⟨w.heap.size, 0, none⟩), undef, .slice none 0 0, .int .u64 x, .func (.func gf) #[] lb, .int .u64 x, undef, undef, undef, undef, undef], defers := [] }) ?assign ?body ?done ?stop
  case assign =>
    intro l x W K hK
    gi_wp2
    exact hK
  case body =>
    rintro l pre x W ⟨⟨v, hv, hrow, hnil⟩, hB⟩ hlt
    have hc := hv.cell
    gi_wp2_with (gi_at_builtin; refine wpListIn_append_own _ rfl _ _ 22 rfl w.heap.size 43 i0 (.int .u64 0) 1 8 Tryf.underlying22 hi hz0 hz1 hz2 rfl (by decide) _ _ _ rfl (hrow.alloc _) ⟨W.heap.size, 0, none⟩ 1 1 [.int .u64 x] rfl rfl (cell_one_new _ _ _) (by simp [Value.oneCell']) (by unfold maxLen; omega) (by omega) (by have := hB.size; simp; omega) ?_; intro v' w1 hown' hgrow _; obtain ⟨g', cap', rfl⟩ := ownsRow_succ hown'; obtain ⟨hv1, hv2, hr2, hk2, hb2⟩ := hv.appended (by decide) hrow hB.size (Nat.le_refl _) hown' hgrow; have hc1 := hv1.cell; have hf1 := hv1.frozen)
    exact ⟨hk2.from _, hb2.mono hn₀, ⟨_, hv2, by simpa using hr2, by simp⟩, hB.trans hb2⟩
  case done =>
    rintro D ys W hD rfl ⟨⟨v, hv, hrow, hnil⟩, hB⟩ hK
    have hc := hv.cell
    gi_wp2
    refine ⟨by simp, .inl ⟨_, _, rfl, run_takeDeferred hK, ?_⟩⟩
    exact ⟨_, results_tmp rfl _ _ _, v, rfl, ownsRow_putObj hrow _ hK rfl, hnil, hB.trans (belowK_b (w := w) (Nat.le_refl _) W D _ _ (by simp at hD; omega) hK rfl rfl)⟩
  case stop =>
    rintro D c pre W _ _ h _
    exact h.elim
end Go.Proofs.Qxb6615150aFmt
