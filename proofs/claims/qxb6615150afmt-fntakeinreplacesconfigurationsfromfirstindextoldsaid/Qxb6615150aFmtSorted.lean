import Derived.Test.Qxb6615150aFmtSeq
import Derived.Test.Qxb6615150aFmtSrtS
namespace Go.Proofs.Qxb6615150aFmt
open Go.RowKit

/-- The numbers ascending. -/
def srt (zs : List Int) : List Int := zs.mergeSort fun x y => decide (x ≤ y)
theorem srt_length (zs : List Int) : (srt zs).length = zs.length := by unfold srt; simp

section
open Go.Sort (Holds grow putRow putCells heap_grow_old mapBlock onCells)
theorem holds_blockU {w : World} {g : Nat} {cur : Array Value} {e : TypeId} {ss : List Int} (hb : w.heap[g]? = some (.cells cur e (0, 0))) (ht : cur.toList.take ss.length = ss.map (Value.int .u64)) : Holds (Value.int .u64) w g 0 ss.toArray := by
  intro j hj
  have hj' : j < ss.length := by simpa using hj
  refine ⟨?_, by simp [World.frozen?, hb]⟩
  have h1 : (cur.toList.take ss.length)[j]? = (ss.map (Value.int .u64))[j]? := by rw [ht]
  rw [List.getElem?_take_of_lt hj'] at h1
  simp [World.cell?, hb, hj'] at h1 ⊢
  exact h1

theorem heap_sortU {w : World} {g n : Nat} {os : Array Obj} {cur : Array Value} {e : TypeId} {fr : Nat × Nat} (d : Array Int) (hb : w.heap[g]? = some (.cells cur e fr)) :
    (grow (putRow (Value.int .u64) (Go.Sort.ahead w n) g 0 d) os).heap[g]? = some (.cells (putCells (Value.int .u64) 0 d cur) e fr) := by
  have hg : g < w.heap.size := (Array.getElem?_eq_some_iff.1 hb).1
  rw [heap_grow_old _ _ (by simpa using hg)]
  simp [putRow, mapBlock, Go.Sort.ahead, Array.getElem?_modify, hb, onCells]

theorem grownBy_sortU {w : World} {g n : Nat} {os : Array Obj} (d : Array Int) : w.grownBy (grow (putRow (Value.int .u64) (Go.Sort.ahead w n) g 0 d) os) (some g) := by
  refine ⟨rfl, rfl, rfl, by simp, fun k hk hne => ?_⟩
  rw [heap_grow_old _ _ (by simpa using hk)]
  have : g ≠ k := fun e => hne (by rw [e])
  simp [putRow, mapBlock, Go.Sort.ahead, Array.getElem?_modify, this]

theorem take_putU (cur : Array Value) (ts : List Int) (h : ts.length ≤ cur.size) : (putCells (Value.int .u64) 0 ts.toArray cur).toList.take ts.length = ts.map (Value.int .u64) := by
  apply List.ext_getElem?
  intro j
  by_cases hj : j < ts.length
  · rw [List.getElem?_take_of_lt hj, Array.getElem?_toList]
    simp [putCells, hj, show j < cur.size by omega]
  · simp [hj]; omega

theorem ownsRow_sortU {w : World} {base g cap n : Nat} {e : TypeId} {os : Array Obj} {cur : Array Value} {ss ts : List Int} (hl : ts.length = ss.length) (hbase : base ≤ g) (hb : w.heap[g]? = some (.cells cur e (0, 0)))
    (h1 : ss.length ≤ cap) (h2 : cap ≤ maxLen) (h3 : cur.size = cap * 1) :
    (grow (putRow (Value.int .u64) (Go.Sort.ahead w n) g 0 ts.toArray) os).ownsRow base e 1 (.slice (some ⟨g, 0, none⟩) ss.length cap) ss.length (ts.map (Value.int .u64)) :=
  ⟨by simp [hl], .inr ⟨g, cap, _, rfl, hbase, heap_sortU _ hb, h1, h2, by simp [putCells, h3], by rw [Nat.mul_one, ← hl]; exact take_putU cur ts (by omega)⟩⟩
end

/-- slices.Collect. -/
theorem collect_any (gf : Nat) (lb : Array Value) (eg : ∀ args w, (callFunc gf args).run Tryf.prog w = .ok (.enter gf args) w)
    (zs : List Int) (hlen : zs.length ≤ 4000000) (n₀ : Nat) (w : World) (hn₀ : n₀ ≤ w.heap.size)
    (hseq : SeqStopsK Fence.wide 4 Tryf.prog gf lb (fun x : Int => #[Value.int .u64 x]) (Below n₀) (fun ys => ys = zs) (fun _ => True) zs.length w) :
    Calls Tryf.prog 51 #[.func (.func gf) #[] lb] w fun e W' => ∃ v, e = .returned v ∧ W'.ownsRow w.heap.size 43 1 v zs.length (zs.map (Value.int .u64)) ∧ (v = .slice none 0 0 ↔ zs = []) ∧ Below w.heap.size w W' := by
  have h := (callsIn_wide (n := 5)).1 (appendSeq_in Fence.wide 5 trivial rfl (by omega) gf lb trivial eg zs hlen n₀ w hn₀ hseq)
  go_enter Tryf.func51, Tryf.ntmps51
  go_wp2_with fail
  refine h.mono ?_
  rintro e w' ⟨v, rfl, h1, h2, h3⟩
  clear h
  have H1 : Hid _ := And.intro h1 (And.intro h2 h3)
  clear h1 h2 h3
  go_wp2_with fail
  go_ret
  exact ⟨v, rfl, H1.out.1, H1.out.2.1, H1.out.2.2⟩

/-- slices.Sorted over whatever gives zs: a slice of the call's own that holds them ascending; nil just where there is none. -/
theorem sorted_any (gf : Nat) (lb : Array Value) (eg : ∀ args w, (callFunc gf args).run Tryf.prog w = .ok (.enter gf args) w)
    (zs : List Int) (hlen : zs.length ≤ 4000000) (n₀ : Nat) (w : World) (hn₀ : n₀ ≤ w.heap.size)
    (hseq : SeqStopsK Fence.wide 4 Tryf.prog gf lb (fun x : Int => #[Value.int .u64 x]) (Below n₀) (fun ys => ys = zs) (fun _ => True) zs.length w) :
    Calls Tryf.prog 37 #[.func (.func gf) #[] lb] w fun e W' => ∃ v, e = .returned v ∧ W'.ownsRow w.heap.size 43 1 v zs.length ((srt zs).map (Value.int .u64)) ∧ (v = .slice none 0 0 ↔ zs = []) ∧ Below w.heap.size w W' := by
  have h := collect_any gf lb eg zs hlen n₀ w hn₀ hseq
  go_enter Tryf.func37, Tryf.ntmps37
  go_wp2_with fail
  refine h.mono ?_
  rintro e w' ⟨v, rfl, h1, h2, h3⟩
  clear h
  rcases h1.2 with ⟨rfl, h0⟩ | ⟨g, cap, cur, rfl, hbase, hb, hn, hm, hc, ht⟩
  · have hz : zs = [] := List.length_eq_zero_iff.1 h0
    subst hz
    have H : Hid _ := And.intro h1 h3
    clear h1 h2 h3 h0
    go_wp2_with fail
    refine (srt_Sort_int_nil none 0 w').mono ?_
    rintro e w2 ⟨rfl, rfl⟩
    go_wp2_with fail
    go_ret
    exact ⟨_, rfl, by simpa [srt] using H.out.1, by simp, H.out.2⟩
  · have hH := holds_blockU (ss := zs) hb (by simpa using ht)
    have hg : g < w'.heap.size := (Array.getElem?_eq_some_iff.1 hb).1
    have hs := sort_any g 0 cap zs w' hH hg (by omega)
    have HF : Hid (∀ n os, (Go.Sort.grow (Go.Sort.putRow (Value.int .u64) (Go.Sort.ahead w' n) g 0 (srt zs).toArray) os).ownsRow w.heap.size 43 1 (.slice (some ⟨g, 0, none⟩) zs.length cap) zs.length ((srt zs).map (Value.int .u64)) ∧
        Below w.heap.size w (Go.Sort.grow (Go.Sort.putRow (Value.int .u64) (Go.Sort.ahead w' n) g 0 (srt zs).toArray) os)) := fun n os =>
      ⟨ownsRow_sortU (srt_length zs) hbase hb hn hm hc, h3.grown (grownBy_sortU _) h3.size (fun k e => by cases e; exact hbase)⟩
    clear h1 h3 hb hH ht hc
    have H2 : Hid _ := h2
    clear h2
    go_wp2_with fail
    refine hs.mono ?_
    clear hs
    rintro e w2 ⟨rfl, n, os, rfl⟩
    go_wp2_with fail
    go_ret
    exact ⟨_, rfl, (HF.out n os).1, H2.out, (HF.out n os).2⟩

/-- slices.Values at the two slice types, plain. -/
theorem values_any (a : Option Addr) (len cap : Nat) (w : World) :
    Calls Tryf.prog 38 #[.slice a len cap] w fun e w' => e = .returned (.func (.func 53) #[] #[.pointer (some ⟨w.heap.size, 0, none⟩)]) ∧ w' = w.alloc (.cells #[.slice a len cap] 22) :=
  (callsIn_wide (n := 5)).1 (values_in Fence.wide 5 trivial rfl a len cap w)
theorem valuess_any (a : Option Addr) (len cap : Nat) (w : World) :
    Calls Tryf.prog 43 #[.slice a len cap] w fun e w' => e = .returned (.func (.func 55) #[] #[.pointer (some ⟨w.heap.size, 0, none⟩)]) ∧ w' = w.alloc (.cells #[.slice a len cap] 25) :=
  (callsIn_wide (n := 5)).1 (valuess_in Fence.wide 5 trivial rfl a len cap w)

/-- slices.Sorted(slices.Values(x)), behind Values' box. -/
theorem sortedV_any (ao : Option Addr) (cap Bs : Nat) (zs : List Int) (hlen : zs.length ≤ 4000000) (w : World) (hBs : Bs < w.heap.size) (hc : w.cell? ⟨Bs, 0, none⟩ = some (.slice ao zs.length cap)) (hI : Rowed w.heap.size w ao zs) :
    Calls Tryf.prog 37 #[.func (.func 53) #[] #[.pointer (some ⟨Bs, 0, none⟩)]] w fun e W' => ∃ v, e = .returned v ∧ W'.ownsRow w.heap.size 43 1 v zs.length ((srt zs).map (Value.int .u64)) ∧ (v = .slice none 0 0 ↔ zs = []) ∧ Below w.heap.size w W' :=
  sorted_any 53 _ (enters_of Tryf.func53 (by kernel_rfl) rfl) zs hlen w.heap.size w (Nat.le_refl _) (values_stops Fence.wide 4 trivial rfl (by omega) Bs w.heap.size ao cap zs hlen w hBs (Nat.le_refl _) hc hI)
theorem sortedVs_any (ao : Option Addr) (cap Bs : Nat) (zs : List Int) (hlen : zs.length ≤ 4000000) (w : World) (hBs : Bs < w.heap.size) (hc : w.cell? ⟨Bs, 0, none⟩ = some (.slice ao zs.length cap)) (hI : Rowed w.heap.size w ao zs) :
    Calls Tryf.prog 37 #[.func (.func 55) #[] #[.pointer (some ⟨Bs, 0, none⟩)]] w fun e W' => ∃ v, e = .returned v ∧ W'.ownsRow w.heap.size 43 1 v zs.length ((srt zs).map (Value.int .u64)) ∧ (v = .slice none 0 0 ↔ zs = []) ∧ Below w.heap.size w W' :=
  sorted_any 55 _ (enters_of Tryf.func55 (by kernel_rfl) rfl) zs hlen w.heap.size w (Nat.le_refl _) (valuess_stops Fence.wide 4 trivial rfl (by omega) Bs w.heap.size ao cap zs hlen w hBs (Nat.le_refl _) hc hI)
end Go.Proofs.Qxb6615150aFmt
