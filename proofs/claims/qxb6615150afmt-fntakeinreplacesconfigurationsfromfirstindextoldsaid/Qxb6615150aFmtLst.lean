import Derived.Test.Qxb6615150aFmtCopy
import Derived.Test.Qxb6615150aFmtSorted
import Derived.Laws.OwnMore
import Derived.Deep.RegionHeld3
namespace Go.Proofs.Qxb6615150aFmt
open Go.RowKit

/-- The t-th number of a list. -/
def gl (zs : List Int) (t : Nat) : Int := zs[t]?.getD 0
theorem gl_mem {zs : List Int} {t : Nat} (h : t < zs.length) : gl zs t ∈ zs := by simp [gl, h]
theorem mem_gl {zs : List Int} {x : Int} (h : x ∈ zs) : ∃ t, t < zs.length ∧ gl zs t = x := by
  obtain ⟨t, ht, rfl⟩ := List.mem_iff_getElem.1 h
  exact ⟨t, ht, by simp [gl, ht]⟩
theorem seg_gl (zs : List Int) : seg (gl zs) 0 zs.length = zs := seg_getD zs
theorem gl_seg (G : Nat → Int) {n t : Nat} (h : t < n) : gl (seg G 0 n) t = G t := by simp [gl, seg, h]

/-- v is a slice that holds zs, in a block of which p holds (or it is nil). -/
def Lst (p : Nat → Prop) (w : World) (v : Value) (zs : List Int) : Prop :=
  (v = .slice none 0 0 ∧ zs = []) ∨ ∃ b off cap, v = .slice (some ⟨b, off, none⟩) zs.length cap ∧ zs.length ≤ cap ∧ p b ∧ b < w.heap.size ∧ ∀ j, j < zs.length → w.cell? ⟨b, off + j, none⟩ = some (.int .u64 (gl zs j))

theorem Lst.mono {p q : Nat → Prop} {w : World} {v : Value} {zs : List Int} (h : ∀ b, p b → q b) : Lst p w v zs → Lst q w v zs
  | .inl e => .inl e
  | .inr ⟨b, off, cap, e, hc, hp, hb, hs⟩ => .inr ⟨b, off, cap, e, hc, h b hp, hb, hs⟩
theorem Lst.mono' {p q : Nat → Prop} {w : World} {v : Value} {zs : List Int} (h : ∀ b, b < w.heap.size → p b → q b) : Lst p w v zs → Lst q w v zs
  | .inl e => .inl e
  | .inr ⟨b, off, cap, e, hc, hp, hb, hs⟩ => .inr ⟨b, off, cap, e, hc, h b hb hp, hb, hs⟩
theorem Lst.keep {p : Nat → Prop} {w w' : World} {v : Value} {zs : List Int} (hsz : w.heap.size ≤ w'.heap.size) (h : ∀ b, p b → b < w.heap.size → w'.heap[b]? = w.heap[b]?) : Lst p w v zs → Lst p w' v zs
  | .inl e => .inl e
  | .inr ⟨b, off, cap, e, hc, hp, hb, hs⟩ => .inr ⟨b, off, cap, e, hc, hp, Nat.lt_of_lt_of_le hb hsz, fun j hj => (World.cell?_of_block (a := ⟨b, off + j, none⟩) (h b hp hb)).trans (hs j hj)⟩
theorem Lst.below {p : Nat → Prop} {w w' : World} {v : Value} {zs : List Int} (h : Below w.heap.size w w') (l : Lst p w v zs) : Lst p w' v zs := l.keep h.size (fun b _ hb => h.block b hb)
theorem Lst.belowAt {B : Nat} {p : Nat → Prop} {w w' : World} {v : Value} {zs : List Int} (h : Below B w w') (hp : ∀ b, p b → b < B) (l : Lst p w v zs) : Lst p w' v zs := l.keep h.size (fun b hb _ => h.block b (hp b hb))
theorem Lst.drewN {p : Nat → Prop} {w : World} {v : Value} {zs : List Int} (q : Nat) (l : Lst p w v zs) : Lst p (w.drewN q) v zs := l
theorem Lst.open {p : Nat → Prop} {w : World} {v : Value} {zs : List Int} (l : Lst p w v zs) :
    ∃ ao cap, v = .slice ao zs.length cap ∧ RowG w ao zs.length (gl zs) ∧ Rowed w.heap.size w ao zs := by
  rcases l with ⟨rfl, rfl⟩ | ⟨b, off, cap, rfl, hc, hp, hb, hs⟩
  · exact ⟨none, 0, rfl, .inl rfl, .inl rfl⟩
  · exact ⟨_, cap, rfl, .inr ⟨b, off, rfl, hb, hs⟩, .inr ⟨b, off, rfl, hb, hs⟩⟩
theorem Lst.nil (p : Nat → Prop) (w : World) : Lst p w (.slice none 0 0) [] := .inl ⟨rfl, rfl⟩
theorem Lst.of_owns {w : World} {base n : Nat} {v : Value} {zs : List Int} (h : w.ownsRow base 43 1 v n (zs.map (Value.int .u64))) : Lst (base ≤ ·) w v zs := by
  have hl : zs.length = n := by simpa using h.1
  rcases h.2 with ⟨rfl, h0⟩ | ⟨g, cap, cur, rfl, hbase, hb, hn, _, hc, ht⟩
  · exact .inl ⟨rfl, List.length_eq_zero_iff.1 (by omega)⟩
  · refine .inr ⟨g, 0, cap, by rw [hl], by omega, hbase, (Array.getElem?_eq_some_iff.1 hb).1, fun j hj => ?_⟩
    have h1 : (cur.toList.take (n * 1))[j]? = (zs.map (Value.int .u64))[j]? := by rw [ht]
    rw [List.getElem?_take_of_lt (by omega)] at h1
    simp [World.cell?, hb, hj, gl] at h1 ⊢
    exact h1

/-- v is a slice that came in and holds zs (where there is none, it may be nil or point anywhere). -/
def InL (p : Nat → Prop) (w : World) (v : Value) (zs : List Int) : Prop :=
  ∃ ao cap, v = .slice ao zs.length cap ∧ (zs = [] ∨ ∃ b off, ao = some ⟨b, off, none⟩ ∧ p b ∧ b < w.heap.size ∧ ∀ j, j < zs.length → w.cell? ⟨b, off + j, none⟩ = some (.int .u64 (gl zs j)))
theorem InL.mono' {p q : Nat → Prop} {w : World} {v : Value} {zs : List Int} (h : ∀ b, b < w.heap.size → p b → q b) : InL p w v zs → InL q w v zs
  | ⟨ao, cap, e, .inl e'⟩ => ⟨ao, cap, e, .inl e'⟩
  | ⟨ao, cap, e, .inr ⟨b, off, ea, hp, hb, hs⟩⟩ => ⟨ao, cap, e, .inr ⟨b, off, ea, h b hb hp, hb, hs⟩⟩
theorem InL.keep {p : Nat → Prop} {w w' : World} {v : Value} {zs : List Int} (hsz : w.heap.size ≤ w'.heap.size) (h : ∀ b, p b → b < w.heap.size → w'.heap[b]? = w.heap[b]?) : InL p w v zs → InL p w' v zs
  | ⟨ao, cap, e, .inl e'⟩ => ⟨ao, cap, e, .inl e'⟩
  | ⟨ao, cap, e, .inr ⟨b, off, ea, hp, hb, hs⟩⟩ => ⟨ao, cap, e, .inr ⟨b, off, ea, hp, Nat.lt_of_lt_of_le hb hsz, fun j hj => (World.cell?_of_block (a := ⟨b, off + j, none⟩) (h b hp hb)).trans (hs j hj)⟩⟩
theorem InL.below {p : Nat → Prop} {w w' : World} {v : Value} {zs : List Int} (h : Below w.heap.size w w') (l : InL p w v zs) : InL p w' v zs := l.keep h.size (fun b _ hb => h.block b hb)
theorem InL.open {p : Nat → Prop} {w : World} {v : Value} {zs : List Int} (l : InL p w v zs) :
    ∃ ao cap, v = .slice ao zs.length cap ∧ RowG w ao zs.length (gl zs) ∧ Rowed w.heap.size w ao zs := by
  obtain ⟨ao, cap, rfl, h | ⟨b, off, rfl, _, hb, hs⟩⟩ := l
  · subst h; exact ⟨ao, cap, rfl, .inl rfl, .inl rfl⟩
  · exact ⟨_, cap, rfl, .inr ⟨b, off, rfl, hb, hs⟩, .inr ⟨b, off, rfl, hb, hs⟩⟩
theorem Lst.toIn {p : Nat → Prop} {w : World} {v : Value} {zs : List Int} : Lst p w v zs → InL p w v zs
  | .inl ⟨e, e'⟩ => ⟨none, 0, by rw [e, e']; rfl, .inl e'⟩
  | .inr ⟨b, off, cap, e, _, hp, hb, hs⟩ => ⟨_, cap, e, .inr ⟨b, off, rfl, hp, hb, hs⟩⟩

theorem srt_perm (zs : List Int) : (srt zs).Perm zs := List.mergeSort_perm zs _
theorem srt_pairwise (zs : List Int) : (srt zs).Pairwise (· ≤ ·) := by
  have h := List.pairwise_mergeSort (le := fun x y : Int => decide (x ≤ y)) (fun a b c h1 h2 => by simp at h1 h2 ⊢; omega) (fun a b => by simp; omega) zs
  exact h.imp (by simp)
theorem srt_unique {xs zs : List Int} (hp : xs.Perm zs) (hs : xs.Pairwise (· ≤ ·)) : xs = srt zs :=
  (hp.trans (srt_perm zs).symm).eq_of_pairwise (fun a b _ _ h1 h2 => by omega) hs (srt_pairwise zs)
theorem asc_gl {zs : List Int} (h : zs.Pairwise (· ≤ ·)) : ∀ i j, i < j → j < zs.length → gl zs i ≤ gl zs j := by
  intro i j hij hj
  have := List.pairwise_iff_getElem.1 h i j (by omega) hj hij
  simpa [gl, hj, show i < zs.length by omega] using this

/-- sortedCopy. -/
theorem sortedCopy_in (p : Nat → Prop) (v : Value) (zs : List Int) (w : World) (hn : zs.length ≤ 4000000) (h : InL p w v zs) :
    Calls Tryf.prog 8 #[v] w fun e w' => ∃ v', e = .returned v' ∧ Lst (w.heap.size ≤ ·) w' v' (srt zs) ∧ Below w.heap.size w w' := by
  obtain ⟨ao, cap, rfl, hG, _⟩ := h.open
  refine (sortedCopy_walk ao zs.length cap (gl zs) w hn hG).mono ?_
  rintro e w' ⟨g1, g2, A, B, rfl, hSC, hP, hs⟩
  rw [seg_gl] at hP
  have he : seg A 0 zs.length = srt zs := srt_unique hP (by
    refine List.pairwise_iff_getElem.2 fun i j hi hj hij => ?_
    have := hs i j hij (by simpa [seg_length] using hj)
    simpa [seg] using this)
  refine ⟨_, rfl, .inr ⟨g1, 0, zs.length, by rw [srt_length], by rw [srt_length]; exact Nat.le_refl _, hSC.b1, ?_, fun j hj => ?_⟩, hSC.bel⟩
  · obtain ⟨c, hc, _⟩ := hSC.r1
    exact (Array.getElem?_eq_some_iff.1 hc).1
  · have hj' : j < zs.length := by simpa [srt_length] using hj
    rw [Nat.zero_add, hSC.r1.cell hj', ← he, gl_seg A hj']

theorem sortedCopy_any (p : Nat → Prop) (v : Value) (zs : List Int) (w : World) (hn : zs.length ≤ 4000000) (h : Lst p w v zs) :
    Calls Tryf.prog 8 #[v] w fun e w' => ∃ v', e = .returned v' ∧ Lst (w.heap.size ≤ ·) w' v' (srt zs) ∧ Below w.heap.size w w' := sortedCopy_in p v zs w hn h.toIn

/-- slices.Clip. -/
theorem clip_any (p : Nat → Prop) (v : Value) (zs : List Int) (w : World) (h : Lst p w v zs) :
    Calls Tryf.prog 41 #[v] w fun e w' => ∃ v', e = .returned v' ∧ Lst p w v' zs ∧ (v' = .slice none 0 0 ↔ v = .slice none 0 0) ∧ w' = w := by
  rcases h with ⟨rfl, rfl⟩ | ⟨b, off, cap, rfl, hc, hp, hb, hs⟩
  · go_enter Tryf.func41, Tryf.ntmps41
    go_wp2
    go_ret
    exact ⟨_, rfl, Lst.nil p w, by simp, rfl⟩
  · have hS : Lst p w (.slice (some ⟨b, off, none⟩) zs.length zs.length) zs := .inr ⟨b, off, _, rfl, Nat.le_refl _, hp, hb, hs⟩
    have HS : Hid _ := hS
    clear hS hs
    go_enter Tryf.func41, Tryf.ntmps41
    go_wp2
    go_ret
    exact ⟨_, rfl, HS.out, by simp, rfl⟩

/-- Membership.Lists. -/
theorem lists_any (b : Nat) (w : World) :
    Calls Tryf.prog 36 #[.pointer (some ⟨b, 0, none⟩)] w fun e w' => e = .returned (.agg #[.pointer (some ⟨b, 0, none⟩), .pointer (some ⟨b, 1, none⟩), .pointer (some ⟨b, 2, none⟩)]) ∧ Below w.heap.size w w' := by
  go_enter Tryf.func36, Tryf.ntmps36
  go_wp2
  go_region_held3 (fun _ => True) (go_keep) (fail)
  go_wp2
  refine bodyPost_ret (v := .agg #[.pointer (some ⟨b, 0, none⟩), .pointer (some ⟨b, 1, none⟩), .pointer (some ⟨b, 2, none⟩)]) (by simp [results, Tryf.results36, go_sem]) rfl ⟨rfl, ((Below.refl _ w).alloc (Nat.le_refl _) _).drew⟩

theorem joint_any (s0 s1 s2 s3 s4 : Value) (a : Option Addr) (n c : Nat) (hs1 : s1 = .slice a n c) (w : World) :
    Calls Tryf.prog 42 #[.agg #[s0, s1, s2, s3, s4]] w fun e w' => e = .returned (.bool a.isSome) ∧ w' = w.alloc (.cells #[s0, s1, s2, s3, s4] 27) := by
  subst hs1
  cases a with
  | none =>
    go_enter Tryf.func42, Tryf.ntmps42
    go_wp2
    go_ret
    exact ⟨rfl, rfl⟩
  | some a =>
    go_enter Tryf.func42, Tryf.ntmps42
    go_wp2
    go_ret
    exact ⟨rfl, rfl⟩

theorem replicas_any (s0 s1 s2 s3 s4 : Value) (w : World) :
    Calls Tryf.prog 32 #[.agg #[s0, s1, s2, s3, s4]] w fun e w' => e = .returned s4 ∧ w' = w.alloc (.cells #[s0, s1, s2, s3, s4] 27) := by
  go_enter Tryf.func32, Tryf.ntmps32
  go_wp2
  go_ret
  exact ⟨rfl, rfl⟩
theorem zzreplicas_any (s0 s1 s2 s3 s4 : Value) (w : World) :
    Calls Tryf.prog 11 #[.agg #[s0, s1, s2, s3, s4]] w fun e w' => e = .returned s4 ∧ Below w.heap.size w w' := by
  go_enter Tryf.func11, Tryf.ntmps11
  go_wp2_with (go_at_call 32; refine (replicas_any _ _ _ _ _ _).mono ?_; rintro e w' ⟨rfl, rfl⟩)
  go_ret
  exact ⟨rfl, ((Below.refl _ w).alloc (Nat.le_refl _) _).alloc (by simp) _⟩
theorem membership_any (a0 a1 a3 : Option Addr) (n0 n1 n3 c0 c1 c3 : Nat) (s2 s4 : Value) (w : World) :
    Calls Tryf.prog 33 #[.agg #[.slice a0 n0 c0, .slice a1 n1 c1, s2, .slice a3 n3 c3, s4]] w fun e w' => e = .returned (.agg #[.slice a0 n0 c0, .slice a1 n1 c1, .slice a3 n3 c3]) ∧ Below w.heap.size w w' := by
  go_enter Tryf.func33, Tryf.ntmps33
  go_wp2
  refine bodyPost_ret (v := .agg #[.slice a0 n0 c0, .slice a1 n1 c1, .slice a3 n3 c3]) (by simp [results, Tryf.results33, go_sem]) rfl ⟨rfl, ((Below.refl _ w).alloc (Nat.le_refl _) _).alloc (by simp) _⟩
theorem zzmembership_any (a0 a1 a3 : Option Addr) (n0 n1 n3 c0 c1 c3 : Nat) (s2 s4 : Value) (w : World) :
    Calls Tryf.prog 15 #[.agg #[.slice a0 n0 c0, .slice a1 n1 c1, s2, .slice a3 n3 c3, s4]] w fun e w' => e = .returned (.agg #[.slice a0 n0 c0, .slice a1 n1 c1, .slice a3 n3 c3]) ∧ Below w.heap.size w w' := by
  have hM := fun o1 o2 => membership_any a0 a1 a3 n0 n1 n3 c0 c1 c3 s2 s4 ((w.alloc o1).alloc o2)
  go_enter Tryf.func15, Tryf.ntmps15
  go_wp2_with fail
  refine (hM _ _).mono ?_
  rintro e w' ⟨rfl, hb⟩
  have c0' : w'.heap[w.heap.size + 1]? = some (.cells #[.slice none 0 0, .slice none 0 0, .slice none 0 0] 33) := by
    rw [hb.block _ (by simp)]; simpa using heap_alloc_new (w.alloc (.cells #[.slice a0 n0 c0, .slice a1 n1 c1, s2, .slice a3 n3 c3, s4] 27)) (.cells #[.slice none 0 0, .slice none 0 0, .slice none 0 0] 33)
  have hB : Below w.heap.size w w' := (((Below.refl _ w).alloc (Nat.le_refl _) _).alloc (by simp) _).trans (hb.mono (by simp; omega))
  clear hb hM
  have c0a : w'.cell? ⟨w.heap.size + 1, 0, none⟩ = some (.slice none 0 0) := by simp [World.cell?, c0']
  have c1a : w'.cell? ⟨w.heap.size + 1, 1, none⟩ = some (.slice none 0 0) := by simp [World.cell?, c0']
  have c2a : w'.cell? ⟨w.heap.size + 1, 2, none⟩ = some (.slice none 0 0) := by simp [World.cell?, c0']
  have f0a : ∀ j, w'.frozen? ⟨w.heap.size + 1, j, none⟩ = false := by intro j; simp [World.frozen?, c0']
  have HC : Hid _ := c0'
  have HB : Hid _ := hB
  clear c0' hB
  go_wp2_with fail
  refine bodyPost_ret (v := .agg #[.slice a0 n0 c0, .slice a1 n1 c1, .slice a3 n3 c3]) (by simp [results, Tryf.results15, go_sem, c0a, c1a, c2a]) rfl ⟨rfl, ?_⟩
  have hle : w.heap.size ≤ w.heap.size + 1 := by omega
  exact ((HB.out.setCell hle _).setCell hle _).setCell hle _
end Go.Proofs.Qxb6615150aFmt
