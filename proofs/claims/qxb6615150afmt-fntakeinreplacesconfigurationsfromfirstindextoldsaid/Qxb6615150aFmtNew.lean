import Derived.Test.Qxb6615150aFmtUnion
import Derived.Test.Qxb6615150aFmtIndex
import Derived.Test.Qxb6615150aFmtErr
import Derived.Deep.CutBlock
namespace Go.Proofs.Qxb6615150aFmt
open Go.RowKit

/-- An id 0, or an id that equals the one before. -/
def Bad (zs : List Int) : Prop := ∃ i, i < zs.length ∧ (gl zs i = 0 ∨ (0 < i ∧ gl zs i = gl zs (i - 1)))
def allOf (V O : List Int) : List Int := if O = [] then srt V else dl (gl (srt (srt V ++ srt O))) (srt V ++ srt O).length
def memOf (V O L : List Int) : List Int := if L = [] then allOf V O else srt (allOf V O ++ srt L)
def NVok (V O L : List Int) : Prop := ¬ Bad (srt V) ∧ ¬ Bad (srt O) ∧ ¬ Bad (srt L) ∧ ¬ (V = [] ∧ (O ≠ [] ∨ L ≠ [])) ∧ ∀ x, x ∈ srt L → x ∉ allOf V O
def nils : Value := .agg #[.slice none 0 0, .slice none 0 0, .slice none 0 0, .slice none 0 0, .slice none 0 0]
def NVbad (base : Nat) (V O L : List Int) (e : Ending) (w' : World) : Prop := ¬ NVok V O L ∧ ∃ err, e = .returned (.tuple #[nils, err]) ∧ PlainErr base w' err
def NVgood (base : Nat) (V O L : List Int) (e : Ending) (w' : World) : Prop := NVok V O L ∧ ∃ s0 s1 s2 s3 s4, e = .returned (.tuple #[.agg #[s0, s1, s2, s3, s4], .nilIface]) ∧
  Lst (base ≤ ·) w' s0 (srt V) ∧ Lst (base ≤ ·) w' s1 (srt O) ∧ Lst (base ≤ ·) w' s2 (allOf V O) ∧ Lst (base ≤ ·) w' s3 (srt L) ∧ Lst (base ≤ ·) w' s4 (memOf V O L)

theorem mem_dl {G : Nat → Int} {x : Int} : ∀ {n : Nat}, x ∈ dl G n ↔ x ∈ seg G 0 n
  | 0 => by simp [dl, seg]
  | n + 1 => by
    rw [seg_snoc G (Nat.zero_le n)]
    by_cases h : n = 0 ∨ G n ≠ G (n - 1)
    · rw [dl_take h]; simp [mem_dl (n := n)]
    · have h0 : n ≠ 0 := fun e => h (.inl e)
      have hq : G n = G (n - 1) := Classical.byContradiction fun e => h (.inr e)
      rw [dl_skip h0 hq, mem_dl (n := n)]
      constructor
      · intro hx; exact List.mem_append_left _ hx
      · intro hx
        rcases List.mem_append.1 hx with hx | hx
        · exact hx
        · simp at hx; subst hx; rw [hq]; exact mem_seg.2 ⟨n - 1, Nat.zero_le _, by omega, rfl⟩
theorem dl_pairwise {G : Nat → Int} : ∀ {n : Nat}, (∀ i j, i < j → j < n → G i ≤ G j) → (dl G n).Pairwise (· < ·)
  | 0, _ => by simp [dl]
  | n + 1, h => by
    have ih := dl_pairwise (n := n) (fun i j h1 h2 => h i j h1 (by omega))
    by_cases hc : n = 0 ∨ G n ≠ G (n - 1)
    · rw [dl_take hc]
      refine List.pairwise_append.2 ⟨ih, by simp, fun a ha b hb => ?_⟩
      simp at hb; subst hb
      obtain ⟨t, _, ht, rfl⟩ := mem_seg.1 (mem_dl.1 ha)
      rcases hc with e | e
      · omega
      · have h1 := h (n - 1) n (by omega) (by omega)
        rcases Nat.lt_or_ge t (n - 1) with h2 | h2
        · have := h t (n - 1) h2 (by omega); omega
        · obtain rfl : t = n - 1 := by omega
          omega
    · have h0 : n ≠ 0 := fun e => hc (.inl e)
      have hq : G n = G (n - 1) := Classical.byContradiction fun e => hc (.inr e)
      rw [dl_skip h0 hq]; exact ih
theorem allOf_pairwise (V O : List Int) : (allOf V O).Pairwise (· ≤ ·) := by
  unfold allOf
  split
  · exact srt_pairwise V
  · have h := asc_gl (srt_pairwise (srt V ++ srt O))
    rw [srt_length] at h
    exact (dl_pairwise h).imp (by omega)
theorem allOf_length (V O : List Int) : (allOf V O).length ≤ V.length + O.length := by
  unfold allOf
  split
  · rw [srt_length]; omega
  · refine Nat.le_trans (dl_length _ _) ?_
    simp [srt_length]

/-- The three lists by their places. -/
def Z3 (V O L : List Int) : Nat → List Int
  | 0 => V
  | 1 => O
  | _ => L

/-- What holds at the head of the i-th round. -/
structure NR (w wr : World) (mb i : Nat) (Z : Nat → List Int) (M : Nat → Value) : Prop where
  rm : wr.rowIs mb 33 3 M
  rr : wr.rowIs (mb + 1) 27 5 (fun _ => .slice none 0 0)
  ls : ∀ j, i ≤ j → j < 3 → InL (fun b => b ≠ mb ∧ b ≠ mb + 1) wr (M j) (Z j)
  own : ∀ j, j < i → Lst (fun b => w.heap.size ≤ b ∧ b ≠ mb ∧ b ≠ mb + 1) wr (M j) (srt (Z j))
  nl : ∀ j, j < i → (M j = .slice none 0 0 ↔ Z j = [])
  ok : ∀ j, j < i → ¬ Bad (srt (Z j))
  bel : Below w.heap.size w wr
  sz : mb + 2 ≤ wr.heap.size
  le : w.heap.size ≤ mb
theorem NR.below {w wr w' : World} {mb i : Nat} {Z : Nat → List Int} {M : Nat → Value} (h : NR w wr mb i Z M) (hb : Below wr.heap.size wr w') : NR w w' mb i Z M :=
  ⟨h.rm.of_block (hb.block _ h.rm.lt), h.rr.of_block (hb.block _ h.rr.lt), fun j h1 h2 => (h.ls j h1 h2).below hb, fun j hj => (h.own j hj).below hb, h.nl, h.ok, h.bel.trans (hb.mono h.bel.size), Nat.le_trans h.sz hb.size, h.le⟩
theorem NR.next {w wr : World} {mb i : Nat} {Z : Nat → List Int} {M : Nat → Value} (h : NR w wr mb i Z M) {x : Value} (hx : Lst (fun b => w.heap.size ≤ b ∧ b ≠ mb ∧ b ≠ mb + 1) wr x (srt (Z i))) (hn : x = .slice none 0 0 ↔ Z i = []) (hok : ¬ Bad (srt (Z i))) :
    NR w (wr.setCell ⟨mb, i, none⟩ x) mb (i + 1) Z (fun j => if j = i then x else M j) := by
  have hsz : wr.heap.size ≤ (wr.setCell ⟨mb, i, none⟩ x).heap.size := (((Below.refl mb wr).setCell (p := ⟨mb, i, none⟩) (Nat.le_refl _) x)).size
  have hblk : ∀ b, b ≠ mb → (wr.setCell ⟨mb, i, none⟩ x).heap[b]? = wr.heap[b]? := fun b hb => Go.Deep.blk_setCell_other _ _ _ _ hb
  refine ⟨h.rm.set i x, h.rr.setOther (by show mb + 1 ≠ mb; omega) x, fun j h1 h2 => ?_, fun j hj => ?_, fun j hj => ?_, fun j hj => ?_, h.bel.setCell (p := ⟨mb, i, none⟩) h.le x, Nat.le_trans h.sz hsz, h.le⟩
  · show InL _ _ (if j = i then x else M j) _
    rw [if_neg (by omega)]
    exact (h.ls j (by omega) h2).keep hsz (fun b hb _ => hblk b hb.1)
  · show Lst _ _ (if j = i then x else M j) _
    by_cases e : j = i
    · rw [if_pos e, e]; exact hx.keep hsz (fun b hb _ => hblk b hb.2.1)
    · rw [if_neg e]; exact (h.own j (by omega)).keep hsz (fun b hb _ => hblk b hb.2.1)
  · show (if j = i then x else M j) = _ ↔ _
    by_cases e : j = i
    · rw [if_pos e, e]; exact hn
    · rw [if_neg e]; exact h.nl j (by omega)
  · by_cases e : j = i
    · rw [e]; exact hok
    · exact h.ok j (by omega)

theorem index73 (b i : Nat) (hi : i < 3) (w : World) : (Instr.index 73 (.agg #[.pointer (some ⟨b, 0, none⟩), .pointer (some ⟨b, 1, none⟩), .pointer (some ⟨b, 2, none⟩)]) (.int .i64 (i : Int))).run Tryf.prog w = .ok (.pointer (some ⟨b, i, none⟩)) w := by
  rcases (show i = 0 ∨ i = 1 ∨ i = 2 by omega) with rfl | rfl | rfl
  · kernel_rfl
  · kernel_rfl
  · kernel_rfl

theorem notok_of_bad {V O L : List Int} {Z : Nat → List Int} {i : Nat} (hZ : Z = Z3 V O L) (hi : i < 3) (hb : Bad (srt (Z i))) : ¬ NVok V O L := by
  subst hZ
  intro h
  rcases (show i = 0 ∨ i = 1 ∨ i = 2 by omega) with rfl | rfl | rfl
  · exact h.1 hb
  · exact h.2.1 hb
  · exact h.2.2.1 hb

theorem PlainErr.mono {b b' : Nat} {w : World} {e : Value} (h : PlainErr b w e) (hb : b' ≤ b) : PlainErr b' w e := by
  obtain ⟨k, s, h1, h2, h3, h4⟩ := h
  exact ⟨k, s, h1, Nat.le_trans hb h2, h3, h4⟩
theorem PlainErr.setCell {b : Nat} {w : World} {e : Value} (h : PlainErr b w e) {a : Addr} (ha : a.block < b) (v : Value) : PlainErr b (w.setCell a v) e := by
  obtain ⟨k, s, h1, h2, h3, h4⟩ := h
  exact ⟨k, s, h1, h2, Nat.lt_of_lt_of_le h3 (((Below.refl a.block w).setCell (p := a) (Nat.le_refl _) v)).size, (World.cell?_of_block (a := ⟨k, 0, none⟩) (Go.Deep.blk_setCell_other w a v k (by omega))).trans h4⟩

theorem opLst {p : Nat → Prop} {w : World} {v : Value} {zs : List Int} (h : Lst p w v zs) (hz : zs ≠ []) : ∃ r, (Extern.FmtStop.operand "fmt.errorf" true 118 false (.iface 22 v)).run Tryf.prog w = .ok r w := by
  rcases h with ⟨_, e⟩ | ⟨b, off, cap, rfl, _, _, _, hs⟩
  · exact absurd e hz
  · refine opSlice "fmt.errorf" ⟨b, off, none⟩ cap zs w (fun j u hj => ?_)
    simp only [List.getElem?_map] at hj
    by_cases hjn : j < zs.length
    · simp [hjn] at hj
      subst hj
      rw [Go.WideShapes.add_plain, hs j hjn]
      simp [gl, hjn]
    · rw [List.getElem?_eq_none (by omega)] at hj; simp at hj

theorem bad_tail {V O L : List Int} {w w5 : World} {B : Nat} {err : Value} {tmps : Array Value} (hX : ¬ NVok V O L) (hP : PlainErr B w5 err) (hB : w.heap.size + 2 ≤ B) (hB5 : Below w.heap.size w w5) (rr : w5.rowIs (w.heap.size + 1) 27 5 (fun _ => .slice none 0 0))
    (h2 : tmps[2]?.getD undef = .pointer (some ⟨w.heap.size + 1, 0, none⟩)) (h3 : tmps[3]?.getD undef = err) :
    bodyPost Tryf.prog Tryf.f31 (fun e w' => (NVbad w.heap.size V O L e w' ∨ NVgood w.heap.size V O L e w') ∧ Below w.heap.size w w') Exit.ret { tmps := tmps, defers := [] }
      (((((w5.setCell ⟨w.heap.size + 1, 0, none⟩ (.slice none 0 0)).setCell ⟨w.heap.size + 1, 1, none⟩ (.slice none 0 0)).setCell ⟨w.heap.size + 1, 2, none⟩ (.slice none 0 0)).setCell ⟨w.heap.size + 1, 3, none⟩ (.slice none 0 0)).setCell ⟨w.heap.size + 1, 4, none⟩ (.slice none 0 0)) := by
  have q0 := rr.cell (i := 0) (by omega)
  have q1 := rr.cell (i := 1) (by omega)
  have q2 := rr.cell (i := 2) (by omega)
  have q3 := rr.cell (i := 3) (by omega)
  have q4 := rr.cell (i := 4) (by omega)
  have hl : w.heap.size ≤ w.heap.size + 1 := by omega
  have hl2 : w.heap.size + 1 < B := by omega
  refine bodyPost_ret (v := .tuple #[nils, err]) (by simp [results, Tryf.results31, h2, h3, go_sem, nils, q0, q1, q2, q3, q4]) rfl ⟨.inl ⟨hX, err, rfl, ?_⟩, ?_⟩
  · exact (((((hP.setCell (a := ⟨w.heap.size + 1, 0, none⟩) hl2 _).setCell (a := ⟨w.heap.size + 1, 1, none⟩) hl2 _).setCell (a := ⟨w.heap.size + 1, 2, none⟩) hl2 _).setCell (a := ⟨w.heap.size + 1, 3, none⟩) hl2 _).setCell (a := ⟨w.heap.size + 1, 4, none⟩) hl2 _).mono (by omega)
  · exact ((((hB5.setCell (p := ⟨w.heap.size + 1, 0, none⟩) hl _).setCell (p := ⟨w.heap.size + 1, 1, none⟩) hl _).setCell (p := ⟨w.heap.size + 1, 2, none⟩) hl _).setCell (p := ⟨w.heap.size + 1, 3, none⟩) hl _).setCell (p := ⟨w.heap.size + 1, 4, none⟩) hl _

/-- The configuration as it is built, at block vb. -/
structure NS (w wr : World) (vb : Nat) (F : Nat → Value) (V O L al ml : List Int) : Prop where
  rv : wr.rowIs vb 27 5 F
  rr : wr.rowIs (w.heap.size + 1) 27 5 (fun _ => .slice none 0 0)
  l0 : Lst (fun b => w.heap.size + 2 ≤ b ∧ b ≠ vb) wr (F 0) (srt V)
  l1 : Lst (fun b => w.heap.size + 2 ≤ b ∧ b ≠ vb) wr (F 1) (srt O)
  l2 : Lst (fun b => w.heap.size + 2 ≤ b ∧ b ≠ vb) wr (F 2) al
  l3 : Lst (fun b => w.heap.size + 2 ≤ b ∧ b ≠ vb) wr (F 3) (srt L)
  l4 : Lst (fun b => w.heap.size + 2 ≤ b ∧ b ≠ vb) wr (F 4) ml
  bel : Below w.heap.size w wr
  vbge : w.heap.size + 2 ≤ vb

/-- All blocks below B but vb are as they were. -/
structure Same (B vb : Nat) (a b : World) : Prop where
  os : b.os = a.os
  tape : b.tape = a.tape
  output : b.output = a.output
  size : a.heap.size ≤ b.heap.size
  block : ∀ k, k < B → k ≠ vb → b.heap[k]? = a.heap[k]?
theorem Same.of_below {B vb : Nat} {a b : World} (h : Below B a b) : Same B vb a b := ⟨h.os, h.tape, h.output, h.size, fun k hk _ => h.block k hk⟩
theorem Same.trans {B vb : Nat} {a b c : World} (h : Same B vb a b) (k : Same B vb b c) : Same B vb a c := ⟨k.os.trans h.os, k.tape.trans h.tape, k.output.trans h.output, Nat.le_trans h.size k.size, fun i hi hn => (k.block i hi hn).trans (h.block i hi hn)⟩
theorem Same.set {B vb j : Nat} (a : World) (v : Value) : Same B vb a (a.setCell ⟨vb, j, none⟩ v) := by
  have hb := ((Below.refl vb a).setCell (p := ⟨vb, j, none⟩) (Nat.le_refl _) v)
  exact ⟨hb.os, hb.tape, hb.output, hb.size, fun k _ hn => Go.Deep.blk_setCell_other a ⟨vb, j, none⟩ v k hn⟩
theorem Lst.same {p : Nat → Prop} {B vb : Nat} {a b : World} {v : Value} {zs : List Int} (h : Same B vb a b) (hB : B = a.heap.size) (l : Lst (fun b => p b ∧ b ≠ vb) a v zs) : Lst (fun b => p b ∧ b ≠ vb) b v zs :=
  l.keep h.size (fun k hk hl => h.block k (by omega) hk.2)
theorem NS.below {w wr w' : World} {vb : Nat} {F : Nat → Value} {V O L al ml : List Int} (h : NS w wr vb F V O L al ml) (hb : Below wr.heap.size wr w') : NS w w' vb F V O L al ml :=
  ⟨h.rv.of_block (hb.block _ h.rv.lt), h.rr.of_block (hb.block _ h.rr.lt), h.l0.below hb, h.l1.below hb, h.l2.below hb, h.l3.below hb, h.l4.below hb, h.bel.trans (hb.mono h.bel.size), h.vbge⟩
theorem NS.bel_same {w wr w' : World} {vb : Nat} {F : Nat → Value} {V O L al ml : List Int} (h : NS w wr vb F V O L al ml) (hs : Same wr.heap.size vb wr w') : Below w.heap.size w w' :=
  h.bel.trans ⟨hs.os, hs.tape, hs.output, hs.size, fun k hk => hs.block k (by have := h.bel.size; omega) (by have := h.vbge; omega)⟩
theorem NS.put2 {w wr w' : World} {vb : Nat} {F F' : Nat → Value} {V O L al ml al' : List Int} (h : NS w wr vb F V O L al ml) (hs : Same wr.heap.size vb wr w') (rv : w'.rowIs vb 27 5 F') (h0 : F' 0 = F 0) (h1 : F' 1 = F 1) (h3 : F' 3 = F 3) (h4 : F' 4 = F 4)
    (l2 : Lst (fun b => w.heap.size + 2 ≤ b ∧ b ≠ vb) w' (F' 2) al') : NS w w' vb F' V O L al' ml :=
  ⟨rv, h.rr.of_block (hs.block _ h.rr.lt (by have := h.vbge; omega)), by rw [h0]; exact h.l0.same hs rfl, by rw [h1]; exact h.l1.same hs rfl, l2, by rw [h3]; exact h.l3.same hs rfl, by rw [h4]; exact h.l4.same hs rfl, h.bel_same hs, h.vbge⟩
theorem NS.put4 {w wr w' : World} {vb : Nat} {F F' : Nat → Value} {V O L al ml ml' : List Int} (h : NS w wr vb F V O L al ml) (hs : Same wr.heap.size vb wr w') (rv : w'.rowIs vb 27 5 F') (h0 : F' 0 = F 0) (h1 : F' 1 = F 1) (h2 : F' 2 = F 2) (h3 : F' 3 = F 3)
    (l4 : Lst (fun b => w.heap.size + 2 ≤ b ∧ b ≠ vb) w' (F' 4) ml') : NS w w' vb F' V O L al ml' :=
  ⟨rv, h.rr.of_block (hs.block _ h.rr.lt (by have := h.vbge; omega)), by rw [h0]; exact h.l0.same hs rfl, by rw [h1]; exact h.l1.same hs rfl, by rw [h2]; exact h.l2.same hs rfl, by rw [h3]; exact h.l3.same hs rfl, l4, h.bel_same hs, h.vbge⟩

/-- Five cells written. -/
abbrev set5 (w : World) (b : Nat) (x0 x1 x2 x3 x4 : Value) : World := ((((w.setCell ⟨b, 0, none⟩ x0).setCell ⟨b, 1, none⟩ x1).setCell ⟨b, 2, none⟩ x2).setCell ⟨b, 3, none⟩ x3).setCell ⟨b, 4, none⟩ x4
theorem Same.set5 {B : Nat} (w : World) (b : Nat) (x0 x1 x2 x3 x4 : Value) : Same B b w (Qxb6615150aFmt.set5 w b x0 x1 x2 x3 x4) :=
  ((((Same.set w x0).trans (Same.set (j := 1) (w.setCell ⟨b, 0, none⟩ x0) x1)).trans (Same.set (j := 2) ((w.setCell ⟨b, 0, none⟩ x0).setCell ⟨b, 1, none⟩ x1) x2)).trans (Same.set (j := 3) (((w.setCell ⟨b, 0, none⟩ x0).setCell ⟨b, 1, none⟩ x1).setCell ⟨b, 2, none⟩ x2) x3)).trans (Same.set (j := 4) ((((w.setCell ⟨b, 0, none⟩ x0).setCell ⟨b, 1, none⟩ x1).setCell ⟨b, 2, none⟩ x2).setCell ⟨b, 3, none⟩ x3) x4)

theorem good_tail {V O L : List Int} {w wr : World} {vb : Nat} {F : Nat → Value} {tmps : Array Value} (hX : NVok V O L) (hN : NS w wr vb F V O L (allOf V O) (memOf V O L))
    (h2 : tmps[2]?.getD undef = .pointer (some ⟨w.heap.size + 1, 0, none⟩)) (h3 : tmps[3]?.getD undef = .nilIface) :
    bodyPost Tryf.prog Tryf.f31 (fun e w' => (NVbad w.heap.size V O L e w' ∨ NVgood w.heap.size V O L e w') ∧ Below w.heap.size w w') Exit.ret { tmps := tmps, defers := [] }
      (set5 wr (w.heap.size + 1) (F 0) (F 1) (F 2) (F 3) (F 4)) := by
  have hr := ((((hN.rr.set 0 (F 0)).set 1 (F 1)).set 2 (F 2)).set 3 (F 3)).set 4 (F 4)
  have hS : Same wr.heap.size (w.heap.size + 1) wr (set5 wr (w.heap.size + 1) (F 0) (F 1) (F 2) (F 3) (F 4)) := Same.set5 _ _ _ _ _ _ _
  change (set5 wr (w.heap.size + 1) (F 0) (F 1) (F 2) (F 3) (F 4)).rowIs _ _ _ _ at hr
  generalize set5 wr (w.heap.size + 1) (F 0) (F 1) (F 2) (F 3) (F 4) = wz at hr hS
  have q0 := hr.cell (i := 0) (by omega)
  have q1 := hr.cell (i := 1) (by omega)
  have q2 := hr.cell (i := 2) (by omega)
  have q3 := hr.cell (i := 3) (by omega)
  have q4 := hr.cell (i := 4) (by omega)
  simp at q0 q1 q2 q3 q4
  have hB : Below w.heap.size w wz := hN.bel.trans ⟨hS.os, hS.tape, hS.output, hS.size, fun k hk => hS.block k (by have := hN.bel.size; omega) (by omega)⟩
  have hk : ∀ v zs, Lst (fun b => w.heap.size + 2 ≤ b ∧ b ≠ vb) wr v zs → Lst (w.heap.size ≤ ·) wz v zs := fun v zs h =>
    ((h.keep hS.size (fun b hb hlt => hS.block b hlt (by omega)))).mono (fun b hb => by omega)
  have hrun : (results Tryf.f31 tmps).run Tryf.prog wz = .ok (.tuple #[.agg #[F 0, F 1, F 2, F 3, F 4], .nilIface]) wz := by
    simp [results, Tryf.results31, h2, h3, go_sem, q0, q1, q2, q3, q4]
  exact bodyPost_ret hrun rfl ⟨.inr ⟨hX, F 0, F 1, F 2, F 3, F 4, rfl, hk _ _ hN.l0, hk _ _ hN.l1, hk _ _ hN.l2, hk _ _ hN.l3, hk _ _ hN.l4⟩, hB⟩

/-- Five values by their places. -/
def F5 (s0 s1 s2 s3 s4 : Value) : Nat → Value
  | 0 => s0
  | 1 => s1
  | 2 => s2
  | 3 => s3
  | _ => s4
theorem F5_row (s0 s1 s2 s3 s4 : Value) (w : World) : (w.alloc (.cells #[s0, s1, s2, s3, s4] 27)).rowIs w.heap.size 27 5 (F5 s0 s1 s2 s3 s4) := by
  refine ⟨_, heap_alloc_new w _, rfl, ?_⟩
  intro i hi
  rcases (show i = 0 ∨ i = 1 ∨ i = 2 ∨ i = 3 ∨ i = 4 by omega) with rfl | rfl | rfl | rfl | rfl <;> rfl
theorem F5_put2 (s0 s1 s2 s3 s4 x : Value) (j : Nat) : (if j = 2 then x else F5 s0 s1 s2 s3 s4 j) = F5 s0 s1 x s3 s4 j := by
  match j with
  | 0 => rfl
  | 1 => rfl
  | 2 => rfl
  | 3 => rfl
  | j + 4 => rw [if_neg (by omega)]; rfl
theorem F5_put4 (s0 s1 s2 s3 s4 x : Value) {j : Nat} (hj : j < 5) : (if j = 4 then x else F5 s0 s1 s2 s3 s4 j) = F5 s0 s1 s2 s3 x j := by
  rcases (show j = 0 ∨ j = 1 ∨ j = 2 ∨ j = 3 ∨ j = 4 by omega) with rfl | rfl | rfl | rfl | rfl <;> rfl

/-- slices.Compact of a row of the call's own. -/
theorem compact_any (base : Nat) (v : Value) (ss : List Int) (w : World) (hn : ss.length ≤ 4000000) (hne : ss ≠ []) (h : w.ownsRow base 43 1 v ss.length (ss.map (Value.int .u64))) :
    Calls Tryf.prog 45 #[v] w fun e w' => ∃ v', e = .returned v' ∧ Lst (base ≤ ·) w' v' (dl (gl ss) ss.length) ∧ ∀ w0, Below base w0 w → Below base w0 w' := by
  rcases h.2 with ⟨_, h0⟩ | ⟨g, cap, cur, rfl, hbase, hb, hnc, hm, hc, ht⟩
  · exact absurd (List.length_eq_zero_iff.1 h0) hne
  · have hr : w.rowIs g 43 cap (fun t => cur[t]?.getD undef) := ⟨cur, hb, by omega, fun i hi => by simp [show i < cur.size by omega]⟩
    refine (compact_walk g ss.length cap (gl ss) _ w hn hnc (by unfold maxLen at hm; omega) hr (fun t ht' => ?_)).mono ?_
    · have h1 : (cur.toList.take (ss.length * 1))[t]? = (ss.map (Value.int .u64))[t]? := by rw [ht]
      rw [List.getElem?_take_of_lt (by omega)] at h1
      simp [ht', gl] at h1 ⊢
      simp [h1]
    · rintro e w' ⟨k, C, rfl, hk, hseg, hcell, hbel⟩
      have hlen : (dl (gl ss) ss.length).length = k := by rw [← hseg, seg_length]; omega
      refine ⟨_, rfl, .inr ⟨g, 0, cap, by rw [hlen], by omega, hbase, ?_, fun j hj => ?_⟩, fun w0 hb' => hbel base w0 hbase hb'⟩
      · exact Nat.lt_of_lt_of_le (Array.getElem?_eq_some_iff.1 hb).1 (hbel 0 w (Nat.zero_le _) (Below.refl _ w)).size
      · rw [Nat.zero_add, hcell j (by omega), ← hseg, gl_seg C (by omega)]
theorem owns_setOther {w : World} {base n : Nat} {v : Value} {xs : List Value} (h : w.ownsRow base 43 1 v n xs) {a : Addr} (ha : a.block < base) (x : Value) : (w.setCell a x).ownsRow base 43 1 v n xs := by
  refine ⟨h.1, ?_⟩
  rcases h.2 with e | ⟨g, cap, cur, rfl, hbase, hb, rest⟩
  · exact .inl e
  · exact .inr ⟨g, cap, cur, rfl, hbase, (Go.Deep.blk_setCell_other w a x g (by omega)).trans hb, rest⟩

set_option maxRecDepth 100000 in
set_option maxHeartbeats 4000000 in
theorem newVoters_any (p : Nat → Prop) (v0 v1 v2 : Value) (V O L : List Int) (w : World) (hV : V.length ≤ 1100000) (hO : O.length ≤ 1100000) (hL : L.length ≤ 1100000) (h0 : InL p w v0 V) (h1 : InL p w v1 O) (h2 : InL p w v2 L) :
    Calls Tryf.prog 31 #[.agg #[v0, v1, v2]] w fun e w' => (NVbad w.heap.size V O L e w' ∨ NVgood w.heap.size V O L e w') ∧ Below w.heap.size w w' := by
  obtain ⟨a0, c0, e0, _, _⟩ := h0.open
  obtain ⟨a1, c1, e1, _, _⟩ := h1.open
  obtain ⟨a2, c2, e2, _, _⟩ := h2.open
  obtain ⟨Z, hZ⟩ : ∃ Z, Z = Z3 V O L := ⟨_, rfl⟩
  have HZl : Hid (∀ j, (Z j).length ≤ 1100000) := by intro j; rw [hZ]; unfold Z3; split <;> assumption
  obtain ⟨M0, hM0⟩ : ∃ M0 : Nat → Value, M0 = fun j => match j with | 0 => v0 | 1 => v1 | _ => v2 := ⟨_, rfl⟩
  have hls : ∀ j, j < 3 → InL p w (M0 j) (Z j) := by
    intro j hj; rw [hM0, hZ]
    match j, hj with
    | 0, _ => exact h0
    | 1, _ => exact h1
    | 2, _ => exact h2
  have hrm : ∀ o2, ((w.alloc (.cells #[v0, v1, v2] 33)).alloc o2).rowIs w.heap.size 33 3 M0 := by
    intro o2
    refine ⟨#[v0, v1, v2], ?_, rfl, ?_⟩
    · rw [heap_alloc_old (w.alloc (.cells #[v0, v1, v2] 33)) o2 (by simp)]; exact heap_alloc_new w _
    · intro i hi; rw [hM0]
      match i, hi with
      | 0, _ => rfl
      | 1, _ => rfl
      | 2, _ => rfl
  have hrr : ∀ o1, ((w.alloc o1).alloc (.cells #[.slice none 0 0, .slice none 0 0, .slice none 0 0, .slice none 0 0, .slice none 0 0] 27)).rowIs (w.heap.size + 1) 27 5 (fun _ => .slice none 0 0) := by
    intro o1
    refine ⟨_, by simpa using heap_alloc_new (w.alloc o1) _, rfl, ?_⟩
    intro i hi
    match i, hi with
    | 0, _ => rfl
    | 1, _ => rfl
    | 2, _ => rfl
    | 3, _ => rfl
    | 4, _ => rfl
  have hB0 : ∀ o1 o2, Below w.heap.size w ((w.alloc o1).alloc o2) := fun o1 o2 => ((Below.refl _ w).alloc (Nat.le_refl _) _).alloc (by simp) _
  have hN0 : NR w ((w.alloc (.cells #[v0, v1, v2] 33)).alloc (.cells #[.slice none 0 0, .slice none 0 0, .slice none 0 0, .slice none 0 0, .slice none 0 0] 27)) w.heap.size 0 Z M0 :=
    ⟨hrm _, hrr _, fun j _ hj => ((hls j hj).mono' (q := fun b => b ≠ w.heap.size ∧ b ≠ w.heap.size + 1) (fun b hb _ => ⟨by omega, by omega⟩)).below (hB0 _ _), fun j hj => by omega, fun j hj => by omega, fun j hj => by omega, hB0 _ _, by simp, Nat.le_refl _⟩
  have HN0 : Hid (NR w ((w.alloc (.cells #[v0, v1, v2] 33)).alloc (.cells #[.slice none 0 0, .slice none 0 0, .slice none 0 0, .slice none 0 0, .slice none 0 0] 27)) w.heap.size 0 Z M0) := hN0
  have HZ : Hid (Z = Z3 V O L) := hZ
  clear hls hrm hrr hB0 hN0 h0 h1 h2 hZ hM0
  subst e0 e1 e2
  go_enter Tryf.func31, Tryf.ntmps31
  go_wp2_with fail
  refine (lists_any w.heap.size _).mono ?_
  rintro e w1 ⟨rfl, hb1⟩
  have HN1 : Hid (NR w w1 w.heap.size 0 Z M0) := HN0.out.below hb1
  clear hb1 HN0
  go_wp2_with fail
  go_loopw [12] (fun vi wr => ∃ (i : Nat) (M : Nat → Value), i ≤ 3 ∧ vi = .int .i64 i ∧ NR w wr w.heap.size i Z M) (fun vi _ => 3 - (intOf vi).toNat)
  case atStart => exact ⟨0, M0, by omega, rfl, HN1.out⟩
  case round =>
    clear HN1
    obtain ⟨i, M, hi, rfl, hN⟩ := hrel
    have HN : Hid (NR w wr w.heap.size i Z M) := hN
    by_cases hlt : i < 3
    · obtain ⟨am, cm, em, hGm, hRm⟩ := (hN.ls i (Nat.le_refl _) hlt).open
      have k1 : wr.cell? ⟨w.heap.size, i, none⟩ = some (.slice am (Z i).length cm) := by rw [hN.rm.cell hlt, em]
      have hidx := index73 w.heap.size i hlt wr
      have HI : Hid (i < 3) := hlt
      have HR : Hid (Rowed wr.heap.size wr am (Z i)) := hRm
      clear hN hGm hRm em
      go_wp2_with fail
      refine (values_any am (Z i).length cm wr).mono ?_
      rintro e w2 ⟨rfl, rfl⟩
      go_wp2_with fail
      have hB2 : Below wr.heap.size wr (wr.alloc (.cells #[.slice am (Z i).length cm] 22)) := (Below.refl _ wr).alloc (Nat.le_refl _) _
      refine (sortedV_any am cm wr.heap.size (Z i) (by have := HZl.out i; omega) (wr.alloc (.cells #[.slice am (Z i).length cm] 22)) (by simp) (by simp [go_sem]) ((HR.out.below hB2).mono (by simp))).mono ?_
      rintro e w3 ⟨v, rfl, hown, hnil, hB3⟩
      have hB3' : Below wr.heap.size wr w3 := hB2.trans (hB3.mono (by simp))
      have HN3 : Hid (NR w w3 w.heap.size i Z M) := HN.out.below hB3'
      have hsz := HN.out.sz
      have hLv : Lst (fun b => w.heap.size ≤ b ∧ b ≠ w.heap.size ∧ b ≠ w.heap.size + 1) w3 v (srt (Z i)) := (Lst.of_owns hown).mono (fun b hb => by simp at hb; omega)
      have HV : Hid (Lst (fun b => w.heap.size ≤ b ∧ b ≠ w.heap.size ∧ b ≠ w.heap.size + 1) w3 v (srt (Z i))) := hLv
      have HNil : Hid (v = .slice none 0 0 ↔ Z i = []) := hnil
      obtain ⟨av, cv, ev, hGv, _⟩ := hLv.open
      have hln : (srt (Z i)).length ≤ 1100000 := by rw [srt_length]; exact HZl.out i
      obtain ⟨ss, hss⟩ : ∃ ss, ss = srt (Z i) := ⟨_, rfl⟩
      rw [← hss] at hGv hln
      rw [← hss] at ev
      have HSS : Hid (ss = srt (Z i)) := hss
      subst ev
      clear hown hnil hB3 hB3' hB2 hLv HN HR hidx k1 hss
      go_wp2_with fail
      go_loopw [22] (fun vk wx => ∃ k : Nat, k ≤ ss.length ∧ vk = .int .i64 k ∧ (∀ j, j < k → ¬ (gl ss j = 0 ∨ (0 < j ∧ gl ss j = gl ss (j - 1)))) ∧ wx = w3) (fun vk _ => ss.length - (intOf vk).toNat)
      case atStart => exact ⟨0, by omega, rfl, fun j hj => by omega, rfl⟩
      case round =>
        obtain ⟨k, hk, rfl, hj, rfl⟩ := hrel
        have HJ : Hid (∀ j, j < k → ¬ (gl ss j = 0 ∨ (0 < j ∧ gl ss j = gl ss (j - 1)))) := hj
        clear hj
        by_cases hkl : k < ss.length
        · rcases hGv with h0 | ⟨b1, o1, rfl, hb1, cc⟩
          · omega
          have e1 := cc k hkl
          have hbad : (gl ss k = 0 ∨ (0 < k ∧ gl ss k = gl ss (k - 1))) → ¬ NVok V O L := fun h => notok_of_bad HZ.out HI.out (by rw [← HSS.out]; exact ⟨k, hkl, h⟩)
          by_cases hz : gl ss k = 0
          · have hb : (gl ss k == 0) = true := by simpa using hz
            have HX : Hid (¬ NVok V O L) := hbad (.inl hz)
            clear hbad hz
            go_wp2_with fail
            refine (errorsNew_any _ wr).mono ?_
            rintro e w5 ⟨err, rfl, hpe, hB5⟩
            have HN5 := HN3.out.below hB5
            have q0 := HN5.rr.cell (i := 0) (by omega)
            have q1 := HN5.rr.cell (i := 1) (by omega)
            have q2 := HN5.rr.cell (i := 2) (by omega)
            have q3 := HN5.rr.cell (i := 3) (by omega)
            have q4 := HN5.rr.cell (i := 4) (by omega)
            have qf := HN5.rr.frozen
            have HT : Hid (∀ tmps : Array Value, _ → _ → _) := fun tmps h2 h3 => bad_tail (V := V) (O := O) (L := L) (tmps := tmps) HX.out hpe HN3.out.sz HN5.bel HN5.rr h2 h3
            clear hpe hB5 HN5
            go_wp2_with fail
            exact HT.out _ rfl rfl
          · have hb : (gl ss k == 0) = false := by simpa using hz
            have HZ0 : Hid (¬ gl ss k = 0) := hz
            clear hz
            by_cases hk0 : k = 0
            · subst hk0
              rw [Nat.add_zero] at e1
              clear hbad
              go_wp2_with fail
              go_roundw
              case rel =>
                refine ⟨0 + 1, by omega, by go_num, fun j hj => ?_, trivial⟩
                obtain rfl : j = 0 := by omega
                rintro (h | ⟨h, _⟩)
                · exact HZ0.out h
                · omega
              case measure => simp [intOf]; omega
            · have hd0 : decide ((0 : Int) < (k : Int)) = true := by simp; omega
              obtain ⟨r, rfl⟩ : ∃ r, k = r + 1 := ⟨k - 1, by omega⟩
              have e2 := cc r (by omega)
              have hr0 : (0 : Int) ≤ (r : Int) := by omega
              have hr1 : (r : Int) < (ss.length : Int) := by omega
              by_cases hq : gl ss (r + 1) = gl ss r
              · have hbq : (gl ss (r + 1) == gl ss r) = true := by simpa using hq
                have HX : Hid (¬ NVok V O L) := hbad (.inr ⟨by omega, hq⟩)
                clear hbad hq
                go_wp2_with fail
                refine (errorf_one _ 100 (by decide) (.iface 43 (.int .u64 (gl ss (r + 1)))) _ f1 (opU64 _ _ _) wr.heap.size (by simp [go_sem])).mono ?_
                rintro e w5 ⟨err, rfl, hpe, hB5⟩
                have hBa : Below wr.heap.size wr w5 := ((Below.refl _ wr).alloc (Nat.le_refl _) _).trans (hB5.mono (by simp))
                have HN5 := HN3.out.below hBa
                have q0 := HN5.rr.cell (i := 0) (by omega)
                have q1 := HN5.rr.cell (i := 1) (by omega)
                have q2 := HN5.rr.cell (i := 2) (by omega)
                have q3 := HN5.rr.cell (i := 3) (by omega)
                have q4 := HN5.rr.cell (i := 4) (by omega)
                have qf := HN5.rr.frozen
                have HT : Hid (∀ tmps : Array Value, _ → _ → _) := fun tmps h2 h3 => bad_tail (V := V) (O := O) (L := L) (tmps := tmps) HX.out (hpe.mono (b' := wr.heap.size) (by simp)) HN3.out.sz HN5.bel HN5.rr h2 h3
                clear hpe hB5 HN5 hBa
                go_wp2_with fail
                exact HT.out _ rfl rfl
              · have hbq : (gl ss (r + 1) == gl ss r) = false := by simpa using hq
                have HQ : Hid (¬ gl ss (r + 1) = gl ss r) := hq
                clear hbad hq
                go_wp2_with fail
                go_roundw
                case rel =>
                  refine ⟨r + 1 + 1, by omega, by go_num, fun j hj => ?_, trivial⟩
                  by_cases e : j = r + 1
                  · subst e; rintro (h | ⟨_, h⟩); exact HZ0.out h; exact HQ.out h
                  · exact HJ.out j (by omega)
                case measure => simp [intOf]; omega
        · have hd : decide ((k : Int) < (ss.length : Int)) = false := by simp; omega
          have hcl := clip_any _ (.slice av ss.length cv) (srt (Z i)) wr HV.out
          go_wp2_with fail
          refine hcl.mono ?_
          clear hcl
          rintro e w4 ⟨x, rfl, hx, hxn, rfl⟩
          obtain ⟨xa, xc, ex, _, _⟩ := hx.open
          have q0 := HN3.out.rm.cell (i := i) HI.out
          have qf := HN3.out.rm.frozen i
          obtain ⟨am', cm', em, _, _⟩ := (HN3.out.ls i (Nat.le_refl _) HI.out).open
          rw [em] at q0
          have HNx : Hid (NR w (w4.setCell ⟨w.heap.size, i, none⟩ x) w.heap.size (i + 1) Z (fun j => if j = i then x else M j)) := HN3.out.next hx (hxn.trans HNil.out) (by
            rw [← HSS.out]; rintro ⟨j, hj, hb⟩; exact HJ.out j (by omega) hb)
          clear hx hxn HN3 HV em
          subst ex
          go_wp2_with fail
          go_roundw
          case rel => exact ⟨i + 1, _, by omega, by go_num, HNx.out⟩
          case measure => simp [intOf]; omega
    · obtain rfl : i = 3 := by omega
      obtain ⟨x0, y0, m0, _, _⟩ := (hN.own 0 (by omega)).open
      obtain ⟨x1, y1, m1, _, _⟩ := (hN.own 1 (by omega)).open
      obtain ⟨x2, y2, m2, _, _⟩ := (hN.own 2 (by omega)).open
      have g0 := hN.rm.cell (i := 0) (by omega)
      have g1 := hN.rm.cell (i := 1) (by omega)
      have g2 := hN.rm.cell (i := 2) (by omega)
      rw [m0, srt_length] at g0
      rw [m1, srt_length] at g1
      rw [m2, srt_length] at g2
      have hz0 : Z 0 = V := by rw [HZ.out]; rfl
      have hz1 : Z 1 = O := by rw [HZ.out]; rfl
      have hz2 : Z 2 = L := by rw [HZ.out]; rfl
      rw [hz0] at g0
      rw [hz1] at g1
      rw [hz2] at g2
      have O0 : Hid (Lst (fun b => w.heap.size ≤ b ∧ b ≠ w.heap.size ∧ b ≠ w.heap.size + 1) wr (.slice x0 V.length y0) (srt V)) := by have h := hN.own 0 (by omega); rw [m0, srt_length, hz0] at h; exact h
      have O1 : Hid (Lst (fun b => w.heap.size ≤ b ∧ b ≠ w.heap.size ∧ b ≠ w.heap.size + 1) wr (.slice x1 O.length y1) (srt O)) := by have h := hN.own 1 (by omega); rw [m1, srt_length, hz1] at h; exact h
      have O2 : Hid (Lst (fun b => w.heap.size ≤ b ∧ b ≠ w.heap.size ∧ b ≠ w.heap.size + 1) wr (.slice x2 L.length y2) (srt L)) := by have h := hN.own 2 (by omega); rw [m2, srt_length, hz2] at h; exact h
      have N1 : Hid (x1 = none ↔ O = []) := by
        have h := hN.nl 1 (by omega)
        have hl := hN.own 1 (by omega)
        rw [m1, srt_length, hz1] at h hl
        refine ⟨fun hx => ?_, fun ho => ?_⟩
        · rcases hl with ⟨e, _⟩ | ⟨b, off, cap, e, _⟩
          · exact h.1 e
          · rw [hx] at e; simp at e
        · have := h.2 ho
          simp at this
          exact this.1
      have OK : Hid (¬ Bad (srt V) ∧ ¬ Bad (srt O) ∧ ¬ Bad (srt L)) := by
        have h := hN.ok; rw [← hz0, ← hz1, ← hz2]; exact ⟨h 0 (by omega), h 1 (by omega), h 2 (by omega)⟩
      have HRR : Hid (wr.rowIs (w.heap.size + 1) 27 5 (fun _ => .slice none 0 0)) := hN.rr
      have HBL : Hid (Below w.heap.size w wr) := hN.bel
      have HSZ : w.heap.size + 2 ≤ wr.heap.size := hN.sz
      clear hN HN m0 m1 m2 hz0 hz1 hz2 hlt hi HZ HZl
      go_upto_block 5 with fail
      go_cut [] from 55 to 88 (fun wc => wc = wr ∧ ¬ (V.length = 0 ∧ (0 < O.length ∨ 0 < L.length)))
      case first =>
        rcases Nat.eq_zero_or_pos V.length with hv | hv
        · rcases Nat.eq_zero_or_pos O.length with ho | ho
          · rcases Nat.eq_zero_or_pos L.length with hl | hl
            · have HM : Hid (¬ (V.length = 0 ∧ (0 < O.length ∨ 0 < L.length))) := by show ¬ _; omega
              go_wp2_with fail
              go_meet
              case rel => exact ⟨rfl, HM.out⟩
            · have HX : Hid (¬ NVok V O L) := fun h => h.2.2.2.1 ⟨List.length_eq_zero_iff.1 hv, .inr (fun h => by simp [h] at hl)⟩
              have hne : srt L ≠ [] := fun h => by have := congrArg List.length h; rw [srt_length] at this; simp at this; simp [this] at hl
              have hop := fun o => opLst (O2.out.below ((Below.refl _ wr).alloc (Nat.le_refl _) o)) hne
              have HO : Hid (∀ o, ∃ r, (Extern.FmtStop.operand "fmt.errorf" true 118 false (.iface 22 (.slice x2 L.length y2))).run Tryf.prog (wr.alloc o) = .ok r (wr.alloc o)) := hop
              clear hop hne
              go_wp2_with fail
              refine (errorf_one _ 118 (by decide) (.iface 22 (.slice x2 L.length y2)) _ f3 (HO.out _) wr.heap.size (by simp [go_sem])).mono ?_
              rintro e w5 ⟨err, rfl, hpe, hB5⟩
              have hBa : Below wr.heap.size wr w5 := ((Below.refl _ wr).alloc (Nat.le_refl _) _).trans (hB5.mono (by simp))
              have rr5 : w5.rowIs (w.heap.size + 1) 27 5 (fun _ => .slice none 0 0) := World.rowIs.of_block HRR.out (hBa.block _ (World.rowIs.lt HRR.out))
              have q0 := rr5.cell (i := 0) (by omega)
              have q1 := rr5.cell (i := 1) (by omega)
              have q2 := rr5.cell (i := 2) (by omega)
              have q3 := rr5.cell (i := 3) (by omega)
              have q4 := rr5.cell (i := 4) (by omega)
              have qf := rr5.frozen
              have HT : Hid (∀ tmps : Array Value, _ → _ → _) := fun tmps h2 h3 => bad_tail (V := V) (O := O) (L := L) (tmps := tmps) HX.out (hpe.mono (b' := wr.heap.size) (by simp)) HSZ (HBL.out.trans (hBa.mono HBL.out.size)) rr5 h2 h3
              clear hpe hB5 rr5 hBa
              go_wp2_with fail
              exact HT.out _ rfl rfl
          · have HX : Hid (¬ NVok V O L) := fun h => h.2.2.2.1 ⟨List.length_eq_zero_iff.1 hv, .inl (fun h => by simp [h] at ho)⟩
            have hne : srt O ≠ [] := fun h => by have := congrArg List.length h; rw [srt_length] at this; simp at this; simp [this] at ho
            have hop := fun o => opLst (O1.out.below ((Below.refl _ wr).alloc (Nat.le_refl _) o)) hne
            have HO : Hid (∀ o, ∃ r, (Extern.FmtStop.operand "fmt.errorf" true 118 false (.iface 22 (.slice x1 O.length y1))).run Tryf.prog (wr.alloc o) = .ok r (wr.alloc o)) := hop
            clear hop hne
            go_wp2_with fail
            refine (errorf_one _ 118 (by decide) (.iface 22 (.slice x1 O.length y1)) _ f2 (HO.out _) wr.heap.size (by simp [go_sem])).mono ?_
            rintro e w5 ⟨err, rfl, hpe, hB5⟩
            have hBa : Below wr.heap.size wr w5 := ((Below.refl _ wr).alloc (Nat.le_refl _) _).trans (hB5.mono (by simp))
            have rr5 : w5.rowIs (w.heap.size + 1) 27 5 (fun _ => .slice none 0 0) := World.rowIs.of_block HRR.out (hBa.block _ (World.rowIs.lt HRR.out))
            have q0 := rr5.cell (i := 0) (by omega)
            have q1 := rr5.cell (i := 1) (by omega)
            have q2 := rr5.cell (i := 2) (by omega)
            have q3 := rr5.cell (i := 3) (by omega)
            have q4 := rr5.cell (i := 4) (by omega)
            have qf := rr5.frozen
            have HT : Hid (∀ tmps : Array Value, _ → _ → _) := fun tmps h2 h3 => bad_tail (V := V) (O := O) (L := L) (tmps := tmps) HX.out (hpe.mono (b' := wr.heap.size) (by simp)) HSZ (HBL.out.trans (hBa.mono HBL.out.size)) rr5 h2 h3
            clear hpe hB5 rr5 hBa
            go_wp2_with fail
            exact HT.out _ rfl rfl
        · have hd : ((V.length : Int) == 0) = false := beq_eq_false_iff_ne.2 (by omega)
          have HM : Hid (¬ (V.length = 0 ∧ (0 < O.length ∨ 0 < L.length))) := by show ¬ _; omega
          go_wp2_with fail
          go_meet
          case rel => exact ⟨rfl, HM.out⟩
      case rest =>
        obtain ⟨rfl, hdom⟩ := hcut
        have HD : Hid (¬ (V.length = 0 ∧ (0 < O.length ∨ 0 < L.length))) := hdom
        clear hdom
        have hjn := fun w1 => joint_any (.slice x0 V.length y0) _ (.slice x0 V.length y0) (.slice x2 L.length y2) (.slice none 0 0) x1 O.length y1 rfl w1
        have hN0 : NS w (wc.alloc (.cells #[.slice x0 V.length y0, .slice x1 O.length y1, .slice x0 V.length y0, .slice x2 L.length y2, .slice none 0 0] 27)) wc.heap.size (F5 (.slice x0 V.length y0) (.slice x1 O.length y1) (.slice x0 V.length y0) (.slice x2 L.length y2) (.slice none 0 0)) V O L (srt V) [] := by
          have hB := (Below.refl _ wc).alloc (Nat.le_refl _) (.cells #[.slice x0 V.length y0, .slice x1 O.length y1, .slice x0 V.length y0, .slice x2 L.length y2, .slice none 0 0] 27)
          have hm : ∀ v zs, Lst (fun b => w.heap.size ≤ b ∧ b ≠ w.heap.size ∧ b ≠ w.heap.size + 1) wc v zs → Lst (fun b => w.heap.size + 2 ≤ b ∧ b ≠ wc.heap.size) (wc.alloc (.cells #[.slice x0 V.length y0, .slice x1 O.length y1, .slice x0 V.length y0, .slice x2 L.length y2, .slice none 0 0] 27)) v zs :=
            fun v zs h => (h.mono' (fun b hb hp => by omega)).below hB
          exact ⟨F5_row _ _ _ _ _ wc, World.rowIs.alloc HRR.out _, hm _ _ O0.out, hm _ _ O1.out, hm _ _ O0.out, hm _ _ O2.out, Lst.nil _ _, HBL.out.trans (hB.mono HBL.out.size), HSZ⟩
        have HN0 : Hid (NS w (wc.alloc (.cells #[.slice x0 V.length y0, .slice x1 O.length y1, .slice x0 V.length y0, .slice x2 L.length y2, .slice none 0 0] 27)) wc.heap.size (F5 (.slice x0 V.length y0) (.slice x1 O.length y1) (.slice x0 V.length y0) (.slice x2 L.length y2) (.slice none 0 0)) V O L (srt V) []) := hN0
        clear hN0 O0 O1 O2 HRR HBL
        go_upto_if 100 with (go_at_call 42; refine (hjn _).mono ?_; rintro e w2 ⟨rfl, rfl⟩)
        have hN2 : NS w ((wc.alloc (.cells #[.slice x0 V.length y0, .slice x1 O.length y1, .slice x0 V.length y0, .slice x2 L.length y2, .slice none 0 0] 27)).alloc (.cells #[.slice x0 V.length y0, .slice x1 O.length y1, .slice x0 V.length y0, .slice x2 L.length y2, .slice none 0 0] 27)) wc.heap.size (F5 (.slice x0 V.length y0) (.slice x1 O.length y1) (.slice x0 V.length y0) (.slice x2 L.length y2) (.slice none 0 0)) V O L (srt V) [] :=
          HN0.out.below ((Below.refl _ _).alloc (Nat.le_refl _) (.cells #[.slice x0 V.length y0, .slice x1 O.length y1, .slice x0 V.length y0, .slice x2 L.length y2, .slice none 0 0] 27))
        generalize (wc.alloc (.cells #[.slice x0 V.length y0, .slice x1 O.length y1, .slice x0 V.length y0, .slice x2 L.length y2, .slice none 0 0] 27)).alloc (.cells #[.slice x0 V.length y0, .slice x1 O.length y1, .slice x0 V.length y0, .slice x2 L.length y2, .slice none 0 0] 27) = w2 at hN2 ⊢
        clear hjn HN0
        generalize wc.heap.size = vb at hN2 HSZ ⊢
        have HN2 : Hid (NS w w2 vb (F5 (.slice x0 V.length y0) (.slice x1 O.length y1) (.slice x0 V.length y0) (.slice x2 L.length y2) (.slice none 0 0)) V O L (srt V) []) := hN2
        clear g0 g1 g2
        go_cut [] from 100 to 113 (fun wx => ∃ aa na ca, NS w wx vb (F5 (.slice x0 V.length y0) (.slice x1 O.length y1) (.slice aa na ca) (.slice x2 L.length y2) (.slice none 0 0)) V O L (allOf V O) [])
        case first =>
          by_cases ho : O = []
          · have hx1 := N1.out.2 ho
            have HM : Hid (NS w w2 vb (F5 (.slice x0 V.length y0) (.slice x1 O.length y1) (.slice x0 V.length y0) (.slice x2 L.length y2) (.slice none 0 0)) V O L (allOf V O) []) := by
              have h := HN2.out; rw [show allOf V O = srt V by unfold allOf; rw [if_pos ho]]; exact h
            have hi1 : x1.isSome = false := by rw [hx1]; rfl
            clear hx1 ho hN2 HN2
            rw [hi1]
            clear hi1
            go_wp2_with fail
            go_meet
            case rel => exact ⟨_, _, _, HM.out⟩
          · have hi1 : x1.isSome = true := by
              cases hx : x1 with
              | none => exact absurd (N1.out.1 hx) ho
              | some a => rfl
            have HO : Hid (¬ O = []) := ho
            clear ho
            have k0 : w2.cell? ⟨vb, 0, none⟩ = some (.slice x0 V.length y0) := hN2.rv.cell (i := 0) (by omega)
            have k1 : w2.cell? ⟨vb, 1, none⟩ = some (.slice x1 O.length y1) := hN2.rv.cell (i := 1) (by omega)
            have hvl := hN2.rv.lt
            have hl0 := hN2.l0
            have hl1 := hN2.l1
            have hBa : ∀ o, Below w2.heap.size w2 (w2.alloc o) := fun o => (Below.refl _ w2).alloc (Nat.le_refl _) o
            have hcc := fun o (c0 : (w2.alloc o).cell? ⟨w2.heap.size, 0, none⟩ = some (.slice x0 V.length y0)) (c1 : (w2.alloc o).cell? ⟨w2.heap.size, 1, none⟩ = some (.slice x1 O.length y1)) => concat_any _ w2.heap.size (.slice x0 V.length y0) (.slice x1 O.length y1) (srt V) (srt O) (w2.alloc o) (by rw [srt_length, srt_length]; omega) (by simp) c0 c1 (hl0.below (hBa o)) (hl1.below (hBa o))
            clear hN2 hl0 hl1
            rw [hi1]
            clear hi1
            go_wp2_with fail
            refine (hcc _ (by simp [go_sem]) (by simp [go_sem])).mono ?_
            clear hcc
            rintro e w3 ⟨v1, rfl, hv1, hB3⟩
            have hB3' : Below w2.heap.size w2 w3 := (hBa _).trans (hB3.mono (by simp))
            obtain ⟨a1', c1', rfl, _, hRw⟩ := hv1.open
            have HRw : Hid (Rowed w3.heap.size w3 a1' (srt V ++ srt O)) := hRw
            have HB3 : Hid (Below w2.heap.size w2 w3) := hB3'
            clear hv1 hB3 hB3' hRw hBa k0 k1
            go_wp2_with fail
            refine (valuess_any _ _ _ w3).mono ?_
            rintro e w4 ⟨rfl, rfl⟩
            go_wp2_with fail
            have hB4 : ∀ o, Below w3.heap.size w3 (w3.alloc o) := fun o => (Below.refl _ w3).alloc (Nat.le_refl _) o
            refine (sortedVs_any a1' c1' w3.heap.size (srt V ++ srt O) (by simp [srt_length]; omega) _ (by simp) (by simp [go_sem]) ((HRw.out.below (hB4 _)).mono (by simp))).mono ?_
            rintro e w5 ⟨v2, rfl, hown, _, hB5⟩
            have hs23 := HB3.out.size
            have hB5' : Below w2.heap.size w2 w5 := HB3.out.trans (((hB4 _).mono hs23).trans (hB5.mono (by simp; omega)))
            have hown' : w5.ownsRow (w3.heap.size + 1) 43 1 v2 (srt (srt V ++ srt O)).length ((srt (srt V ++ srt O)).map (Value.int .u64)) := by rw [srt_length]; simpa using hown
            have hown6 := owns_setOther (a := ⟨vb, 2, none⟩) hown' (show vb < w3.heap.size + 1 by omega) v2
            have hcp := compact_any (w3.heap.size + 1) v2 (srt (srt V ++ srt O)) _ (by rw [srt_length]; simp [srt_length]; omega) (fun h => by have := congrArg List.length h; rw [srt_length] at this; simp [srt_length] at this; exact HO.out this.2) hown6
            obtain ⟨a2', c2', ev2, _, _⟩ := (Lst.of_owns hown').open
            have hv5 : w5.rowIs vb 27 5 (F5 (.slice x0 V.length y0) (.slice x1 O.length y1) (.slice x0 V.length y0) (.slice x2 L.length y2) (.slice none 0 0)) := HN2.out.rv.of_block (hB5'.block _ hvl)
            have k2 : w5.cell? ⟨vb, 2, none⟩ = some (.slice x0 V.length y0) := hv5.cell (i := 2) (by omega)
            have kf := hv5.frozen 2
            have HV5 : Hid (w5.rowIs vb 27 5 (F5 (.slice x0 V.length y0) (.slice x1 O.length y1) (.slice x0 V.length y0) (.slice x2 L.length y2) (.slice none 0 0))) := hv5
            have HB5 : Hid (Below w2.heap.size w2 w5) := hB5'
            clear hB4 hB5 hB5' hown hown' hown6 hv5 HRw HB3
            subst ev2
            go_wp2_with fail
            refine hcp.mono ?_
            clear hcp
            rintro e w7 ⟨v3, rfl, hl3, hb7⟩
            have hB7 := hb7 _ (Below.refl _ _)
            obtain ⟨a3', c3', ev3, _, _⟩ := hl3.open
            have hv7 : w7.rowIs vb 27 5 (F5 (.slice x0 V.length y0) (.slice x1 O.length y1) _ (.slice x2 L.length y2) (.slice none 0 0)) := ((HV5.out.set 2 _).of_block (hB7.block _ (by omega))).congr (fun j _ => F5_put2 _ _ _ _ _ _ j)
            have k3 : w7.cell? ⟨vb, 2, none⟩ = some (.slice a2' (srt (srt V ++ srt O)).length c2') := hv7.cell (i := 2) (by omega)
            have kf7 := hv7.frozen 2
            have hl4 : Lst (fun b => w.heap.size + 2 ≤ b ∧ b ≠ vb) (w7.setCell ⟨vb, 2, none⟩ v3) v3 (allOf V O) := by
              have he : allOf V O = dl (gl (srt (srt V ++ srt O))) (srt (srt V ++ srt O)).length := by unfold allOf; rw [if_neg HO.out, srt_length]
              rw [he]
              have hS := Same.set (B := w7.heap.size) (vb := vb) (j := 2) w7 v3
              exact (hl3.mono (q := fun b => w.heap.size + 2 ≤ b ∧ b ≠ vb) (fun b hb => by omega)).keep hS.size (fun b hb hlt => hS.block b hlt hb.2)
            have HM : Hid (NS w (w7.setCell ⟨vb, 2, none⟩ v3) vb (F5 (.slice x0 V.length y0) (.slice x1 O.length y1) v3 (.slice x2 L.length y2) (.slice none 0 0)) V O L (allOf V O) []) := by
              have hS : Same w2.heap.size vb w2 (w7.setCell ⟨vb, 2, none⟩ v3) := (((Same.of_below HB5.out).trans (Same.set (j := 2) w5 _)).trans (Same.of_below (hB7.mono (by omega)))).trans (Same.set (j := 2) w7 v3)
              exact HN2.out.put2 hS ((hv7.set 2 v3).congr (fun j _ => F5_put2 _ _ _ _ _ _ j)) rfl rfl rfl rfl hl4
            clear hl3 hb7 hB7 hv7 hl4 HB5 HV5 HN2 k2 kf
            subst ev3
            go_wp2_with fail
            go_meet
            case rel => exact ⟨_, _, _, HM.out⟩
        case rest =>
          clear HN2 hN2
          obtain ⟨aa, na, ca, hN3⟩ := hcut
          have HN3 : Hid (NS w wc vb (F5 (.slice x0 V.length y0) (.slice x1 O.length y1) (.slice aa na ca) (.slice x2 L.length y2) (.slice none 0 0)) V O L (allOf V O) []) := hN3
          have k0 : wc.cell? ⟨vb, 0, none⟩ = some (.slice x0 V.length y0) := hN3.rv.cell (i := 0) (by omega)
          have k1 : wc.cell? ⟨vb, 1, none⟩ = some (.slice x1 O.length y1) := hN3.rv.cell (i := 1) (by omega)
          have k2 : wc.cell? ⟨vb, 2, none⟩ = some (.slice aa na ca) := hN3.rv.cell (i := 2) (by omega)
          have k3 : wc.cell? ⟨vb, 3, none⟩ = some (.slice x2 L.length y2) := hN3.rv.cell (i := 3) (by omega)
          have k4 : wc.cell? ⟨vb, 4, none⟩ = some (.slice none 0 0) := hN3.rv.cell (i := 4) (by omega)
          have hix := indexFunc_any _ (.slice x0 V.length y0) (.slice x1 O.length y1) (.slice aa na ca) (.slice x2 L.length y2) (.slice none 0 0) (.slice x2 L.length y2) (allOf V O) (srt L) wc (by have := allOf_length V O; omega) (by rw [srt_length]; omega) hN3.l2 (allOf_pairwise V O) hN3.l3
          clear hN3
          go_wp2_with fail
          refine hix.mono ?_
          clear hix
          rintro e w3 ⟨i, rfl, hBi, hcase⟩
          have hN4 := HN3.out.below hBi
          have k0 : w3.cell? ⟨vb, 0, none⟩ = some (.slice x0 V.length y0) := hN4.rv.cell (i := 0) (by omega)
          have k1 : w3.cell? ⟨vb, 1, none⟩ = some (.slice x1 O.length y1) := hN4.rv.cell (i := 1) (by omega)
          have k2 : w3.cell? ⟨vb, 2, none⟩ = some (.slice aa na ca) := hN4.rv.cell (i := 2) (by omega)
          have k3 : w3.cell? ⟨vb, 3, none⟩ = some (.slice x2 L.length y2) := hN4.rv.cell (i := 3) (by omega)
          have k4 : w3.cell? ⟨vb, 4, none⟩ = some (.slice none 0 0) := hN4.rv.cell (i := 4) (by omega)
          have HN4 : Hid (NS w w3 vb (F5 (.slice x0 V.length y0) (.slice x1 O.length y1) (.slice aa na ca) (.slice x2 L.length y2) (.slice none 0 0)) V O L (allOf V O) []) := hN4
          clear HN3 hBi
          rcases hcase with ⟨rfl, hno⟩ | ⟨hi0, hi1, hmem⟩
          · have HOK : Hid (NVok V O L) := ⟨OK.out.1, OK.out.2.1, OK.out.2.2, fun h => HD.out ⟨by rw [h.1]; rfl, h.2.imp (fun h => List.length_pos_iff.2 h) (fun h => List.length_pos_iff.2 h)⟩, hno⟩
            have kf := hN4.rv.frozen 4
            clear hno hN4
            have hN5 : NS w (w3.setCell ⟨vb, 4, none⟩ (.slice aa na ca)) vb (F5 (.slice x0 V.length y0) (.slice x1 O.length y1) (.slice aa na ca) (.slice x2 L.length y2) (.slice aa na ca)) V O L (allOf V O) (allOf V O) := by
              have hS := Same.set (B := w3.heap.size) (vb := vb) (j := 4) w3 (.slice aa na ca)
              exact HN4.out.put4 hS ((World.rowIs.set HN4.out.rv 4 _).congr (fun j hj => F5_put4 _ _ _ _ _ _ hj)) rfl rfl rfl rfl (HN4.out.l2.same hS rfl)
            go_upto_if 136 with fail
            generalize w3.setCell ⟨vb, 4, none⟩ (.slice aa na ca) = w4 at hN5 ⊢
            have HN5 : Hid (NS w w4 vb (F5 (.slice x0 V.length y0) (.slice x1 O.length y1) (.slice aa na ca) (.slice x2 L.length y2) (.slice aa na ca)) V O L (allOf V O) (allOf V O)) := hN5
            clear k0 k1 k2 k3 k4 kf HN4
            go_cut [] from 136 to 145 (fun wx => ∃ ab nb cb, NS w wx vb (F5 (.slice x0 V.length y0) (.slice x1 O.length y1) (.slice aa na ca) (.slice x2 L.length y2) (.slice ab nb cb)) V O L (allOf V O) (memOf V O L))
            case first =>
              by_cases hl : L = []
              · have hl0 : decide (0 < L.length) = false := by rw [hl]; rfl
                have HM : Hid (NS w w4 vb (F5 (.slice x0 V.length y0) (.slice x1 O.length y1) (.slice aa na ca) (.slice x2 L.length y2) (.slice aa na ca)) V O L (allOf V O) (memOf V O L)) := by
                  have h := HN5.out; rw [show memOf V O L = allOf V O by unfold memOf; rw [if_pos hl]]; exact h
                clear hl hN5 HN5
                rw [hl0]
                clear hl0
                go_wp2_with fail
                go_meet
                case rel => exact ⟨_, _, _, HM.out⟩
              · have hl0 : decide (0 < L.length) = true := by have := List.length_pos_iff.2 hl; simpa using this
                have HL : Hid (¬ L = []) := hl
                have k2 : w4.cell? ⟨vb, 2, none⟩ = some (.slice aa na ca) := hN5.rv.cell (i := 2) (by omega)
                have k3 : w4.cell? ⟨vb, 3, none⟩ = some (.slice x2 L.length y2) := hN5.rv.cell (i := 3) (by omega)
                have hvl := hN5.rv.lt
                have hl2 := hN5.l2
                have hl3 := hN5.l3
                have hal := allOf_length V O
                have hBa : ∀ o, Below w4.heap.size w4 (w4.alloc o) := fun o => (Below.refl _ w4).alloc (Nat.le_refl _) o
                have hcc := fun o (c0 : (w4.alloc o).cell? ⟨w4.heap.size, 0, none⟩ = some (.slice aa na ca)) (c1 : (w4.alloc o).cell? ⟨w4.heap.size, 1, none⟩ = some (.slice x2 L.length y2)) => concat_any _ w4.heap.size (.slice aa na ca) (.slice x2 L.length y2) (allOf V O) (srt L) (w4.alloc o) (by rw [srt_length]; omega) (by simp) c0 c1 (hl2.below (hBa o)) (hl3.below (hBa o))
                clear hN5 hl2 hl3 hl
                rw [hl0]
                clear hl0
                go_wp2_with fail
                refine (hcc _ (by simp [go_sem]) (by simp [go_sem])).mono ?_
                clear hcc
                rintro e w5 ⟨v1, rfl, hv1, hB3⟩
                have hB3' : Below w4.heap.size w4 w5 := (hBa _).trans (hB3.mono (by simp))
                obtain ⟨a1', c1', rfl, _, hRw⟩ := hv1.open
                have HRw : Hid (Rowed w5.heap.size w5 a1' (allOf V O ++ srt L)) := hRw
                have HB3 : Hid (Below w4.heap.size w4 w5) := hB3'
                clear hv1 hB3 hB3' hRw hBa k2 k3
                go_wp2_with fail
                refine (valuess_any _ _ _ w5).mono ?_
                rintro e w6 ⟨rfl, rfl⟩
                go_wp2_with fail
                have hB4 : ∀ o, Below w5.heap.size w5 (w5.alloc o) := fun o => (Below.refl _ w5).alloc (Nat.le_refl _) o
                refine (sortedVs_any a1' c1' w5.heap.size (allOf V O ++ srt L) (by simp [srt_length]; omega) _ (by simp) (by simp [go_sem]) ((HRw.out.below (hB4 _)).mono (by simp))).mono ?_
                rintro e w7 ⟨v2, rfl, hown, _, hB5⟩
                have hs23 := HB3.out.size
                have hB5' : Below w4.heap.size w4 w7 := HB3.out.trans (((hB4 _).mono hs23).trans (hB5.mono (by simp; omega)))
                have hv7 : w7.rowIs vb 27 5 (F5 (.slice x0 V.length y0) (.slice x1 O.length y1) (.slice aa na ca) (.slice x2 L.length y2) (.slice aa na ca)) := HN5.out.rv.of_block (hB5'.block _ hvl)
                have k4 : w7.cell? ⟨vb, 4, none⟩ = some (.slice aa na ca) := hv7.cell (i := 4) (by omega)
                have kf := hv7.frozen 4
                have hl4 : Lst (fun b => w.heap.size + 2 ≤ b ∧ b ≠ vb) (w7.setCell ⟨vb, 4, none⟩ v2) v2 (memOf V O L) := by
                  have he : memOf V O L = srt (allOf V O ++ srt L) := by unfold memOf; rw [if_neg HL.out]
                  rw [he]
                  have hvb := HN5.out.vbge
                  have hS := Same.set (B := w7.heap.size) (vb := vb) (j := 4) w7 v2
                  exact ((Lst.of_owns hown).mono (q := fun b => w.heap.size + 2 ≤ b ∧ b ≠ vb) (fun b hb => by simp at hb; omega)).keep hS.size (fun b hb hlt => hS.block b hlt hb.2)
                have HM : Hid (NS w (w7.setCell ⟨vb, 4, none⟩ v2) vb (F5 (.slice x0 V.length y0) (.slice x1 O.length y1) (.slice aa na ca) (.slice x2 L.length y2) v2) V O L (allOf V O) (memOf V O L)) := by
                  have hS : Same w4.heap.size vb w4 (w7.setCell ⟨vb, 4, none⟩ v2) := (Same.of_below hB5').trans (Same.set (j := 4) w7 v2)
                  exact HN5.out.put4 hS ((hv7.set 4 v2).congr (fun j hj => F5_put4 _ _ _ _ _ _ hj)) rfl rfl rfl rfl hl4
                obtain ⟨a2', c2', ev2, _, _⟩ := hl4.open
                clear hB4 hB5 hB5' hown hv7 HRw HB3 hl4 HN5
                subst ev2
                go_wp2_with fail
                go_meet
                case rel => exact ⟨_, _, _, HM.out⟩
            case rest =>
              clear HN5 hN5
              obtain ⟨ab, nb, cb, hN6⟩ := hcut
              have k0 : wc.cell? ⟨vb, 0, none⟩ = some (.slice x0 V.length y0) := hN6.rv.cell (i := 0) (by omega)
              have k1 : wc.cell? ⟨vb, 1, none⟩ = some (.slice x1 O.length y1) := hN6.rv.cell (i := 1) (by omega)
              have k2 : wc.cell? ⟨vb, 2, none⟩ = some (.slice aa na ca) := hN6.rv.cell (i := 2) (by omega)
              have k3 : wc.cell? ⟨vb, 3, none⟩ = some (.slice x2 L.length y2) := hN6.rv.cell (i := 3) (by omega)
              have k4 : wc.cell? ⟨vb, 4, none⟩ = some (.slice ab nb cb) := hN6.rv.cell (i := 4) (by omega)
              have q0 := hN6.rr.cell (i := 0) (by omega)
              have q1 := hN6.rr.cell (i := 1) (by omega)
              have q2 := hN6.rr.cell (i := 2) (by omega)
              have q3 := hN6.rr.cell (i := 3) (by omega)
              have q4 := hN6.rr.cell (i := 4) (by omega)
              have qf := hN6.rr.frozen
              have HT : Hid (∀ tmps : Array Value, _ → _ → _) := fun tmps h2 h3 => good_tail (tmps := tmps) HOK.out hN6 h2 h3
              clear hN6
              go_wp2_with fail
              exact HT.out _ rfl rfl
          · obtain ⟨k, rfl⟩ := Int.eq_ofNat_of_zero_le hi0
            rw [srt_length] at hi1
            rw [Int.toNat_natCast] at hmem
            have hkl : k < L.length := by omega
            have HX : Hid (¬ NVok V O L) := fun h => h.2.2.2.2 _ (gl_mem (by rw [srt_length]; exact hkl)) hmem
            rcases hN4.l3 with ⟨_, e⟩ | ⟨b, off, cap, e, _, _, _, hs⟩
            · have := congrArg List.length e; rw [srt_length] at this; simp at this; simp [this] at hkl
            · rw [srt_length] at e hs
              have e' : Value.slice x2 L.length y2 = .slice (some ⟨b, off, none⟩) L.length cap := e
              simp at e'
              obtain ⟨rfl, rfl⟩ := e'
              have e1 := hs k hkl
              have hrr := hN4.rr
              have hvb := hN4.vbge
              have hvl := hN4.rv.lt
              have hbl := hN4.bel
              clear hs e hN4 hmem
              go_wp2_with fail
              refine (errorf_one _ 100 (by decide) (.iface 43 (.int .u64 (gl (srt L) k))) _ f4 (opU64 _ _ _) w3.heap.size (by simp [go_sem])).mono ?_
              rintro e w5 ⟨err, rfl, hpe, hB5⟩
              have hBa : Below w3.heap.size w3 w5 := ((Below.refl _ w3).alloc (Nat.le_refl _) _).trans (hB5.mono (by simp))
              have rr5 : w5.rowIs (w.heap.size + 1) 27 5 (fun _ => .slice none 0 0) := World.rowIs.of_block hrr (hBa.block _ (World.rowIs.lt hrr))
              have q0 := rr5.cell (i := 0) (by omega)
              have q1 := rr5.cell (i := 1) (by omega)
              have q2 := rr5.cell (i := 2) (by omega)
              have q3 := rr5.cell (i := 3) (by omega)
              have q4 := rr5.cell (i := 4) (by omega)
              have qf := rr5.frozen
              have HT : Hid (∀ tmps : Array Value, _ → _ → _) := fun tmps h2 h3 => bad_tail (V := V) (O := O) (L := L) (tmps := tmps) HX.out (hpe.mono (b' := w3.heap.size) (by simp)) (by omega) (hbl.trans (hBa.mono hbl.size)) rr5 h2 h3
              clear hpe hB5 rr5 hBa hrr hbl
              go_wp2_with fail
              exact HT.out _ rfl rfl
end Go.Proofs.Qxb6615150aFmt
