import Derived.Test.Qxb6615150aFmtTake
import Derived.Deep.OwnRows
import Derived.Deep.RegionHeld3
namespace Go.Proofs.Qxb6615150aFmt
open Go.RowKit

/-- It returns some bool. -/
def RetBool (e : Ending) : Prop := ∃ r : Bool, e = .returned (.bool r)

set_option maxHeartbeats 400000 in
theorem bytes28_any (x4 : Int) (ao : Option Addr) (b off n cap : Nat) (I T K Q S : Nat → Int) (A : Nat → Option Addr) (L C : Nat → Nat) (w : World)
    (hn : n ≤ maxLen) (hA : n ≠ 0 → ao = some ⟨b, off, none⟩) (hE : Ents w b off n I T K Q S A L C) (hlen : ∀ i, i < n → L i ≤ maxLen) :
    Calls Tryf.prog 28 #[.slice ao n cap, .int .i64 x4] w fun e w' => RetBool e ∧ w' = w := by
  unfold maxLen at hn
  by_cases hbig : n ≤ 1048576
  · go_enter Tryf.func28, Tryf.ntmps28
    go_wp2
    go_loop [5, 6] (fun z i => ∃ k : Nat, k ≤ n ∧ i = .int .i64 k ∧ ∃ s : Int, 0 ≤ s ∧ s ≤ 1048576 ∧ z = .int .i64 s) (fun _ i => n - (intOf i).toNat)
    case atStart => exact ⟨0, Nat.zero_le _, rfl, n, by omega, by omega, rfl⟩
    case round =>
      obtain ⟨k, hk, rfl, s, hs0, hs1, rfl⟩ := hrel
      by_cases hlt : k < n
      · obtain rfl := hA (by omega)
        have hc := hE.c5 k hlt
        have hl := hlen k hlt
        unfold maxLen at hl
        clear hA hE hlen
        go_wp2
        · go_ret
          exact ⟨⟨_, rfl⟩, rfl⟩
        · go_ret
          exact ⟨⟨_, rfl⟩, rfl⟩
        · go_round
          case rel => exact ⟨k + 1, by omega, by go_num, _, by omega, by omega, rfl⟩
          case measure => simp [intOf]; omega
      · go_wp2
        go_ret
        exact ⟨⟨_, rfl⟩, rfl⟩
  · go_enter Tryf.func28, Tryf.ntmps28
    go_wp2
    go_ret
    exact ⟨⟨_, rfl⟩, rfl⟩

set_option maxHeartbeats 400000 in
/-- What the entries weigh, from 'total' on: where it is at most 1<<20 every entry's 48 bytes are in it. -/
theorem weigh_any (t0 : Int) (ao : Option Addr) (b off n cap : Nat) (I T K Q S : Nat → Int) (A : Nat → Option Addr) (L C : Nat → Nat) (w : World)
    (ht0 : 0 ≤ t0) (ht1 : t0 ≤ 1048576) (hn : n ≤ maxLen) (hA : n ≠ 0 → ao = some ⟨b, off, none⟩) (hE : Ents w b off n I T K Q S A L C) (hlen : ∀ i, i < n → L i ≤ maxLen) :
    Calls Tryf.prog 19 #[.int .i64 t0, .slice ao n cap] w fun e w' => (∃ t : Int, e = .returned (.int .i64 t) ∧ (t ≤ 1048576 → t0 + 48 * n ≤ t ∧ ∀ i, i < n → L i ≤ 1048576)) ∧ w' = w := by
  unfold maxLen at hn
  go_enter Tryf.func19, Tryf.ntmps19
  go_wp2
  go_loop [0, 5] (fun z i => ∃ k : Nat, k ≤ n ∧ i = .int .i64 k ∧ ∃ s : Int, t0 + 48 * k ≤ s ∧ s ≤ 1048576 ∧ z = .int .i64 s ∧ ∀ i, i < k → L i ≤ 1048576) (fun _ i => n - (intOf i).toNat)
  case atStart => exact ⟨0, Nat.zero_le _, rfl, t0, by omega, by omega, rfl, fun i hi => by omega⟩
  case round =>
    obtain ⟨k, hk, rfl, s, hs0, hs1, rfl, hLL⟩ := hrel
    have HLL : Hid (∀ i, i < k → L i ≤ 1048576) := hLL
    clear hLL
    by_cases hlt : k < n
    · obtain rfl := hA (by omega)
      have hc := hE.c5 k hlt
      have hl := hlen k hlt
      unfold maxLen at hl
      clear hA hE hlen
      go_wp2
      · go_ret
        exact ⟨⟨_, rfl, fun h => by omega⟩, rfl⟩
      · go_ret
        exact ⟨⟨_, rfl, fun h => by omega⟩, rfl⟩
      · go_round
        case rel =>
          refine ⟨k + 1, by omega, by go_num, _, by omega, by omega, rfl, fun i hi => ?_⟩
          by_cases e : i = k
          · subst e; omega
          · exact HLL.out i (by omega)
        case measure => simp [intOf]; omega
    · have hkn : k = n := by omega
      go_wp2
      go_ret
      exact ⟨⟨_, rfl, fun h => ⟨by omega, fun i hi => HLL.out i (by omega)⟩⟩, rfl⟩

set_option maxHeartbeats 400000 in
theorem bytes18_any (ao1 ao2 : Option Addr) (b1 off1 n1 cap1 b2 off2 n2 cap2 : Nat) (I T K Q S : Nat → Int) (A : Nat → Option Addr) (L C : Nat → Nat) (I' T' K' Q' S' : Nat → Int) (A' : Nat → Option Addr) (L' C' : Nat → Nat) (w : World)
    (hn1 : n1 ≤ maxLen) (hA1 : n1 ≠ 0 → ao1 = some ⟨b1, off1, none⟩) (hE1 : Ents w b1 off1 n1 I T K Q S A L C) (hlen1 : ∀ i, i < n1 → L i ≤ maxLen)
    (hn2 : n2 ≤ maxLen) (hA2 : n2 ≠ 0 → ao2 = some ⟨b2, off2, none⟩) (hE2 : Ents w b2 off2 n2 I' T' K' Q' S' A' L' C') (hlen2 : ∀ i, i < n2 → L' i ≤ maxLen) :
    Calls Tryf.prog 18 #[.slice ao1 n1 cap1, .slice ao2 n2 cap2] w fun e w' => RetBool e ∧ w' = w := by
  unfold maxLen at hn1 hn2
  by_cases hbig : n1 ≤ 1048576
  · go_enter Tryf.func18, Tryf.ntmps18
    go_wp2
    go_loop [5, 6] (fun z i => ∃ k : Nat, k ≤ n1 ∧ i = .int .i64 k ∧ ∃ s : Int, 0 ≤ s ∧ s ≤ 1048576 ∧ z = .int .i64 s) (fun _ i => n1 - (intOf i).toNat)
    case atStart => exact ⟨0, Nat.zero_le _, rfl, n1, by omega, by omega, rfl⟩
    case round =>
      obtain ⟨k, hk, rfl, s, hs0, hs1, rfl⟩ := hrel
      by_cases hlt : k < n1
      · obtain rfl := hA1 (by omega)
        have hc := hE1.c5 k hlt
        have hl := hlen1 k hlt
        unfold maxLen at hl
        clear hA1 hE1 hlen1 hA2 hE2 hlen2
        go_wp2
        · go_ret
          exact ⟨⟨_, rfl⟩, rfl⟩
        · go_ret
          exact ⟨⟨_, rfl⟩, rfl⟩
        · go_round
          case rel => exact ⟨k + 1, by omega, by go_num, _, by omega, by omega, rfl⟩
          case measure => simp [intOf]; omega
      · have hkn : ¬ (k : Int) < (n1 : Int) := by omega
        clear hA1 hE1 hlen1
        go_wp2
        · go_ret
          exact ⟨⟨_, rfl⟩, rfl⟩
        · go_ret
          exact ⟨⟨_, rfl⟩, rfl⟩
        · go_loop [5, 7] (fun z i => ∃ k : Nat, k ≤ n2 ∧ i = .int .i64 k ∧ ∃ s : Int, 0 ≤ s ∧ s ≤ 1048576 ∧ z = .int .i64 s) (fun _ i => n2 - (intOf i).toNat)
          case atStart => exact ⟨0, Nat.zero_le _, rfl, _, by omega, by omega, rfl⟩
          case round =>
            obtain ⟨k2, hk2, rfl, s2, hs20, hs21, rfl⟩ := hrel
            by_cases hlt2 : k2 < n2
            · obtain rfl := hA2 (by omega)
              have hc := hE2.c5 k2 hlt2
              have hl := hlen2 k2 hlt2
              unfold maxLen at hl
              clear hA2 hE2 hlen2
              go_wp2
              · go_ret
                exact ⟨⟨_, rfl⟩, rfl⟩
              · go_ret
                exact ⟨⟨_, rfl⟩, rfl⟩
              · go_round
                case rel => exact ⟨k2 + 1, by omega, by go_num, _, by omega, by omega, rfl⟩
                case measure => simp [intOf]; omega
            · clear hA2 hE2 hlen2
              go_wp2
              go_ret
              exact ⟨⟨_, rfl⟩, rfl⟩
  · go_enter Tryf.func18, Tryf.ntmps18
    go_wp2
    go_ret
    exact ⟨⟨_, rfl⟩, rfl⟩

/-- Cell j of a row of entries. -/
def entCell (I T K Q S : Nat → Int) (A : Nat → Option Addr) (L C : Nat → Nat) (j : Nat) : Value :=
  match j % 6 with
  | 0 => .int .u64 (I (j / 6))
  | 1 => .int .u64 (T (j / 6))
  | 2 => .int .u8 (K (j / 6))
  | 3 => .int .u64 (Q (j / 6))
  | 4 => .int .u64 (S (j / 6))
  | _ => .slice (A (j / 6)) (L (j / 6)) (C (j / 6))

theorem info51 : (Tryf.prog.info? 51).map (fun i => (i.zero, i.size, i.bytes)) = some (some (.agg #[.int .u64 0, .int .u64 0, .int .u8 0, .int .u64 0, .int .u64 0, .slice none 0 0]), 6, 64) := by kernel_rfl

theorem run_make51 (n : Nat) (hn : n ≤ 30000) (w : World) :
    (Instr.makeSlice 47 (.int .i64 (n : Int)) (.int .i64 (n : Int))).run Tryf.prog w = .ok (.slice (some ⟨w.heap.size, 0, none⟩) n n) (w.alloc (.cells (madeCells #[.int .u64 0, .int .u64 0, .int .u8 0, .int .u64 0, .int .u64 0, .slice none 0 0] (n * 6)) 51)) := by
  obtain ⟨i, hi, hz0, hz1, hz2⟩ := info_parts info51
  have h := run_make (P := Tryf.prog) w 47 51 i _ Tryf.underlying47 hi hz0 .i64 .i64 n n (by omega) (by omega) (by rw [hz2]; omega) (by omega)
  rw [hz1] at h
  simpa [Value.cells] using h

theorem rowIs_made51 (n : Nat) (w : World) : ∃ f, (w.alloc (.cells (madeCells #[.int .u64 0, .int .u64 0, .int .u8 0, .int .u64 0, .int .u64 0, .slice none 0 0] (n * 6)) 51)).rowIs w.heap.size 51 (n * 6) f := by
  have h := World.rowIs_alloc w (madeCells #[.int .u64 0, .int .u64 0, .int .u8 0, .int .u64 0, .int .u64 0, .slice none 0 0] (n * 6)) 51 (fun j => (madeCells #[.int .u64 0, .int .u64 0, .int .u8 0, .int .u64 0, .int .u64 0, .slice none 0 0] (n * 6))[j]!) (fun i hi => by simp [hi])
  rw [size_madeCells] at h
  exact ⟨_, h⟩

/-- One entry more is laid into the row. -/
theorem row_step {w wr : World} {B n k : Nat} {I T K Q S : Nat → Int} {A : Nat → Option Addr} {L C : Nat → Nat} {f : Nat → Value} (hB : B = w.heap.size)
    (hrow : wr.rowIs B 51 (n * 6) f) (hbel : Below w.heap.size w wr) (hf : ∀ j, j < k * 6 → f j = entCell I T K Q S A L C j) :
    Below w.heap.size w ((((((wr.setCell ⟨B, k * 6, none⟩ (.int .u64 (I k))).setCell ⟨B, k * 6 + 1, none⟩ (.int .u64 (T k))).setCell ⟨B, k * 6 + 2, none⟩ (.int .u8 (K k))).setCell ⟨B, k * 6 + 3, none⟩ (.int .u64 (Q k))).setCell ⟨B, k * 6 + 4, none⟩ (.int .u64 (S k))).setCell ⟨B, k * 6 + 5, none⟩ (.slice (A k) (L k) (C k))).drew ∧
    ∃ f', ((((((wr.setCell ⟨B, k * 6, none⟩ (.int .u64 (I k))).setCell ⟨B, k * 6 + 1, none⟩ (.int .u64 (T k))).setCell ⟨B, k * 6 + 2, none⟩ (.int .u8 (K k))).setCell ⟨B, k * 6 + 3, none⟩ (.int .u64 (Q k))).setCell ⟨B, k * 6 + 4, none⟩ (.int .u64 (S k))).setCell ⟨B, k * 6 + 5, none⟩ (.slice (A k) (L k) (C k))).drew.rowIs B 51 (n * 6) f' ∧
      ∀ j, j < (k + 1) * 6 → f' j = entCell I T K Q S A L C j := by
  subst hB
  refine ⟨((((((hbel.setCell (Nat.le_refl _) _).setCell (Nat.le_refl _) _).setCell (Nat.le_refl _) _).setCell (Nat.le_refl _) _).setCell (Nat.le_refl _) _).setCell (Nat.le_refl _) _).drew, _, ((((((hrow.set _ _).set _ _).set _ _).set _ _).set _ _).set _ _).drew, fun j hj => ?_⟩
  by_cases h5 : j = k * 6 + 5
  · subst h5
    rw [if_pos rfl]; unfold entCell
    rw [show (k * 6 + 5) % 6 = 5 by omega, show (k * 6 + 5) / 6 = k by omega]; rfl
  rw [if_neg h5]
  by_cases h4 : j = k * 6 + 4
  · subst h4
    rw [if_pos rfl]; unfold entCell
    rw [show (k * 6 + 4) % 6 = 4 by omega, show (k * 6 + 4) / 6 = k by omega]; rfl
  rw [if_neg h4]
  by_cases h3 : j = k * 6 + 3
  · subst h3
    rw [if_pos rfl]; unfold entCell
    rw [show (k * 6 + 3) % 6 = 3 by omega, show (k * 6 + 3) / 6 = k by omega]; rfl
  rw [if_neg h3]
  by_cases h2 : j = k * 6 + 2
  · subst h2
    rw [if_pos rfl]; unfold entCell
    rw [show (k * 6 + 2) % 6 = 2 by omega, show (k * 6 + 2) / 6 = k by omega]; rfl
  rw [if_neg h2]
  by_cases h1 : j = k * 6 + 1
  · subst h1
    rw [if_pos rfl]; unfold entCell
    rw [show (k * 6 + 1) % 6 = 1 by omega, show (k * 6 + 1) / 6 = k by omega]; rfl
  rw [if_neg h1]
  by_cases h0 : j = k * 6
  · subst h0
    rw [if_pos rfl]; unfold entCell
    rw [show (k * 6) % 6 = 0 by omega, show (k * 6) / 6 = k by omega]; rfl
  rw [if_neg h0]
  exact hf j (by omega)

set_option maxHeartbeats 400000 in
theorem toEntries_any (ao : Option Addr) (b off n cap : Nat) (I T K Q S : Nat → Int) (A : Nat → Option Addr) (L C : Nat → Nat) (w : World)
    (hn : n ≤ 30000) (hA : n ≠ 0 → ao = some ⟨b, off, none⟩) (hb : n ≠ 0 → b < w.heap.size) (hE : Ents w b off n I T K Q S A L C) :
    Calls Tryf.prog 20 #[.slice ao n cap] w fun e w' => e = .returned (.slice (some ⟨w.heap.size, 0, none⟩) n n) ∧ Below w.heap.size w w' ∧ w'.rowIs w.heap.size 51 (n * 6) (entCell I T K Q S A L C) := by
  have hmk := run_make51 n hn
  go_enter Tryf.func20, Tryf.ntmps20
  go_wp2
  clear hmk
  go_loopw [4] (fun i wr => ∃ k : Nat, k ≤ n ∧ i = .int .i64 k ∧ Below w.heap.size w wr ∧ ∃ f, wr.rowIs w.heap.size 51 (n * 6) f ∧ ∀ j, j < k * 6 → f j = entCell I T K Q S A L C j) (fun i _ => n - (intOf i).toNat)
  case atStart =>
    obtain ⟨f, hf⟩ := rowIs_made51 n w
    exact ⟨0, Nat.zero_le _, rfl, (Below.refl _ _).alloc (Nat.le_refl _) _, f, hf, fun j hj => by omega⟩
  case round =>
    obtain ⟨k, hk, rfl, hbel, f, hrow, hf⟩ := hrel
    by_cases hlt : k < n
    · obtain rfl := hA (by omega)
      have hbl := hb (by omega)
      have hE' := hE.later hb hbel
      have e0 := hE'.c0 k hlt
      have e1 := hE'.c1 k hlt
      have e2 := hE'.c2 k hlt
      have e3 := hE'.c3 k hlt
      have e4 := hE'.c4 k hlt
      have e5 := hE'.c5 k hlt
      have r0 := hrow.cell (i := k * 6) (by omega)
      have r1 := hrow.cell (i := k * 6 + 1) (by omega)
      have r2 := hrow.cell (i := k * 6 + 2) (by omega)
      have r3 := hrow.cell (i := k * 6 + 3) (by omega)
      have r4 := hrow.cell (i := k * 6 + 4) (by omega)
      have r5 := hrow.cell (i := k * 6 + 5) (by omega)
      have z0 := hrow.frozen (k * 6)
      have z1 := hrow.frozen (k * 6 + 1)
      have z2 := hrow.frozen (k * 6 + 2)
      have z3 := hrow.frozen (k * 6 + 3)
      have z4 := hrow.frozen (k * 6 + 4)
      have z5 := hrow.frozen (k * 6 + 5)
      have hk0 : (0 : Int) ≤ (k : Int) := by omega
      have hk1 : (k : Int) < (n : Int) := by omega
      have HR : Hid (wr.rowIs w.heap.size 51 (n * 6) f) := hrow
      have HB : Hid (Below w.heap.size w wr) := hbel
      have HF : Hid (∀ j, j < k * 6 → f j = entCell I T K Q S A L C j) := hf
      have hne : w.heap.size ≠ b := by omega
      clear hrow hbel hf hE' hE hA hb
      go_wp2
      go_region_held3 (fun w' => w'.cell? ⟨b, off + k * 6, none⟩ = some (.int .u64 (I k)) ∧ w'.cell? ⟨b, off + k * 6 + 1, none⟩ = some (.int .u64 (T k)) ∧ w'.cell? ⟨b, off + k * 6 + 2, none⟩ = some (.int .u8 (K k)) ∧ w'.cell? ⟨b, off + k * 6 + 3, none⟩ = some (.int .u64 (Q k)) ∧ w'.cell? ⟨b, off + k * 6 + 4, none⟩ = some (.int .u64 (S k)) ∧ w'.cell? ⟨b, off + k * 6 + 5, none⟩ = some (.slice (A k) (L k) (C k))) (go_keep) (fail)
      have R := row_step rfl HR.out HB.out HF.out
      clear HR HB HF e0 e1 e2 e3 e4 e5 r0 r1 r2 r3 r4 r5 z0 z1 z2 z3 z4 z5
      have HR : Hid _ := R
      clear R
      go_wp2
      go_roundw
      case rel => exact ⟨k + 1, by omega, by go_num, HR.out.1, HR.out.2⟩
      case measure => simp [intOf]; omega
    · go_wp2
      go_ret
      obtain rfl : k = n := by omega
      exact ⟨rfl, hbel, hrow.congr hf⟩
end Go.Proofs.Qxb6615150aFmt
