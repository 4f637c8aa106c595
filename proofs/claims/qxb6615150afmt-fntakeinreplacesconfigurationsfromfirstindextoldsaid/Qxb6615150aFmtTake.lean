import Derived.Test.Qxb6615150aFmtHistW
namespace Go.Proofs.Qxb6615150aFmt
open Go.RowKit Go.Lib

/-- Entries as they lie in memory. -/
structure Ents (w : World) (b off n : Nat) (I T K Q S : Nat → Int) (A : Nat → Option Addr) (L C : Nat → Nat) : Prop where
  c0 : ∀ i, i < n → w.cell? ⟨b, off + i * 6, none⟩ = some (.int .u64 (I i))
  c1 : ∀ i, i < n → w.cell? ⟨b, off + i * 6 + 1, none⟩ = some (.int .u64 (T i))
  c2 : ∀ i, i < n → w.cell? ⟨b, off + i * 6 + 2, none⟩ = some (.int .u8 (K i))
  c3 : ∀ i, i < n → w.cell? ⟨b, off + i * 6 + 3, none⟩ = some (.int .u64 (Q i))
  c4 : ∀ i, i < n → w.cell? ⟨b, off + i * 6 + 4, none⟩ = some (.int .u64 (S i))
  c5 : ∀ i, i < n → w.cell? ⟨b, off + i * 6 + 5, none⟩ = some (.slice (A i) (L i) (C i))
theorem Ents.later {w w' : World} {b off n B : Nat} {I T K Q S : Nat → Int} {A : Nat → Option Addr} {L C : Nat → Nat} (h : Ents w b off n I T K Q S A L C) (hb : n ≠ 0 → b < B) (hw : Below B w w') : Ents w' b off n I T K Q S A L C :=
  ⟨fun i hi => (hw.cell (p := ⟨b, off + i * 6, none⟩) (hb (by omega))).trans (h.c0 i hi), fun i hi => (hw.cell (p := ⟨b, off + i * 6 + 1, none⟩) (hb (by omega))).trans (h.c1 i hi), fun i hi => (hw.cell (p := ⟨b, off + i * 6 + 2, none⟩) (hb (by omega))).trans (h.c2 i hi),
   fun i hi => (hw.cell (p := ⟨b, off + i * 6 + 3, none⟩) (hb (by omega))).trans (h.c3 i hi), fun i hi => (hw.cell (p := ⟨b, off + i * 6 + 4, none⟩) (hb (by omega))).trans (h.c4 i hi), fun i hi => (hw.cell (p := ⟨b, off + i * 6 + 5, none⟩) (hb (by omega))).trans (h.c5 i hi)⟩

def key (c : Chg) : Int × List UInt8 := (c.idx, c.d)
/-- The EntryVoters of the first n entries. -/
def el (I K : Nat → Int) (D : Nat → List UInt8) : Nat → List (Int × List UInt8)
  | 0 => []
  | n + 1 => if K n = 2 then el I K D n ++ [(I n, D n)] else el I K D n
theorem el_length (I K : Nat → Int) (D : Nat → List UInt8) : ∀ n, (el I K D n).length ≤ n
  | 0 => by simp [el]
  | n + 1 => by
    have := el_length I K D n
    unfold el; split
    · simp; omega
    · omega

theorem el_in {I K : Nat → Int} {D : Nat → List UInt8} {n : Nat} (h : K n = 2) : el I K D (n + 1) = el I K D n ++ [(I n, D n)] := by simp only [el, if_pos h]
theorem el_out {I K : Nat → Int} {D : Nat → List UInt8} {n : Nat} (h : ¬ K n = 2) : el I K D (n + 1) = el I K D n := by simp only [el, if_neg h]
theorem HS.norm {wr : World} {hb g : Nat} {v : Value} {cs : List Chg} (h : HS wr hb g v cs) : ∃ g2, HS wr hb g2 v cs ∧ g2 ≤ wr.heap.size := by
  have hlt := h.rh.lt
  rcases h.own.2 with ⟨rfl, h0⟩ | ⟨g', cap, cur, e, hg, hc, _⟩
  · have hcs : cs = [] := List.length_eq_zero_iff.1 h0
    subst hcs
    exact ⟨hb + 1, ⟨h.rh, h.own, (fun k hk => by cases hk), (fun c hc => by cases hc), by omega⟩, by omega⟩
  · have hgg : g' = g := h.blk g' (by rw [e]; rfl)
    exact ⟨g, h, by rw [← hgg]; exact Nat.le_of_lt (Array.getElem?_eq_some_iff.1 hc).1⟩

set_option maxRecDepth 100000 in
set_option maxHeartbeats 2000000 in
theorem takeIn_any (w0 : World) (hb g : Nat) (v : Value) (cs : List Chg) (ao : Option Addr) (eb eo n ecap : Nat) (I T K Q S : Nat → Int) (A : Nat → Option Addr) (L C : Nat → Nat) (D : Nat → List UInt8) (w : World)
    (hn : n ≤ 30000) (hl : cs.length + n < 100000) (hao : n ≠ 0 → ao = some ⟨eb, eo, none⟩) (heb : n ≠ 0 → eb < hb) (hE : Ents w eb eo n I T K Q S A L C) (h0 : Below w0.heap.size w0 w) (h0b : w0.heap.size ≤ hb)
    (hD : ∀ i, i < n → InB w0 (.slice (A i) (L i) (C i)) (D i) ∧ (D i).length ≤ 1048576) (hI : ∀ i, i < n → 0 ≤ I i ∧ I i ≤ 18446744073709551615) (h : HS w hb g v cs) (hs : ∀ i j, i < j → j < cs.length → ix cs i ≤ ix cs j) :
    Calls Tryf.prog 34 #[.pointer (some ⟨hb, 0, none⟩), .slice ao n ecap] w fun e w' => e = .returned (.tuple #[]) ∧
      (∃ g' v' cs', HS w' hb g' v' cs' ∧ (n = 0 → cs'.map key = cs.map key) ∧ (n ≠ 0 → ∃ p, Parts cs.length (ix cs) (I 0) p ∧ cs'.map key = (cs.take p).map key ++ el I K D n)) ∧ Below hb w w' := by
  by_cases hn0 : n = 0
  · subst hn0
    have H : Hid (HS w hb g v cs) := h
    clear h hs hE hao heb hD hI
    go_enter Tryf.func34, Tryf.ntmps34
    go_wp2_with fail
    refine bodyPost_ret (results_none rfl _ _ _) rfl ?_
    exact ⟨rfl, ⟨g, v, cs, H.out, fun _ => rfl, fun h => absurd rfl h⟩, Below.refl _ _⟩
  obtain rfl := hao hn0
  have hcut := cut_any hb g v cs (I 0) (hI 0 (by omega)).1 (hI 0 (by omega)).2 w (by omega) h hs
  have e0 : w.cell? ⟨eb, eo, none⟩ = some (.int .u64 (I 0)) := by have := hE.c0 0 (by omega); simpa using this
  have hd0 : ((n : Int) == 0) = false := beq_eq_false_iff_ne.2 (by omega)
  have hnp : (0 : Int) < (n : Int) := by omega
  have HE : Hid (Ents w eb eo n I T K Q S A L C) := hE
  have HDD : Hid (∀ i, i < n → InB w0 (.slice (A i) (L i) (C i)) (D i) ∧ (D i).length ≤ 1048576) := hD
  have hhb := h.rh.lt
  have hebb := heb hn0
  clear h hs hE hD hI hao heb
  go_enter Tryf.func34, Tryf.ntmps34
  go_wp2_with fail
  refine hcut.mono ?_
  clear hcut
  rintro e w1 ⟨rfl, ⟨v1, p, hp, h1⟩, hb1⟩
  have HP : Hid (Parts cs.length (ix cs) (I 0) p) := hp
  have H1 : Hid (HS w1 hb g v1 (cs.take p)) := h1
  have HB1 : Hid (Below hb w w1) := hb1
  clear hp h1 hb1 e0
  go_wp2_with fail
  go_loopw [19] (fun vk wr => ∃ (k g' : Nat) (v' : Value) (cs' : List Chg), k ≤ n ∧ vk = .int .i64 k ∧ HS wr hb g' v' cs' ∧ cs'.map key = (cs.take p).map key ++ el I K D k ∧ Below hb w wr) (fun vk _ => n - (intOf vk).toNat)
  case atStart => exact ⟨0, g, v1, cs.take p, by omega, rfl, H1.out, by simp [el], HB1.out⟩
  case round =>
    clear H1 HB1
    obtain ⟨k, g', v', cs', hk, rfl, hH, hkey, hB⟩ := hrel
    have HH : Hid (HS wr hb g' v' cs') := hH
    have HK : Hid (cs'.map key = (cs.take p).map key ++ el I K D k) := hkey
    have HB : Hid (Below hb w wr) := hB
    have hcl : cs'.length < 100000 := by
      have h1 := congrArg List.length hkey
      have h2 := el_length I K D k
      simp at h1; omega
    have hhb' := hH.rh.lt
    have hEk := HE.out.later (fun _ => hebb) hB
    by_cases hkn : k < n
    · have c0 := hEk.c0 k hkn
      have c1 := hEk.c1 k hkn
      have c2 := hEk.c2 k hkn
      have c3 := hEk.c3 k hkn
      have c4 := hEk.c4 k hkn
      have c5 := hEk.c5 k hkn
      have hk1 : (k : Int) < (n : Int) := by omega
      clear hH hkey hB hEk
      by_cases hK2 : K k = 2
      · have hbK : (K k == 2) = true := by simpa using hK2
        have HK2 : Hid (el I K D (k + 1) = el I K D k ++ [(I k, D k)]) := el_in hK2
        have h0r : Below w0.heap.size w0 wr := h0.trans (HB.out.mono h0b)
        have hbo : ∀ o, Below wr.heap.size wr (wr.alloc o) := fun o => (Below.refl _ wr).alloc (Nat.le_refl _) o
        have hdv := fun o => decodeVoters_any (.slice (A k) (L k) (C k)) (D k) (wr.alloc o) (HDD.out k hkn).2 (((HDD.out k hkn).1.below h0r).below (hbo o))
        clear hK2
        go_wp2_with fail
        refine (hdv _).mono ?_
        clear hdv
        rintro e w2 ⟨⟨s0, s1, s2, s3, s4, err, a, b, c, m1, m2, rfl, hres, l0, l1, l3, l2, l4, _⟩, hb2⟩
        obtain ⟨g2, hg2, hg2l⟩ := HH.out.norm
        have hbw : Below wr.heap.size wr w2 := (hbo _).trans (hb2.mono (by simp))
        have hbo2 : ∀ o, Below w2.heap.size w2 (w2.alloc o) := fun o => (Below.refl _ w2).alloc (Nat.le_refl _) o
        have hH2 := fun o => (hg2.below hbw).below (hbo2 o)
        have hmm : ∀ (o : Obj) (v : Value) (zs : List Int), Lst (wr.heap.size + 1 ≤ ·) w2 v zs → Lst (fun b => b ≠ hb ∧ b ≠ g2) (w2.alloc o) v zs := fun o v zs h => (h.mono (q := fun b => b ≠ hb ∧ b ≠ g2) (fun b hb' => by omega)).below (hbo2 o)
        have hcok : ∀ o, Chg.ok (fun b => b ≠ hb ∧ b ≠ g2) (w2.alloc o) ⟨I k, D k, s0, s1, s2, s3, s4⟩ := fun o => ⟨a, b, c, m1, m2, hres, hmm o _ _ (by simpa using l0), hmm o _ _ (by simpa using l1), hmm o _ _ (by simpa using l3), hmm o _ _ (by simpa using l2), hmm o _ _ (by simpa using l4)⟩
        have hadd := fun o => add_any hb g2 v' cs' ⟨I k, D k, s0, s1, s2, s3, s4⟩ (w2.alloc o) hcl (hH2 o) (hcok o)
        have ce0 : w2.cell? ⟨wr.heap.size, 0, none⟩ = some (.int .u64 (I k)) := by
          have hh := hb2.block wr.heap.size (by simp)
          rw [heap_alloc_new] at hh
          simp [World.cell?, hh]
        have hlt2 : wr.heap.size < w2.heap.size := by have := hb2.size; simp at this; omega
        have ce0' : ∀ o, (w2.alloc o).cell? ⟨wr.heap.size, 0, none⟩ = some (.int .u64 (I k)) := fun o => (World.cell?_alloc_lt _ _ _ hlt2).trans ce0
        obtain ⟨xa, ya, f0, _, _⟩ := l0.open
        obtain ⟨xb, yb, f1, _, _⟩ := l1.open
        obtain ⟨xc, yc, f2, _, _⟩ := l2.open
        obtain ⟨xd, yd, f3, _, _⟩ := l3.open
        obtain ⟨xe, ye, f4, _, _⟩ := l4.open
        have HBX : Hid (∀ o, Below hb w (w2.alloc o)) := fun o => (HB.out.trans (hbw.mono (by omega))).alloc (by have := HB.out.size; have := hbw.size; omega) o
        clear l0 l1 l2 l3 l4 hres hH2 hmm hcok hb2 hbw hg2
        subst f0 f1 f2 f3 f4
        go_wp2_with fail
        refine (hadd _).mono ?_
        clear hadd
        rintro e w3 ⟨rfl, ⟨g3, v3, h3⟩, hb3⟩
        have H3 : Hid (HS w3 hb g3 v3 _) := h3
        have HB3 : Hid (Below hb w w3) := (HBX.out _).trans hb3
        clear h3 hb3 HBX
        go_wp2_with fail
        go_roundw
        case rel =>
          refine ⟨k + 1, g3, v3, _, by omega, by go_num, H3.out, ?_, HB3.out⟩
          rw [HK2.out, List.map_append, HK.out, List.append_assoc]
          rfl
        case measure => simp [intOf]; omega
      · have hbK : (K k == 2) = false := by simpa using hK2
        have HK2 : Hid (el I K D (k + 1) = el I K D k) := el_out hK2
        clear hK2
        go_wp2_with fail
        go_roundw
        case rel => exact ⟨k + 1, g', v', cs', by omega, by go_num, HH.out.below ((Below.refl _ wr).alloc (Nat.le_refl _) _), by rw [HK2.out]; exact HK.out, HB.out.alloc (by have := HB.out.size; omega) _⟩
        case measure => simp [intOf]; omega
    · have hd : decide ((k : Int) < (n : Int)) = false := by simp; omega
      obtain rfl : k = n := by omega
      clear hH hkey hB hEk
      go_wp2_with fail
      go_end0
      exact ⟨rfl, ⟨g', v', cs', HH.out, fun h => absurd h hn0, fun _ => ⟨p, HP.out, HK.out⟩⟩, HB.out⟩
end Go.Proofs.Qxb6615150aFmt
