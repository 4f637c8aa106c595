import Derived.Test.Qxb6615150aFmtCopy
namespace Go.Proofs.Qxb6615150aFmt
open Go.RowKit

/-- G 0 .. G (t-1), each but those that equal the one before. -/
def dl (G : Nat → Int) : Nat → List Int
  | 0 => []
  | t + 1 => if t = 0 ∨ G t ≠ G (t - 1) then dl G t ++ [G t] else dl G t
theorem dl_take {G : Nat → Int} {t : Nat} (h : t = 0 ∨ G t ≠ G (t - 1)) : dl G (t + 1) = dl G t ++ [G t] := by simp only [dl, if_pos h]
theorem dl_skip {G : Nat → Int} {t : Nat} (h0 : t ≠ 0) (h : G t = G (t - 1)) : dl G (t + 1) = dl G t := by simp only [dl]; rw [if_neg (by rintro (h' | h'); exact h0 h'; exact h' h)]
theorem dl_length (G : Nat → Int) : ∀ t, (dl G t).length ≤ t
  | 0 => by simp [dl]
  | t + 1 => by
    have := dl_length G t
    simp only [dl]; split
    · simp; omega
    · omega

theorem clear_run (g k n cap : Nat) (cs : Nat) (f : Nat → Value) (w : World) (hr : w.rowIs g 43 cs f) (hk : k + n ≤ cs) :
    ∃ w1 v, (∀ ty, (Builtin.clear_ #[22] ty #[.slice (some ⟨g, k, none⟩) n cap]).run Tryf.prog w = .ok v w1) ∧ (∀ j, j < k → w1.cell? ⟨g, j, none⟩ = some (f j)) ∧ ∀ base w0, base ≤ g → Below base w0 w → Below base w0 w1 := by
  obtain ⟨c, hg, hcs, hc⟩ := hr
  cases n with
  | zero => exact ⟨w, .tuple #[], fun ty => by simp [Builtin.clear_], fun j hj => by simp [World.cell?, hg, hc j (by omega)], fun base w0 _ h => h⟩
  | succ n =>
    have hst := run_storeCells_at Tryf.prog g k 43 (List.replicate (n + 1) (.int .u64 0)) 0 c w hg (by simp; omega) (by intro v hv; rw [List.eq_of_mem_replicate hv]; rfl)
    have hz : (zeroValue 43).run Tryf.prog w = .ok (.int .u64 0) w := by kernel_rfl
    have he : (Builtin.zeroCells (Value.int .u64 0).cells (n + 1)).toList = List.replicate (n + 1) (.int .u64 0) := by
      apply List.ext_getElem
      · simp [Builtin.zeroCells, Value.cells]
      · intro i h1 h2; simp [Builtin.zeroCells, Value.cells, Nat.mod_one]
    generalize hrow : (c.toList.take (k + 0) ++ List.replicate (n + 1) (Value.int .u64 0) ++ c.toList.drop (k + 0 + (List.replicate (n + 1) (Value.int .u64 0)).length)).toArray = row at hst
    refine ⟨w.setRow g row, .tuple #[], ?_, fun j hj => ?_, fun base w0 hb h => below_setRow h hb _⟩
    · intro ty; simp only [Builtin.clear_]; simp [run_underlying Tryf.underlying22, hz, he]; rw [hst]; rfl
    · simp only [World.cell?, setRow_heap w g c row 43 _ hg]
      have := hc j (by omega)
      rw [← hrow]
      simp [List.getElem?_append, show j < min k c.size by omega, show j < c.size by omega] at this ⊢
      exact this

set_option maxHeartbeats 1000000 in
theorem compact_walk (g n cap : Nat) (G : Nat → Int) (f : Nat → Value) (w : World) (hn : n ≤ 4000000) (hnc : n ≤ cap) (hcap : cap ≤ 9223372036854775807) (hr : w.rowIs g 43 cap f) (hf : ∀ t, t < n → f t = .int .u64 (G t)) :
    Calls Tryf.prog 45 #[.slice (some ⟨g, 0, none⟩) n cap] w fun e w' => ∃ k C, e = .returned (.slice (some ⟨g, 0, none⟩) k cap) ∧ k ≤ n ∧ seg C 0 k = dl G n ∧ (∀ j, j < k → w'.cell? ⟨g, j, none⟩ = some (.int .u64 (C j))) ∧ ∀ base w0, base ≤ g → Below base w0 w → Below base w0 w' := by
  have HR : Hid (w.rowIs g 43 cap f) := hr
  have hcell : ∀ t, t < n → w.cell? ⟨g, t, none⟩ = some (.int .u64 (G t)) := fun t ht => by rw [hr.cell (by omega), hf t ht]
  have HF : Hid (∀ t, t < n → f t = .int .u64 (G t)) := hf
  clear hr hf
  have hseg : ∀ k, (∀ j, 1 ≤ j → j < k → G j ≠ G (j - 1)) → seg G 0 k = dl G k := by
    intro k
    induction k with
    | zero => intro _; simp [seg, dl]
    | succ k ih => intro h; rw [seg_snoc G (Nat.zero_le k), ih (fun j h1 h2 => h j h1 (by omega)), dl_take (by rcases Nat.eq_zero_or_pos k with e | e; exact .inl e; exact .inr (h k e (by omega)))]
  have HG : Hid _ := hseg
  clear hseg
  by_cases h2 : n < 2
  · go_enter Tryf.func45, Tryf.ntmps45
    go_wp2_with fail
    go_ret
    exact ⟨n, G, rfl, Nat.le_refl _, HG.out n (fun j h1 h3 => by omega), hcell, fun _ _ _ h => h⟩
  go_enter Tryf.func45, Tryf.ntmps45
  go_wp2_with fail
  go_loopw [3] (fun vk wr => ∃ k : Nat, 1 ≤ k ∧ k ≤ n ∧ vk = .int .i64 k ∧ (∀ j, 1 ≤ j → j < k → G j ≠ G (j - 1)) ∧ ∃ q, wr = w.drewN q) (fun vk _ => n - (intOf vk).toNat)
  case atStart => exact ⟨1, by omega, by omega, rfl, fun j h1 h2 => by omega, 0, rfl⟩
  case round =>
    obtain ⟨k, hk1, hk, rfl, hj, q, rfl⟩ := hrel
    have HJ : Hid (∀ j, 1 ≤ j → j < k → G j ≠ G (j - 1)) := hj
    clear hj
    by_cases hlt : k < n
    · have e1 := hcell k hlt
      have e2 := hcell (k - 1) (by omega)
      obtain ⟨p, rfl⟩ : ∃ p, k = p + 1 := ⟨k - 1, by omega⟩
      rw [show p + 1 - 1 = p by omega] at e2
      have hk0 : (0 : Int) ≤ (p : Int) := by omega
      have hk1 : (p : Int) + 1 < (n : Int) := by omega
      have hk2 : (p : Int) < (n : Int) := by omega
      have HC : Hid _ := hcell
      clear hcell
      by_cases hq : G (p + 1) = G p
      · have hb : (G (p + 1) == G p) = true := by simpa using hq
        have HQ : Hid (G (p + 1) = G p) := hq
        clear hq
        have HS : Hid (seg G 0 (p + 1) = dl G (p + 2)) := by
          have h := HG.out (p + 1) HJ.out
          show seg G 0 (p + 1) = dl G (p + 1 + 1)
          rw [dl_skip (t := p + 1) (by omega) HQ.out]
          exact h
        go_wp2_with fail
        go_quiet (fail)
        go_wp2_with fail
        obtain ⟨m0, hm0⟩ : ∃ m0, n - (p + 1) = m0 := ⟨_, rfl⟩
        obtain ⟨cm, hcm⟩ : ∃ cm, cap - (p + 1) = cm := ⟨_, rfl⟩
        rw [hm0, hcm]
        have hm1 : p + 1 + m0 = n := by omega
        have hm2 : 1 ≤ m0 := by omega
        clear hm0 hcm e1 e2 hb
        go_loopw [3, 5] (fun vk v2 wr => ∃ (k r : Nat) (C : Nat → Int) (f' : Nat → Value), vk = .int .i64 k ∧ v2 = .int .i64 (r + 1 : Nat) ∧ r + 1 ≤ m0 ∧ p + 1 ≤ k ∧ k ≤ p + 1 + r ∧ seg C 0 k = dl G (p + 2 + r) ∧ (∀ j, k ≤ j → j < n → C j = G j) ∧ wr.rowIs g 43 cap f' ∧ (∀ j, j < n → f' j = .int .u64 (C j)) ∧ ∀ base w0, base ≤ g → Below base w0 w → Below base w0 wr)
          (fun _ v2 _ => m0 - (intOf v2).toNat)
        case atStart => exact ⟨p + 1, 0, G, f, rfl, rfl, by omega, by omega, by omega, HS.out, fun _ _ _ => rfl, HR.out, HF.out, fun base w0 _ h => below_drewN h _⟩
        case round =>
          clear HR HF HC HS
          obtain ⟨k, r, C, f', rfl, rfl, hr, hk3, hk4, hseg, hC, hrow, hf', hbel⟩ := hrel
          have H1 : Hid _ := hseg
          have H2 : Hid (∀ j, k ≤ j → j < n → C j = G j) := hC
          have H3 : Hid (wr.rowIs g 43 cap f') := hrow
          have H4 : Hid _ := hf'
          have H5 : Hid _ := hbel
          by_cases hlt2 : r + 1 < m0
          · have c1 : wr.cell? ⟨g, p + 1 + (r + 1), none⟩ = some (.int .u64 (G (p + 1 + (r + 1)))) := by rw [hrow.cell (by omega), hf' _ (by omega), hC _ (by omega) (by omega)]
            have c2 : wr.cell? ⟨g, p + 1 + r, none⟩ = some (.int .u64 (G (p + 1 + r))) := by rw [hrow.cell (by omega), hf' _ (by omega), hC _ (by omega) (by omega)]
            have c3 : wr.cell? ⟨g, k, none⟩ = some (.int .u64 (C k)) := by rw [hrow.cell (by omega), hf' _ (by omega)]
            have c4 := hrow.frozen k
            have i1 : (r : Int) + 1 < (m0 : Int) := by omega
            have i2 : (r : Int) < (m0 : Int) := by omega
            have i3 : (k : Int) < (n : Int) := by omega
            clear hseg hC hrow hf' hbel
            by_cases hq : G (p + 1 + (r + 1)) = G (p + 1 + r)
            · have hb : (G (p + 1 + (r + 1)) != G (p + 1 + r)) = false := by simpa using hq
              have HQ2 : Hid (G (p + 1 + (r + 1)) = G (p + 1 + r)) := hq
              clear hq
              go_wp2_with fail
              go_quiet (fail)
              go_wp2_with fail
              go_roundw
              case rel =>
                refine ⟨k, r + 1, C, f', rfl, by go_num, by omega, by omega, by omega, ?_, H2.out, H3.out, H4.out, fun base w0 h1 h => below_drewN (H5.out base w0 h1 h) _⟩
                have := dl_skip (G := G) (t := p + 2 + r) (by omega) (by rw [show p + 2 + r - 1 = p + 1 + r by omega, show p + 2 + r = p + 1 + (r + 1) by omega]; exact HQ2.out)
                rw [show p + 2 + (r + 1) = p + 2 + r + 1 by omega, this]
                exact H1.out
              case measure => simp [intOf]; omega
            · have hb : (G (p + 1 + (r + 1)) != G (p + 1 + r)) = true := by simpa using hq
              have HQ2 : Hid (¬ G (p + 1 + (r + 1)) = G (p + 1 + r)) := hq
              clear hq
              go_wp2_with fail
              go_quiet (fail)
              go_wp2_with fail
              go_roundw
              case rel =>
                refine ⟨k + 1, r + 1, (fun t => if t = k then G (p + 1 + (r + 1)) else C t), _, by go_num, by go_num, by omega, by omega, by omega, ?_, fun j h1 h2 => ?_, (show wr.rowIs g 43 cap f' from H3.out).set k (.int .u64 (G (p + 1 + (r + 1)))), fun j h1 => ?_, fun base w0 h1 h => (below_drewN (H5.out base w0 h1 h) _).setCell h1 _⟩
                · have := dl_take (G := G) (t := p + 2 + r) (.inr (by rw [show p + 2 + r - 1 = p + 1 + r by omega, show p + 2 + r = p + 1 + (r + 1) by omega]; exact HQ2.out))
                  rw [show p + 2 + (r + 1) = p + 2 + r + 1 by omega, this, seg_snoc _ (Nat.zero_le k), ← H1.out, if_pos rfl, show p + 2 + r = p + 1 + (r + 1) by omega]
                  congr 1
                  exact seg_congr fun t _ ht => by show (if t = k then _ else C t) = C t; rw [if_neg (by omega)]
                · show (if j = k then _ else C j) = G j
                  rw [if_neg (by omega)]; exact H2.out j (by omega) h2
                · show (if j = k then Value.int .u64 _ else f' j) = .int .u64 (if j = k then _ else C j)
                  split
                  · rfl
                  · exact H4.out j h1
              case measure => simp [intOf]; omega
          · obtain ⟨w1, v1, hcl, hc1, hc2⟩ := clear_run g k (n - k) (cap - k) cap f' wr hrow (by omega)
            have X1 : Hid (∀ j, j < k → w1.cell? ⟨g, j, none⟩ = some (f' j)) := hc1
            have X2 : Hid (∀ base w0, base ≤ g → Below base w0 wr → Below base w0 w1) := hc2
            have i3 : (k : Int) ≤ (n : Int) := by omega
            have hre : r + 1 = m0 := by omega
            have hd : decide (((r + 1 : Nat) : Int) < (m0 : Int)) = false := by simp; omega
            clear hseg hC hrow hf' hbel hc1 hc2
            go_wp2_with fail
            go_ret
            refine ⟨k, C, rfl, by omega, ?_, fun j hj => ?_, fun base w0 h1 h => X2.out base w0 h1 (H5.out base w0 h1 h)⟩
            · rw [H1.out, show p + 2 + r = n by omega]
            · rw [X1.out j hj, H4.out j (by omega)]
      · have hb : (G (p + 1) == G p) = false := by simpa using hq
        have HQ : Hid (¬ G (p + 1) = G p) := hq
        clear hq
        go_wp2_with fail
        go_quiet (fail)
        go_wp2_with fail
        go_roundw
        case rel =>
          refine ⟨p + 1 + 1, by omega, by omega, by go_num, fun j h1 h2 => ?_, _, rfl⟩
          by_cases e : j = p + 1
          · subst e; exact HQ.out
          · exact HJ.out j h1 (by omega)
        case measure => simp [intOf]; omega
    · have hd : decide ((k : Int) < (n : Int)) = false := by simp; omega
      have HC : Hid _ := hcell
      clear hcell
      go_wp2_with fail
      go_ret
      obtain rfl : k = n := by omega
      exact ⟨k, G, rfl, Nat.le_refl _, HG.out k HJ.out, HC.out, fun base w0 _ h => below_drewN h q⟩
end Go.Proofs.Qxb6615150aFmt
