import Derived.Test.Qxb6615150aFmtDec
namespace Go.Proofs.Qxb6615150aFmt
open Go.RowKit Go.Lib

def sliceLen : Value → Nat
  | .slice _ n _ => n
  | _ => 0

set_option maxRecDepth 100000 in
set_option maxHeartbeats 4000000 in
theorem decodeVoters_any (v : Value) (d : List UInt8) (w : World) (hd : d.length ≤ 1048576) (hv : InB w v d) :
    Calls Tryf.prog 49 #[v] w fun e w' => DV w.heap.size d e w' ∧ Below w.heap.size w w' := by
  obtain ⟨ao0, cap0, ev, _⟩ := id hv
  have HV : Hid (InB w (.slice ao0 d.length cap0) d) := ev ▸ hv
  have hR0 : DR w ((w.alloc (.cells #[.slice none 0 0, .slice none 0 0, .slice none 0 0, .slice none 0 0, .slice none 0 0] 27)).alloc (.cells #[.slice none 0 0, .slice none 0 0, .slice none 0 0] 33)) 0 (fun _ => []) (fun _ => .slice none 0 0) := by
    refine ⟨⟨_, by simpa using heap_alloc_new (w.alloc (.cells #[.slice none 0 0, .slice none 0 0, .slice none 0 0, .slice none 0 0, .slice none 0 0] 27)) (.cells #[.slice none 0 0, .slice none 0 0, .slice none 0 0] 33), rfl, ?_⟩, ⟨_, (heap_alloc_old _ _ (by simp)).trans (heap_alloc_new w _), rfl, ?_⟩, fun j hj => World.ownsRow_nil _ _ 43 1, ((Below.refl _ w).alloc (Nat.le_refl _) _).alloc (by simp) _, by simp⟩
    · intro i hi; rcases (show i = 0 ∨ i = 1 ∨ i = 2 by omega) with rfl | rfl | rfl <;> rfl
    · intro i hi; rcases (show i = 0 ∨ i = 1 ∨ i = 2 ∨ i = 3 ∨ i = 4 by omega) with rfl | rfl | rfl | rfl | rfl <;> rfl
  have HR0 : Hid (DR w ((w.alloc (.cells #[.slice none 0 0, .slice none 0 0, .slice none 0 0, .slice none 0 0, .slice none 0 0] 27)).alloc (.cells #[.slice none 0 0, .slice none 0 0, .slice none 0 0] 33)) 0 (fun _ => []) (fun _ => .slice none 0 0)) := hR0
  clear hR0 hv
  subst ev
  go_enter Tryf.func49, Tryf.ntmps49
  go_wp2_with fail
  refine (lists_any (w.heap.size + 1) _).mono ?_
  rintro e w1 ⟨rfl, hb1⟩
  have HR1 : Hid (DR w w1 0 (fun _ => []) (fun _ => .slice none 0 0)) := HR0.out.below hb1
  clear hb1 HR0
  go_wp2_with fail
  go_loopw [0, 14] (fun vd vi wr => ∃ (i : Nat) (M : Nat → Value) (Z : Nat → List Int) (dc : List UInt8), i ≤ 3 ∧ vi = .int .i64 i ∧ InB w vd dc ∧ Prg i d dc Z ∧ (∀ j, i ≤ j → Z j = [] ∧ M j = .slice none 0 0) ∧ DR w wr i Z M) (fun _ vi _ => 3 - (intOf vi).toNat)
  case atStart => exact ⟨0, _, fun _ => [], d, by omega, rfl, HV.out, .inl ⟨rfl, rfl, rfl, rfl, rfl⟩, fun j _ => ⟨rfl, rfl⟩, HR1.out⟩
  case round =>
    clear HR1 HV
    obtain ⟨i, M, Z, dc, hi, rfl, hvd, hP, hN, hR⟩ := hrel
    obtain ⟨ad, cd, evd, _⟩ := id hvd
    have HVD : Hid (InB w (.slice ad dc.length cd) dc) := evd ▸ hvd
    have HP : Hid (Prg i d dc Z) := hP
    have HN : Hid (∀ j, i ≤ j → Z j = [] ∧ M j = .slice none 0 0) := hN
    have HR : Hid (DR w wr i Z M) := hR
    have hdl := hP.length
    clear hvd hP hN hR
    subst evd
    by_cases hlt : i < 3
    · by_cases hbr : i = 2 ∧ dc = []
      · have hi2 := hbr.1
        have hdce := hbr.2
        have HF : Hid (rd3 d = some (Z 0, Z 1, Z 2, dc)) := by
          show _ = _
          rw [hdce]
          refine Prg.ended ?_
          rw [← hi2, ← hdce]; exact HP.out
        have hidx := index73 (w.heap.size + 1) i hlt wr
        have hd0 : decide ((2 : Int) ≤ (i : Int)) = true := by simp; omega
        have hd1 : ((dc.length : Int) == 0) = true := by rw [hdce]; rfl
        clear hbr hi2 hdce
        obtain ⟨x0, y0, m0, _, _⟩ := (Lst.of_owns (HR.out.own 0 (by omega))).open
        obtain ⟨x1, y1, m1, _, _⟩ := (Lst.of_owns (HR.out.own 1 (by omega))).open
        obtain ⟨x2, y2, m2, _, _⟩ := (Lst.of_owns (HR.out.own 2 (by omega))).open
        have g0 := HR.out.rm.cell (i := 0) (by omega)
        have g1 := HR.out.rm.cell (i := 1) (by omega)
        have g2 := HR.out.rm.cell (i := 2) (by omega)
        have hnv := newVoters_any _ _ _ _ (Z 0) (Z 1) (Z 2) wr (by have := hdl.1 0 (by omega); omega) (by have := hdl.1 1 (by omega); omega) (by have := hdl.1 2 (by omega); omega) (Lst.of_owns (HR.out.own 0 (by omega))).toIn (Lst.of_owns (HR.out.own 1 (by omega))).toIn (Lst.of_owns (HR.out.own 2 (by omega))).toIn
        rw [m0, m1, m2] at hnv
        rw [m0] at g0
        rw [m1] at g1
        rw [m2] at g2
        have hsz := HR.out.sz
        clear m0 m1 m2
        go_wp2_with fail
        refine hnv.mono ?_
        clear hnv g0 g1 g2
        rintro e w2 ⟨hc, hB2⟩
        have HB2 : Hid (Below w.heap.size w w2) := HR.out.bel.trans (hB2.mono HR.out.bel.size)
        have HRR2 : Hid (w2.rowIs w.heap.size 27 5 (fun _ => .slice none 0 0)) := HR.out.rr.of_block (hB2.block _ HR.out.rr.lt)
        have hs2 := hB2.size
        clear hB2
        rcases hc with ⟨hno, err, rfl, be, se, rfl, _, hbe, hce⟩ | ⟨hok, s0, s1, s2, s3, s4, rfl, l0, l1, l2, l3, l4⟩
        · have HX : Hid (¬ ∃ V O L, DecOk d V O L) := fun ⟨V, O, L, h⟩ => by
            have e := HF.out.symm.trans h.1
            simp only [Option.some.injEq, Prod.mk.injEq] at e
            obtain ⟨rfl, rfl, rfl, _⟩ := e
            exact hno h.2.1
          clear hno
          unfold nils
          have hce2 : ∀ o1 o2, ((w2.alloc o1).alloc o2).cell? ⟨be, 0, none⟩ = some (.string se) := fun o1 o2 => (World.cell?_alloc_lt _ _ _ (by simp; omega)).trans ((World.cell?_alloc_lt _ _ _ hbe).trans hce)
          have HCE : Hid (∀ o1 o2, ((w2.alloc o1).alloc o2).cell? ⟨be, 0, none⟩ = some (.string se)) := hce2
          clear hce2 hce
          go_wp2_with fail
          refine (errorf_wrap _ (.pointer (some ⟨be, 0, none⟩)) _ f5 (opErr _ se _ (HCE.out _ _)) (w2.heap.size + 1) (by simp [go_sem])).mono ?_
          rintro e w5 ⟨⟨t5, x5, rfl⟩, hB5⟩
          have hBa : Below w2.heap.size w2 w5 := (((Below.refl _ w2).alloc (Nat.le_refl _) _).alloc (by simp) _).trans (hB5.mono (by simp; omega))
          have hbl5 : Below w.heap.size w w5 := HB2.out.trans (hBa.mono HB2.out.size)
          have rr5 : w5.rowIs w.heap.size 27 5 (fun _ => .slice none 0 0) := HRR2.out.of_block (hBa.block _ (World.rowIs.lt HRR2.out))
          have q0 := rr5.cell (i := 0) (by omega)
          have q1 := rr5.cell (i := 1) (by omega)
          have q2 := rr5.cell (i := 2) (by omega)
          have q3 := rr5.cell (i := 3) (by omega)
          have q4 := rr5.cell (i := 4) (by omega)
          have qf := rr5.frozen
          have HT : Hid (∀ tmps : Array Value, _ → _ → _) := fun tmps h2 h3 => dec_bad (t := t5) (x := x5) (tmps := tmps) HX.out hbl5 rr5 h2 h3
          clear hB5 rr5 hbl5 hBa
          go_wp2_with fail
          exact HT.out _ rfl rfl
        · obtain ⟨b0, d0, f0, _, _⟩ := l0.open
          obtain ⟨b1, d1, f1, _, _⟩ := l1.open
          obtain ⟨b2, d2, f2, _, _⟩ := l2.open
          obtain ⟨b3, d3, f3, _, _⟩ := l3.open
          obtain ⟨b4, d4, f4, _, _⟩ := l4.open
          have hB3 : ∀ o, Below w2.heap.size w2 (w2.alloc o) := fun o => (Below.refl _ w2).alloc (Nat.le_refl _) o
          have HLL : Hid (∀ o, NVok (Z 0) (Z 1) (Z 2) ∧ Lst (wr.heap.size ≤ ·) (w2.alloc o) s0 (srt (Z 0)) ∧ Lst (wr.heap.size ≤ ·) (w2.alloc o) s1 (srt (Z 1)) ∧ Lst (wr.heap.size ≤ ·) (w2.alloc o) s2 (allOf (Z 0) (Z 1)) ∧ Lst (wr.heap.size ≤ ·) (w2.alloc o) s3 (srt (Z 2)) ∧ Lst (wr.heap.size ≤ ·) (w2.alloc o) s4 (memOf (Z 0) (Z 1) (Z 2))) :=
            fun o => ⟨hok, l0.below (hB3 o), l1.below (hB3 o), l2.below (hB3 o), l3.below (hB3 o), l4.below (hB3 o)⟩
          clear hok l0 l1 l2 l3 l4
          subst f0 f1 f2 f3 f4
          by_cases hz0 : Z 0 = []
          · have HX : Hid (¬ ∃ V O L, DecOk d V O L) := fun ⟨V, O, L, h⟩ => by
              have e := HF.out.symm.trans h.1
              simp only [Option.some.injEq, Prod.mk.injEq] at e
              obtain ⟨rfl, rfl, rfl, _⟩ := e
              exact h.2.2 hz0
            have hl0 : (srt (Z 0)).length = 0 := by rw [srt_length, hz0]; rfl
            clear hz0
            go_wp2_with fail
            refine (errorsNew_any _ _).mono ?_
            rintro e w5 ⟨err, rfl, ⟨be, se, rfl, _⟩, hB5⟩
            have hBa : Below w2.heap.size w2 w5 := (hB3 _).trans (hB5.mono (by simp))
            have hbl5 : Below w.heap.size w w5 := HB2.out.trans (hBa.mono HB2.out.size)
            have rr5 : w5.rowIs w.heap.size 27 5 (fun _ => .slice none 0 0) := HRR2.out.of_block (hBa.block _ (World.rowIs.lt HRR2.out))
            have q0 := rr5.cell (i := 0) (by omega)
            have q1 := rr5.cell (i := 1) (by omega)
            have q2 := rr5.cell (i := 2) (by omega)
            have q3 := rr5.cell (i := 3) (by omega)
            have q4 := rr5.cell (i := 4) (by omega)
            have qf := rr5.frozen
            have HT : Hid (∀ tmps : Array Value, _ → _ → _) := fun tmps h2 h3 => dec_bad (t := 91) (x := .pointer (some ⟨be, 0, none⟩)) (tmps := tmps) HX.out hbl5 rr5 h2 h3
            clear hB5 rr5 hbl5 hBa
            go_wp2_with fail
            exact HT.out _ rfl rfl
          · have hl0 : (((srt (Z 0)).length : Int) == 0) = false := beq_eq_false_iff_ne.2 (by have := List.length_pos_iff.2 hz0; rw [srt_length]; omega)
            have HZN : Hid (Z 0 ≠ []) := hz0
            clear hz0
            by_cases hdc : 0 < dc.length
            · have HX : Hid (¬ ∃ V O L, DecOk d V O L) := fun ⟨V, O, L, h⟩ => by
                have e := HF.out.symm.trans h.1
                simp only [Option.some.injEq, Prod.mk.injEq] at e
                obtain ⟨rfl, rfl, rfl, e⟩ := e
                simp [e] at hdc
              have hd2 : decide ((0 : Int) < (dc.length : Int)) = true := by simp; omega
              go_wp2_with fail
              refine (errorf_one _ 100 (by decide) (.iface 3 (.int .i64 (dc.length : Int))) _ f6 (opInt _ _ _) (w2.heap.size + 1) (by simp [go_sem])).mono ?_
              rintro e w5 ⟨err, rfl, ⟨be, se, rfl, _⟩, hB5⟩
              have hBa : Below w2.heap.size w2 w5 := ((hB3 _).alloc (by simp) _).trans (hB5.mono (by simp; omega))
              have hbl5 : Below w.heap.size w w5 := HB2.out.trans (hBa.mono HB2.out.size)
              have rr5 : w5.rowIs w.heap.size 27 5 (fun _ => .slice none 0 0) := HRR2.out.of_block (hBa.block _ (World.rowIs.lt HRR2.out))
              have q0 := rr5.cell (i := 0) (by omega)
              have q1 := rr5.cell (i := 1) (by omega)
              have q2 := rr5.cell (i := 2) (by omega)
              have q3 := rr5.cell (i := 3) (by omega)
              have q4 := rr5.cell (i := 4) (by omega)
              have qf := rr5.frozen
              have HT : Hid (∀ tmps : Array Value, _ → _ → _) := fun tmps h2 h3 => dec_bad (t := 91) (x := .pointer (some ⟨be, 0, none⟩)) (tmps := tmps) HX.out hbl5 rr5 h2 h3
              clear hB5 rr5 hbl5 hBa
              go_wp2_with fail
              exact HT.out _ rfl rfl
            · have hdc0 : dc.length = 0 := by omega
              have HOK : Hid (DecOk d (Z 0) (Z 1) (Z 2)) := by
                refine ⟨?_, (HLL.out (.cells #[] 0)).1, HZN.out⟩
                rw [HF.out, List.length_eq_zero_iff.1 hdc0]
              have hd2 : decide ((0 : Int) < (dc.length : Int)) = false := by rw [hdc0]; rfl
              have rr6 := fun o => World.rowIs.of_block (w' := w2.alloc o) HRR2.out ((hB3 o).block _ (World.rowIs.lt HRR2.out))
              have q0 := fun o => (rr6 o).cell (i := 0) (by omega)
              have q1 := fun o => (rr6 o).cell (i := 1) (by omega)
              have q2 := fun o => (rr6 o).cell (i := 2) (by omega)
              have q3 := fun o => (rr6 o).cell (i := 3) (by omega)
              have q4 := fun o => (rr6 o).cell (i := 4) (by omega)
              have qf := fun o => (rr6 o).frozen
              have HT : Hid (∀ o, ∀ tmps : Array Value, _ → _ → _) := fun o tmps h2 h3 => dec_good (tmps := tmps) HOK.out (HB2.out.trans ((hB3 o).mono HB2.out.size)) (rr6 o) ((HLL.out o).2.1.mono (fun b hb => by omega)) ((HLL.out o).2.2.1.mono (fun b hb => by omega)) ((HLL.out o).2.2.2.1.mono (fun b hb => by omega)) ((HLL.out o).2.2.2.2.1.mono (fun b hb => by omega)) ((HLL.out o).2.2.2.2.2.mono (fun b hb => by omega)) h2 h3
              clear rr6 HLL HRR2 HB2
              go_wp2_with fail
              exact HT.out _ _ rfl rfl
      · have hidx := index73 (w.heap.size + 1) i hlt wr
        have HI : Hid (i < 3) := hlt
        have HBR : Hid (i = 2 → dc ≠ []) := fun h1 h2 => hbr ⟨h1, h2⟩
        have huv := uvarint_any _ dc wr (HVD.out.below HR.out.bel)
        go_upto_region 5 with fail
        go_cut [14, 24] from 14 to 61 (fun s1 s2 wc => s1 = .int .i64 i ∧ s2 = .bool false ∧ wc = wr)
        case first =>
          by_cases h2 : i < 2
          · have hd0 : decide ((2 : Int) ≤ (i : Int)) = false := by simp; omega
            clear hidx huv
            go_wp2_with fail
            go_meet
            case rel => exact ⟨rfl, rfl, rfl⟩
          · have hd0 : decide ((2 : Int) ≤ (i : Int)) = true := by simp; omega
            have hd1 : ((dc.length : Int) == 0) = false := by
              have := HBR.out (by omega)
              have := List.length_pos_iff.2 this
              exact beq_eq_false_iff_ne.2 (by omega)
            clear hidx huv
            go_wp2_with fail
            go_meet
            case rel => exact ⟨rfl, rfl, rfl⟩
        case rest =>
          obtain ⟨rfl, rfl, rfl⟩ := hcut
          go_wp2_with fail
          refine huv.mono ?_
          clear huv hidx
          rintro e w2 ⟨rfl, rfl⟩
          have hX0 : rdList dc = none → ¬ ∃ V O L, DecOk d V O L := fun h ⟨V, O, L, h'⟩ => by
            have h1 := h'.1
            rw [HP.out.fail HI.out HBR.out h] at h1; cases h1
          have hle := uvarintDec_le dc
          by_cases hn : (uvarintDec dc).2 ≤ 0
          · have HX : Hid (¬ ∃ V O L, DecOk d V O L) := hX0 (by unfold rdList; rw [if_pos hn])
            clear hX0
            go_wp2_with fail
            refine (errorsNew_any _ _).mono ?_
            rintro e w5 ⟨err, rfl, ⟨be, se, rfl, _⟩, hB5⟩
            have hR5 := HR.out.below hB5
            have q0 := hR5.rr.cell (i := 0) (by omega)
            have q1 := hR5.rr.cell (i := 1) (by omega)
            have q2 := hR5.rr.cell (i := 2) (by omega)
            have q3 := hR5.rr.cell (i := 3) (by omega)
            have q4 := hR5.rr.cell (i := 4) (by omega)
            have qf := hR5.rr.frozen
            have HT : Hid (∀ tmps : Array Value, _ → _ → _) := fun tmps h2 h3 => dec_bad (t := 91) (x := .pointer (some ⟨be, 0, none⟩)) (tmps := tmps) HX.out hR5.bel hR5.rr h2 h3
            clear hB5 hR5
            go_wp2_with fail
            exact HT.out _ rfl rfl
          · obtain ⟨m, hm⟩ := Int.eq_ofNat_of_zero_le (show 0 ≤ (uvarintDec dc).2 by omega)
            rw [hm] at hn hle
            have hmp : 0 < m := by omega
            have hml : m ≤ dc.length := by omega
            obtain ⟨b, off, rfl, _, hc1, hc2, hrest⟩ := HVD.out.rest hmp hml
            unfold maxLen at hc2
            have HX0 : Hid (rdList dc = none → ¬ ∃ V O L, DecOk d V O L) := hX0
            have HRL : Hid (rdList dc = rdIds (dc.drop m).length (uvarintDec dc).1 (dc.drop m) []) := by
              show rdList dc = _
              unfold rdList; rw [if_neg (by omega), hm, Int.toNat_natCast]
            rw [hm]
            clear hX0
            generalize hcn : (uvarintDec dc).1 = cnt at HRL ⊢
            have hcnt : cnt < 18446744073709551616 := by rw [← hcn]; exact uvarintDec_lt dc
            go_upto_region 9 with fail
            go_cut [0, 14] from 14 to 61 (fun s0 s1 wc => InB w s0 (dc.drop m) ∧ s1 = .int .i64 i ∧ wc = w2)
            case first =>
              by_cases hcm : cd = m
              · have hrest' : InB w (.slice (some ⟨b, off, none⟩) (dc.length - m) 0) (dc.drop m) := by
                  have he : dc.drop m = [] := List.drop_eq_nil_of_le (by omega)
                  rw [he]
                  exact ⟨_, _, by rw [show dc.length - m = 0 by omega]; rfl, .inl rfl⟩
                have HRS : Hid (InB w (.slice (some ⟨b, off, none⟩) (dc.length - m) 0) (dc.drop m)) := hrest'
                clear hrest hrest'
                go_wp2_with fail
                go_meet
                case rel => exact ⟨HRS.out, rfl, rfl⟩
              · have HRS : Hid (InB w (.slice (some ⟨b, off + m, none⟩) (dc.length - m) (cd - m)) (dc.drop m)) := hrest
                clear hrest
                go_wp2_with fail
                go_meet
                case rel => exact ⟨HRS.out, rfl, rfl⟩
            case rest =>
              obtain ⟨hv0, rfl, rfl⟩ := hcut
              have HV0 : Hid (InB w u0 (dc.drop m)) := hv0
              have HS0 : Hid (wc.rowIs (w.heap.size + 1) 33 3 (fun j => if j = i then .slice none 0 0 else M j)) := HR.out.rm.congr (g := fun j => if j = i then .slice none 0 0 else M j) (fun j _ => by
                show M j = if j = i then .slice none 0 0 else M j
                by_cases e : j = i
                · rw [if_pos e, e]; exact (HN.out i (Nat.le_refl _)).2
                · rw [if_neg e])
              clear hv0
              go_wp2_with fail
              go_loopw [0, 38] (fun v0 vk wr => ∃ (k : Nat) (acc : List Int) (vi : Value) (dk : List UInt8), vk = .int .u64 k ∧ k ≤ cnt ∧ InB w v0 dk ∧ rdIds dk.length (cnt - k) dk acc = rdIds (dc.drop m).length cnt (dc.drop m) [] ∧ acc.length + dk.length ≤ 1048576 ∧
                  wr.rowIs (w.heap.size + 1) 33 3 (fun j => if j = i then vi else M j) ∧ Same wc.heap.size (w.heap.size + 1) wc wr ∧ wr.ownsRow wc.heap.size 43 1 vi acc.length (acc.map (Value.int .u64)))
                (fun v0 _ _ => sliceLen v0)
              case atStart => exact ⟨0, [], .slice none 0 0, dc.drop m, rfl, by omega, HV0.out, rfl, by simp; omega, HS0.out, ⟨rfl, rfl, rfl, Nat.le_refl _, fun _ _ _ => rfl⟩, World.ownsRow_nil _ _ 43 1⟩
              case round =>
                clear HV0 HS0
                obtain ⟨k, acc, vi, dk, rfl, hk, hvd, hrd, hal, hrow, hsame, hown⟩ := hrel
                obtain ⟨ak, ck, evk, _⟩ := id hvd
                have HVK : Hid (InB w (.slice ak dk.length ck) dk) := evk ▸ hvd
                have HRD : Hid (rdIds dk.length (cnt - k) dk acc = rdIds (dc.drop m).length cnt (dc.drop m) []) := hrd
                have HRW : Hid (wr.rowIs (w.heap.size + 1) 33 3 (fun j => if j = i then vi else M j)) := hrow
                have HSM : Hid (Same wc.heap.size (w.heap.size + 1) wc wr) := hsame
                have HOW : Hid (wr.ownsRow wc.heap.size 43 1 vi acc.length (acc.map (Value.int .u64))) := hown
                have HBW : Hid (Below w.heap.size w wr) := HR.out.bel.trans ⟨hsame.os, hsame.tape, hsame.output, hsame.size, fun j hj => hsame.block j (by have := HR.out.sz; omega) (by omega)⟩
                clear hvd hrd hrow hsame hown
                subst evk
                by_cases hkc : k < cnt
                · have huv := uvarint_any _ dk wr (HVK.out.below HBW.out)
                  go_wp2_with fail
                  refine huv.mono ?_
                  clear huv
                  rintro e w3 ⟨rfl, rfl⟩
                  have hle' := uvarintDec_le dk
                  by_cases hn' : (uvarintDec dk).2 ≤ 0
                  · have HX : Hid (¬ ∃ V O L, DecOk d V O L) := HX0.out (by rw [HRL.out, ← HRD.out, rdIds_none (by omega) hn'])
                    go_wp2_with fail
                    refine (errorsNew_any _ _).mono ?_
                    rintro e w5 ⟨err, rfl, ⟨be, se, rfl, _⟩, hB5⟩
                    have hbl5 : Below w.heap.size w w5 := HBW.out.trans (hB5.mono HBW.out.size)
                    have rr5 : w5.rowIs w.heap.size 27 5 (fun _ => .slice none 0 0) := (HR.out.rr.of_block (HSM.out.block _ HR.out.rr.lt (by omega))).of_block (hB5.block _ (Nat.lt_of_lt_of_le HR.out.rr.lt HSM.out.size))
                    have q0 := rr5.cell (i := 0) (by omega)
                    have q1 := rr5.cell (i := 1) (by omega)
                    have q2 := rr5.cell (i := 2) (by omega)
                    have q3 := rr5.cell (i := 3) (by omega)
                    have q4 := rr5.cell (i := 4) (by omega)
                    have qf := rr5.frozen
                    have HT : Hid (∀ tmps : Array Value, _ → _ → _) := fun tmps h2 h3 => dec_bad (t := 91) (x := .pointer (some ⟨be, 0, none⟩)) (tmps := tmps) HX.out hbl5 rr5 h2 h3
                    clear hB5 rr5 hbl5
                    go_wp2_with fail
                    exact HT.out _ rfl rfl
                  · obtain ⟨m', hm'⟩ := Int.eq_ofNat_of_zero_le (show 0 ≤ (uvarintDec dk).2 by omega)
                    rw [hm'] at hn' hle'
                    have hmp' : 0 < m' := by omega
                    have hml' : m' ≤ dk.length := by omega
                    obtain ⟨b', off', rfl, _, hc1', hc2', hrest'⟩ := HVK.out.rest hmp' hml'
                    unfold maxLen at hc2'
                    have HNX : Hid (rdIds (dk.drop m').length (cnt - (k + 1)) (dk.drop m') (acc ++ [((uvarintDec dk).1 : Int)]) = rdIds (dc.drop m).length cnt (dc.drop m) []) := by
                      have h := rdIds_next (c := cnt - (k + 1)) (d := dk) (acc := acc) (by omega)
                      rw [hm', Int.toNat_natCast] at h
                      show _ = _
                      rw [← h, ← HRD.out, show cnt - (k + 1) + 1 = cnt - k by omega]
                    rw [hm']
                    generalize (uvarintDec dk).1 = xid at HNX ⊢
                    obtain ⟨av, cv, evi, _, _⟩ := (Lst.of_owns HOW.out).open
                    have kc : w3.cell? ⟨w.heap.size + 1, i, none⟩ = some vi := by have := HRW.out.cell (i := i) HI.out; simpa using this
                    have kf := HRW.out.frozen i
                    have kc2 : (w3.alloc (.cells #[.int .u64 (xid : Int)] 43)).cell? ⟨w.heap.size + 1, i, none⟩ = some vi := (World.cell?_alloc_lt _ _ _ (World.rowIs.lt HRW.out)).trans kc
                    obtain ⟨v', w', hr, hown', hBk⟩ := append_one 22 22 Tryf.underlying22 wc.heap.size w3.drew HSM.out.size vi acc HOW.out (xid : Int) (by omega)
                    have hB' := hBk _ (Below.refl _ _)
                    have hmb : w.heap.size + 1 < wc.heap.size := by have := HR.out.sz; omega
                    have kc' : w'.cell? ⟨w.heap.size + 1, i, none⟩ = some vi := (World.cell?_of_block (a := ⟨w.heap.size + 1, i, none⟩) (hB'.block _ hmb)).trans kc
                    have kf' : w'.frozen? ⟨w.heap.size + 1, i, none⟩ = false := (World.frozen?_of_block (a := ⟨w.heap.size + 1, i, none⟩) (hB'.block _ hmb)).trans kf
                    have HNR : Hid ((w'.setCell ⟨w.heap.size + 1, i, none⟩ v').rowIs (w.heap.size + 1) 33 3 (fun j => if j = i then v' else M j) ∧ Same wc.heap.size (w.heap.size + 1) wc (w'.setCell ⟨w.heap.size + 1, i, none⟩ v') ∧ (w'.setCell ⟨w.heap.size + 1, i, none⟩ v').ownsRow wc.heap.size 43 1 v' (acc ++ [(xid : Int)]).length ((acc ++ [(xid : Int)]).map (Value.int .u64))) := by
                      refine ⟨?_, ?_, owns_setOther hown' (show w.heap.size + 1 < wc.heap.size from hmb) v'⟩
                      · refine (World.rowIs.set (World.rowIs.of_block (w := w3) HRW.out (hB'.block _ hmb)) i v').congr (fun j _ => ?_)
                        show (if j = i then v' else if j = i then vi else M j) = if j = i then v' else M j
                        split <;> rfl
                      · exact (HSM.out.trans ⟨hB'.os, hB'.tape, hB'.output, hB'.size, fun j hj _ => hB'.block j hj⟩).trans (Same.set (j := i) w' v')
                    obtain ⟨av', cv', ev', _, _⟩ := (Lst.of_owns hown').open
                    rw [show (acc ++ [(xid : Int)]).length = acc.length + 1 by simp] at ev'
                    have hal' : (acc ++ [(xid : Int)]).length + (dk.drop m').length ≤ 1048576 := by simp; omega
                    clear hown' hBk hB'
                    subst evi
                    subst ev'
                    by_cases hcm' : ck = m'
                    · have HRS : Hid (InB w (.slice (some ⟨b', off', none⟩) (dk.length - m') 0) (dk.drop m')) := by
                        have he : dk.drop m' = [] := List.drop_eq_nil_of_le (by omega)
                        rw [he]
                        exact ⟨_, _, by rw [show dk.length - m' = 0 by omega]; rfl, .inl rfl⟩
                      clear hrest'
                      go_wp2_with fail
                      go_region_law (refine step_append_run rfl _ _ 22 22 rfl hr ?_)
                      all_goals go_wp2_with fail
                      all_goals go_roundw
                      all_goals first | exact ⟨k + 1, acc ++ [(xid : Int)], _, dk.drop m', by go_num, by omega, HRS.out, HNX.out, hal', HNR.out⟩ | (simp [sliceLen]; omega)
                    · have HRS : Hid (InB w (.slice (some ⟨b', off' + m', none⟩) (dk.length - m') (ck - m')) (dk.drop m')) := hrest'
                      clear hrest'
                      go_wp2_with fail
                      go_region_law (refine step_append_run rfl _ _ 22 22 rfl hr ?_)
                      all_goals go_wp2_with fail
                      all_goals go_roundw
                      all_goals first | exact ⟨k + 1, acc ++ [(xid : Int)], _, dk.drop m', by go_num, by omega, HRS.out, HNX.out, hal', HNR.out⟩ | (simp [sliceLen]; omega)
                · have hd : decide ((k : Int) < (cnt : Int)) = false := by simp; omega
                  have hkc' : cnt - k = 0 := by omega
                  have HRL2 : Hid (rdList dc = some (acc, dk)) := by
                    have h := HRD.out
                    rw [hkc'] at h
                    show rdList dc = _
                    rw [HRL.out, ← h]
                    cases dk.length <;> rfl
                  clear hkc'
                  have HRF : Hid (DR w wr (i + 1) (fun j => if j = i then acc else Z j) (fun j => if j = i then vi else M j)) := by
                    refine ⟨HRW.out, HR.out.rr.of_block (HSM.out.block _ HR.out.rr.lt (by omega)), fun j hj => ?_, HBW.out, Nat.le_trans HR.out.sz HSM.out.size⟩
                    show wr.ownsRow _ _ _ (if j = i then vi else M j) (if j = i then acc else Z j).length ((if j = i then acc else Z j).map (Value.int .u64))
                    by_cases e : j = i
                    · simp only [if_pos e]
                      refine ⟨HOW.out.1, ?_⟩
                      rcases HOW.out.2 with e | ⟨g, cap, cur, e, hg, rest⟩
                      · exact .inl e
                      · exact .inr ⟨g, cap, cur, e, by have := HR.out.sz; omega, rest⟩
                    · simp only [if_neg e]
                      refine ⟨(HR.out.own j hj).1, ?_⟩
                      rcases (HR.out.own j hj).2 with e | ⟨g, cap, cur, e, hg, hc, rest⟩
                      · exact .inl e
                      · exact .inr ⟨g, cap, cur, e, hg, (HSM.out.block _ (Array.getElem?_eq_some_iff.1 hc).1 (by omega)).trans hc, rest⟩
                  have HPN : Hid (Prg (i + 1) d dk (fun j => if j = i then acc else Z j)) := HP.out.next HI.out HBR.out HRL2.out
                  go_wp2_with fail
                  go_roundw
                  case rel =>
                    refine ⟨i + 1, _, _, dk, by omega, by go_num, HVK.out, HPN.out, fun j hj => ?_, HRF.out⟩
                    show (if j = i then acc else Z j) = [] ∧ (if j = i then vi else M j) = _
                    rw [if_neg (by omega), if_neg (by omega)]
                    exact HN.out j (by omega)
                  case measure => simp [intOf]; omega
    · have hd0 : decide ((i : Int) < 3) = false := by simp; omega
      have HF : Hid (rd3 d = some (Z 0, Z 1, Z 2, dc)) := Prg.done (by have h := HP.out; rw [show i = 3 by omega] at h; exact h)
      obtain ⟨x0, y0, m0, _, _⟩ := (Lst.of_owns (HR.out.own 0 (by omega))).open
      obtain ⟨x1, y1, m1, _, _⟩ := (Lst.of_owns (HR.out.own 1 (by omega))).open
      obtain ⟨x2, y2, m2, _, _⟩ := (Lst.of_owns (HR.out.own 2 (by omega))).open
      have g0 := HR.out.rm.cell (i := 0) (by omega)
      have g1 := HR.out.rm.cell (i := 1) (by omega)
      have g2 := HR.out.rm.cell (i := 2) (by omega)
      have hnv := newVoters_any _ _ _ _ (Z 0) (Z 1) (Z 2) wr (by have := hdl.1 0 (by omega); omega) (by have := hdl.1 1 (by omega); omega) (by have := hdl.1 2 (by omega); omega) (Lst.of_owns (HR.out.own 0 (by omega))).toIn (Lst.of_owns (HR.out.own 1 (by omega))).toIn (Lst.of_owns (HR.out.own 2 (by omega))).toIn
      rw [m0, m1, m2] at hnv
      rw [m0] at g0
      rw [m1] at g1
      rw [m2] at g2
      have hsz := HR.out.sz
      clear m0 m1 m2
      go_wp2_with fail
      refine hnv.mono ?_
      clear hnv g0 g1 g2
      rintro e w2 ⟨hc, hB2⟩
      have HB2 : Hid (Below w.heap.size w w2) := HR.out.bel.trans (hB2.mono HR.out.bel.size)
      have HRR2 : Hid (w2.rowIs w.heap.size 27 5 (fun _ => .slice none 0 0)) := HR.out.rr.of_block (hB2.block _ HR.out.rr.lt)
      have hs2 := hB2.size
      clear hB2
      rcases hc with ⟨hno, err, rfl, be, se, rfl, _, hbe, hce⟩ | ⟨hok, s0, s1, s2, s3, s4, rfl, l0, l1, l2, l3, l4⟩
      · have HX : Hid (¬ ∃ V O L, DecOk d V O L) := fun ⟨V, O, L, h⟩ => by
          have e := HF.out.symm.trans h.1
          simp only [Option.some.injEq, Prod.mk.injEq] at e
          obtain ⟨rfl, rfl, rfl, _⟩ := e
          exact hno h.2.1
        clear hno
        unfold nils
        have hce2 : ∀ o1 o2, ((w2.alloc o1).alloc o2).cell? ⟨be, 0, none⟩ = some (.string se) := fun o1 o2 => (World.cell?_alloc_lt _ _ _ (by simp; omega)).trans ((World.cell?_alloc_lt _ _ _ hbe).trans hce)
        have HCE : Hid (∀ o1 o2, ((w2.alloc o1).alloc o2).cell? ⟨be, 0, none⟩ = some (.string se)) := hce2
        clear hce2 hce
        go_wp2_with fail
        refine (errorf_wrap _ (.pointer (some ⟨be, 0, none⟩)) _ f5 (opErr _ se _ (HCE.out _ _)) (w2.heap.size + 1) (by simp [go_sem])).mono ?_
        rintro e w5 ⟨⟨t5, x5, rfl⟩, hB5⟩
        have hBa : Below w2.heap.size w2 w5 := (((Below.refl _ w2).alloc (Nat.le_refl _) _).alloc (by simp) _).trans (hB5.mono (by simp; omega))
        have hbl5 : Below w.heap.size w w5 := HB2.out.trans (hBa.mono HB2.out.size)
        have rr5 : w5.rowIs w.heap.size 27 5 (fun _ => .slice none 0 0) := HRR2.out.of_block (hBa.block _ (World.rowIs.lt HRR2.out))
        have q0 := rr5.cell (i := 0) (by omega)
        have q1 := rr5.cell (i := 1) (by omega)
        have q2 := rr5.cell (i := 2) (by omega)
        have q3 := rr5.cell (i := 3) (by omega)
        have q4 := rr5.cell (i := 4) (by omega)
        have qf := rr5.frozen
        have HT : Hid (∀ tmps : Array Value, _ → _ → _) := fun tmps h2 h3 => dec_bad (t := t5) (x := x5) (tmps := tmps) HX.out hbl5 rr5 h2 h3
        clear hB5 rr5 hbl5 hBa
        go_wp2_with fail
        exact HT.out _ rfl rfl
      · obtain ⟨b0, d0, f0, _, _⟩ := l0.open
        obtain ⟨b1, d1, f1, _, _⟩ := l1.open
        obtain ⟨b2, d2, f2, _, _⟩ := l2.open
        obtain ⟨b3, d3, f3, _, _⟩ := l3.open
        obtain ⟨b4, d4, f4, _, _⟩ := l4.open
        have hB3 : ∀ o, Below w2.heap.size w2 (w2.alloc o) := fun o => (Below.refl _ w2).alloc (Nat.le_refl _) o
        have HLL : Hid (∀ o, NVok (Z 0) (Z 1) (Z 2) ∧ Lst (wr.heap.size ≤ ·) (w2.alloc o) s0 (srt (Z 0)) ∧ Lst (wr.heap.size ≤ ·) (w2.alloc o) s1 (srt (Z 1)) ∧ Lst (wr.heap.size ≤ ·) (w2.alloc o) s2 (allOf (Z 0) (Z 1)) ∧ Lst (wr.heap.size ≤ ·) (w2.alloc o) s3 (srt (Z 2)) ∧ Lst (wr.heap.size ≤ ·) (w2.alloc o) s4 (memOf (Z 0) (Z 1) (Z 2))) :=
          fun o => ⟨hok, l0.below (hB3 o), l1.below (hB3 o), l2.below (hB3 o), l3.below (hB3 o), l4.below (hB3 o)⟩
        clear hok l0 l1 l2 l3 l4
        subst f0 f1 f2 f3 f4
        by_cases hz0 : Z 0 = []
        · have HX : Hid (¬ ∃ V O L, DecOk d V O L) := fun ⟨V, O, L, h⟩ => by
            have e := HF.out.symm.trans h.1
            simp only [Option.some.injEq, Prod.mk.injEq] at e
            obtain ⟨rfl, rfl, rfl, _⟩ := e
            exact h.2.2 hz0
          have hl0 : (srt (Z 0)).length = 0 := by rw [srt_length, hz0]; rfl
          clear hz0
          go_wp2_with fail
          refine (errorsNew_any _ _).mono ?_
          rintro e w5 ⟨err, rfl, ⟨be, se, rfl, _⟩, hB5⟩
          have hBa : Below w2.heap.size w2 w5 := (hB3 _).trans (hB5.mono (by simp))
          have hbl5 : Below w.heap.size w w5 := HB2.out.trans (hBa.mono HB2.out.size)
          have rr5 : w5.rowIs w.heap.size 27 5 (fun _ => .slice none 0 0) := HRR2.out.of_block (hBa.block _ (World.rowIs.lt HRR2.out))
          have q0 := rr5.cell (i := 0) (by omega)
          have q1 := rr5.cell (i := 1) (by omega)
          have q2 := rr5.cell (i := 2) (by omega)
          have q3 := rr5.cell (i := 3) (by omega)
          have q4 := rr5.cell (i := 4) (by omega)
          have qf := rr5.frozen
          have HT : Hid (∀ tmps : Array Value, _ → _ → _) := fun tmps h2 h3 => dec_bad (t := 91) (x := .pointer (some ⟨be, 0, none⟩)) (tmps := tmps) HX.out hbl5 rr5 h2 h3
          clear hB5 rr5 hbl5 hBa
          go_wp2_with fail
          exact HT.out _ rfl rfl
        · have hl0 : (((srt (Z 0)).length : Int) == 0) = false := beq_eq_false_iff_ne.2 (by have := List.length_pos_iff.2 hz0; rw [srt_length]; omega)
          have HZN : Hid (Z 0 ≠ []) := hz0
          clear hz0
          by_cases hdc : 0 < dc.length
          · have HX : Hid (¬ ∃ V O L, DecOk d V O L) := fun ⟨V, O, L, h⟩ => by
              have e := HF.out.symm.trans h.1
              simp only [Option.some.injEq, Prod.mk.injEq] at e
              obtain ⟨rfl, rfl, rfl, e⟩ := e
              simp [e] at hdc
            have hd2 : decide ((0 : Int) < (dc.length : Int)) = true := by simp; omega
            go_wp2_with fail
            refine (errorf_one _ 100 (by decide) (.iface 3 (.int .i64 (dc.length : Int))) _ f6 (opInt _ _ _) (w2.heap.size + 1) (by simp [go_sem])).mono ?_
            rintro e w5 ⟨err, rfl, ⟨be, se, rfl, _⟩, hB5⟩
            have hBa : Below w2.heap.size w2 w5 := ((hB3 _).alloc (by simp) _).trans (hB5.mono (by simp; omega))
            have hbl5 : Below w.heap.size w w5 := HB2.out.trans (hBa.mono HB2.out.size)
            have rr5 : w5.rowIs w.heap.size 27 5 (fun _ => .slice none 0 0) := HRR2.out.of_block (hBa.block _ (World.rowIs.lt HRR2.out))
            have q0 := rr5.cell (i := 0) (by omega)
            have q1 := rr5.cell (i := 1) (by omega)
            have q2 := rr5.cell (i := 2) (by omega)
            have q3 := rr5.cell (i := 3) (by omega)
            have q4 := rr5.cell (i := 4) (by omega)
            have qf := rr5.frozen
            have HT : Hid (∀ tmps : Array Value, _ → _ → _) := fun tmps h2 h3 => dec_bad (t := 91) (x := .pointer (some ⟨be, 0, none⟩)) (tmps := tmps) HX.out hbl5 rr5 h2 h3
            clear hB5 rr5 hbl5 hBa
            go_wp2_with fail
            exact HT.out _ rfl rfl
          · have hdc0 : dc.length = 0 := by omega
            have HOK : Hid (DecOk d (Z 0) (Z 1) (Z 2)) := by
              refine ⟨?_, (HLL.out (.cells #[] 0)).1, HZN.out⟩
              rw [HF.out, List.length_eq_zero_iff.1 hdc0]
            have hd2 : decide ((0 : Int) < (dc.length : Int)) = false := by rw [hdc0]; rfl
            have rr6 := fun o => World.rowIs.of_block (w' := w2.alloc o) HRR2.out ((hB3 o).block _ (World.rowIs.lt HRR2.out))
            have q0 := fun o => (rr6 o).cell (i := 0) (by omega)
            have q1 := fun o => (rr6 o).cell (i := 1) (by omega)
            have q2 := fun o => (rr6 o).cell (i := 2) (by omega)
            have q3 := fun o => (rr6 o).cell (i := 3) (by omega)
            have q4 := fun o => (rr6 o).cell (i := 4) (by omega)
            have qf := fun o => (rr6 o).frozen
            have HT : Hid (∀ o, ∀ tmps : Array Value, _ → _ → _) := fun o tmps h2 h3 => dec_good (tmps := tmps) HOK.out (HB2.out.trans ((hB3 o).mono HB2.out.size)) (rr6 o) ((HLL.out o).2.1.mono (fun b hb => by omega)) ((HLL.out o).2.2.1.mono (fun b hb => by omega)) ((HLL.out o).2.2.2.1.mono (fun b hb => by omega)) ((HLL.out o).2.2.2.2.1.mono (fun b hb => by omega)) ((HLL.out o).2.2.2.2.2.mono (fun b hb => by omega)) h2 h3
            clear rr6 HLL HRR2 HB2
            go_wp2_with fail
            exact HT.out _ _ rfl rfl
end Go.Proofs.Qxb6615150aFmt
