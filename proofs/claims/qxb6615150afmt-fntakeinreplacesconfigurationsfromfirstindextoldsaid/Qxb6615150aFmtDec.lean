import Derived.Test.Qxb6615150aFmtNew
import Derived.Test.Qxb6615150aFmtPlain
import Derived.Test.Qxb6615150aFmtShelfU
import Derived.Test.Qxb6615150aFmtDecP
import Derived.Deep.RegionLaw
namespace Go.Proofs.Qxb6615150aFmt
open Go.RowKit Go.Lib

theorem step_append_run {P : Program} {ops : Array Oper} {o : Oper} {a : Act} {w w' : World} {v' : Value} {K : Act → World → Prop} {Q : Exit → Act → World → Prop} {E : Prop}
    (hg : o.guard = none) (s x : Operand) (t t' : TypeId) (hop : o.op = Op.call { callee := Callee.builtin Builtin.append, args := #[s, x], argTypes := #[t, t'] })
    (hr : (Builtin.append_ #[t, t'] o.type #[a.eval s, a.eval x]).run P w = .ok v' w') (hK : K (a.put o.dst v') w') :
    if Region.wanted o (yielded ops a.tmps) = true then Oper.wp P o a w K Q else E := by
  have hw : Region.wanted o (yielded ops a.tmps) = true := by simp [Region.wanted, hg]
  rw [if_pos hw]
  unfold Oper.wp execOp
  simp only [hop, resolve, invoke, builtin, Sem.run_bind, Sem.run_pure, Result.andThen_ok, List.map_toArray, List.map_cons, List.map_nil, hr]
  exact hK

/-- v is a slice of the bytes l. -/
def InB (w : World) (v : Value) (l : List UInt8) : Prop :=
  ∃ ao cap, v = .slice ao l.length cap ∧ (l = [] ∨ ∃ b off, ao = some ⟨b, off, none⟩ ∧ l.length ≤ cap ∧ cap ≤ maxLen ∧ b < w.heap.size ∧ ∀ j (hj : j < l.length), w.cell? ⟨b, off + j, none⟩ = some (.int .u8 (l[j]).toNat))
theorem InB.keep {w w' : World} {v : Value} {l : List UInt8} (hB : ∀ b, b < w.heap.size → w'.heap[b]? = w.heap[b]?) (hs : w.heap.size ≤ w'.heap.size) : InB w v l → InB w' v l
  | ⟨ao, cap, e, .inl e'⟩ => ⟨ao, cap, e, .inl e'⟩
  | ⟨ao, cap, e, .inr ⟨b, off, ea, h1, h2, hb, hc⟩⟩ => ⟨ao, cap, e, .inr ⟨b, off, ea, h1, h2, Nat.lt_of_lt_of_le hb hs, fun j hj => (World.cell?_of_block (a := ⟨b, off + j, none⟩) (hB b hb)).trans (hc j hj)⟩⟩
theorem InB.below {w w' : World} {v : Value} {l : List UInt8} (h : Below w.heap.size w w') (i : InB w v l) : InB w' v l := i.keep (fun b hb => h.block b hb) h.size

theorem uvarint_any (v : Value) (l : List UInt8) (w : World) (h : InB w v l) :
    Calls Tryf.prog 59 #[v] w fun e w' => e = .returned (.tuple #[.int .u64 (uvarintDec l).1, .int .i64 (uvarintDec l).2]) ∧ w' = w := by
  obtain ⟨ao, cap, rfl, h | ⟨b, off, rfl, _, _, _, hc⟩⟩ := h
  · subst h; exact Tryf.binary_Uvarint_empty ao cap w
  · exact Tryf.binary_Uvarint b off l.length cap l w rfl hc

/-- What decodeVoters makes of the bytes. -/
def DecOk (d : List UInt8) (V O L : List Int) : Prop := rd3 d = some (V, O, L, []) ∧ NVok V O L ∧ V ≠ []
def DecRes (d : List UInt8) (a b c : List Int) : Prop := (∃ V O L, DecOk d V O L ∧ a = srt V ∧ b = srt O ∧ c = srt L) ∨ ((¬ ∃ V O L, DecOk d V O L) ∧ a = [] ∧ b = [] ∧ c = [])
theorem DecRes.unique {d : List UInt8} {a b c a' b' c' : List Int} (h : DecRes d a b c) (h' : DecRes d a' b' c') : a = a' ∧ b = b' ∧ c = c' := by
  rcases h with ⟨V, O, L, h, rfl, rfl, rfl⟩ | ⟨h, rfl, rfl, rfl⟩
  · rcases h' with ⟨V', O', L', h', rfl, rfl, rfl⟩ | ⟨h', _⟩
    · have e := h.1.symm.trans h'.1
      simp only [Option.some.injEq, Prod.mk.injEq] at e
      obtain ⟨rfl, rfl, rfl, _⟩ := e
      exact ⟨rfl, rfl, rfl⟩
    · exact absurd ⟨V, O, L, h⟩ h'
  · rcases h' with ⟨V', O', L', h', _⟩ | ⟨_, rfl, rfl, rfl⟩
    · exact absurd ⟨V', O', L', h'⟩ h
    · exact ⟨rfl, rfl, rfl⟩

/-- decodeVoters' answer. -/
def DV (base : Nat) (d : List UInt8) (e : Ending) (w' : World) : Prop :=
  ∃ s0 s1 s2 s3 s4 err a b c m1 m2, e = .returned (.tuple #[.agg #[s0, s1, s2, s3, s4], err]) ∧ DecRes d a b c ∧ Lst (base ≤ ·) w' s0 a ∧ Lst (base ≤ ·) w' s1 b ∧ Lst (base ≤ ·) w' s3 c ∧ Lst (base ≤ ·) w' s2 m1 ∧ Lst (base ≤ ·) w' s4 m2 ∧
    ((err = .nilIface ∧ ∃ V O L, DecOk d V O L) ∨ ((∃ t x, err = .iface t x) ∧ a = [] ∧ b = [] ∧ c = []))
theorem DV.bad {base : Nat} {d : List UInt8} {w' : World} {t : TypeId} {x : Value} (h : ¬ ∃ V O L, DecOk d V O L) : DV base d (.returned (.tuple #[nils, .iface t x])) w' :=
  ⟨_, _, _, _, _, _, [], [], [], [], [], rfl, .inr ⟨h, rfl, rfl, rfl⟩, Lst.nil _ _, Lst.nil _ _, Lst.nil _ _, Lst.nil _ _, Lst.nil _ _, .inr ⟨⟨t, x, rfl⟩, rfl, rfl, rfl⟩⟩

/-- How far the lists are read. -/
def Prg (i : Nat) (d dc : List UInt8) (Z : Nat → List Int) : Prop :=
  (i = 0 ∧ dc = d ∧ Z 0 = [] ∧ Z 1 = [] ∧ Z 2 = []) ∨ (i = 1 ∧ rdList d = some (Z 0, dc) ∧ Z 1 = [] ∧ Z 2 = []) ∨
  (i = 2 ∧ (∃ d1, rdList d = some (Z 0, d1) ∧ rdList d1 = some (Z 1, dc)) ∧ Z 2 = []) ∨ (i = 3 ∧ ∃ d1 d2, rdList d = some (Z 0, d1) ∧ rdList d1 = some (Z 1, d2) ∧ d2 ≠ [] ∧ rdList d2 = some (Z 2, dc))

/-- What holds at the head of the i-th round. -/
structure DR (w wr : World) (i : Nat) (Z : Nat → List Int) (M : Nat → Value) : Prop where
  rm : wr.rowIs (w.heap.size + 1) 33 3 M
  rr : wr.rowIs w.heap.size 27 5 (fun _ => .slice none 0 0)
  own : ∀ j, j < 3 → wr.ownsRow (w.heap.size + 2) 43 1 (M j) (Z j).length ((Z j).map (Value.int .u64))
  bel : Below w.heap.size w wr
  sz : w.heap.size + 2 ≤ wr.heap.size
theorem DR.below {w wr w' : World} {i : Nat} {Z : Nat → List Int} {M : Nat → Value} (h : DR w wr i Z M) (hb : Below wr.heap.size wr w') : DR w w' i Z M :=
  ⟨h.rm.of_block (hb.block _ h.rm.lt), h.rr.of_block (hb.block _ h.rr.lt), fun j hj => by
    refine ⟨(h.own j hj).1, ?_⟩
    rcases (h.own j hj).2 with e | ⟨g, cap, cur, e, hg, hc, rest⟩
    · exact .inl e
    · exact .inr ⟨g, cap, cur, e, hg, (hb.block _ (Array.getElem?_eq_some_iff.1 hc).1).trans hc, rest⟩, h.bel.trans (hb.mono h.bel.size), Nat.le_trans h.sz hb.size⟩

theorem Prg.next {i : Nat} {d dc dc' : List UInt8} {Z : Nat → List Int} {V : List Int} (h : Prg i d dc Z) (hi : i < 3) (hb : i = 2 → dc ≠ []) (hr : rdList dc = some (V, dc')) : Prg (i + 1) d dc' (fun j => if j = i then V else Z j) := by
  rcases h with ⟨rfl, rfl, h0, h1, h2⟩ | ⟨rfl, h0, h1, h2⟩ | ⟨rfl, ⟨d1, h0, h1⟩, h2⟩ | ⟨rfl, _⟩
  · exact .inr (.inl ⟨rfl, hr, h1, h2⟩)
  · exact .inr (.inr (.inl ⟨rfl, ⟨dc, h0, hr⟩, h2⟩))
  · exact .inr (.inr (.inr ⟨rfl, d1, dc, h0, h1, hb rfl, hr⟩))
  · omega
theorem Prg.fail {i : Nat} {d dc : List UInt8} {Z : Nat → List Int} (h : Prg i d dc Z) (hi : i < 3) (hb : i = 2 → dc ≠ []) (hr : rdList dc = none) : rd3 d = none := by
  unfold rd3
  rcases h with ⟨rfl, rfl, _⟩ | ⟨rfl, h0, _⟩ | ⟨rfl, ⟨d1, h0, h1⟩, _⟩ | ⟨rfl, _⟩
  · rw [hr]
  · rw [h0]; simp only []; rw [hr]
  · rw [h0]; simp only []; rw [h1]; simp only []; rw [if_neg (hb rfl), hr]
  · omega
theorem Prg.done {d dc : List UInt8} {Z : Nat → List Int} (h : Prg 3 d dc Z) : rd3 d = some (Z 0, Z 1, Z 2, dc) := by
  rcases h with ⟨h, _⟩ | ⟨h, _⟩ | ⟨h, _⟩ | ⟨_, d1, d2, h0, h1, hb, h2⟩
  · omega
  · omega
  · omega
  · unfold rd3
    rw [h0]; simp only []; rw [h1]; simp only []; rw [if_neg hb, h2]
theorem Prg.ended {d : List UInt8} {Z : Nat → List Int} (h : Prg 2 d [] Z) : rd3 d = some (Z 0, Z 1, Z 2, []) := by
  rcases h with ⟨h, _⟩ | ⟨h, _⟩ | ⟨_, ⟨d1, h0, h1⟩, h2⟩ | ⟨h, _⟩
  · omega
  · omega
  · unfold rd3
    rw [h0]; simp only []; rw [h1]; simp [h2]
  · omega
theorem rdList_length {d dc : List UInt8} {V : List Int} (h : rdList d = some (V, dc)) : V.length + dc.length ≤ d.length := by
  unfold rdList at h
  split at h
  · cases h
  · have := rdIds_length _ _ _ _ _ _ h
    simp at this; omega
theorem Prg.length {i : Nat} {d dc : List UInt8} {Z : Nat → List Int} (h : Prg i d dc Z) : (∀ j, j < 3 → (Z j).length ≤ d.length) ∧ dc.length ≤ d.length := by
  have hj : ∀ j, j < 3 → j = 0 ∨ j = 1 ∨ j = 2 := by omega
  rcases h with ⟨rfl, rfl, h0, h1, h2⟩ | ⟨rfl, h0, h1, h2⟩ | ⟨rfl, ⟨d1, h0, h1⟩, h2⟩ | ⟨rfl, d1, d2, h0, h1, _, h2⟩
  · exact ⟨fun j h => by rcases hj j h with rfl | rfl | rfl <;> simp [*], Nat.le_refl _⟩
  · have := rdList_length h0
    exact ⟨fun j h => by rcases hj j h with rfl | rfl | rfl <;> first | omega | simp [h1, h2], by omega⟩
  · have := rdList_length h0
    have := rdList_length h1
    exact ⟨fun j h => by rcases hj j h with rfl | rfl | rfl <;> first | omega | simp [h2], by omega⟩
  · have := rdList_length h0
    have := rdList_length h1
    have := rdList_length h2
    exact ⟨fun j h => by rcases hj j h with rfl | rfl | rfl <;> omega, by omega⟩

theorem InB.rest {w : World} {ao : Option Addr} {n cap m : Nat} {l : List UInt8} (h : InB w (.slice ao n cap) l) (hm : 0 < m) (hml : m ≤ l.length) :
    ∃ b off, ao = some ⟨b, off, none⟩ ∧ n = l.length ∧ n ≤ cap ∧ cap ≤ maxLen ∧ InB w (.slice (some ⟨b, off + m, none⟩) (n - m) (cap - m)) (l.drop m) := by
  obtain ⟨ao', cap', e, h | ⟨b, off, rfl, h1, h2, hb, hc⟩⟩ := h
  · subst h; simp at hml; omega
  · simp at e
    obtain ⟨rfl, rfl, rfl⟩ := e
    refine ⟨b, off, rfl, rfl, h1, h2, ⟨some ⟨b, off + m, none⟩, cap - m, by simp, ?_⟩⟩
    by_cases h0 : l.length = m
    · exact .inl (List.drop_eq_nil_of_le (by omega))
    · refine .inr ⟨b, off + m, rfl, by simp; omega, by omega, hb, fun j hj => ?_⟩
      simp at hj
      rw [show off + m + j = off + (m + j) by omega, hc (m + j) (by omega)]
      simp

theorem dec_bad {d : List UInt8} {w w5 : World} {t : TypeId} {x : Value} {tmps : Array Value} (hX : ¬ ∃ V O L, DecOk d V O L) (hB5 : Below w.heap.size w w5) (rr : w5.rowIs w.heap.size 27 5 (fun _ => .slice none 0 0))
    (h2 : tmps[2]?.getD undef = .pointer (some ⟨w.heap.size, 0, none⟩)) (h3 : tmps[3]?.getD undef = .iface t x) :
    bodyPost Tryf.prog Tryf.f49 (fun e w' => DV w.heap.size d e w' ∧ Below w.heap.size w w') Exit.ret { tmps := tmps, defers := [] }
      (set5 w5 w.heap.size (.slice none 0 0) (.slice none 0 0) (.slice none 0 0) (.slice none 0 0) (.slice none 0 0)) := by
  have q0 := rr.cell (i := 0) (by omega)
  have q1 := rr.cell (i := 1) (by omega)
  have q2 := rr.cell (i := 2) (by omega)
  have q3 := rr.cell (i := 3) (by omega)
  have q4 := rr.cell (i := 4) (by omega)
  have hS := Same.set5 (B := w5.heap.size) w5 w.heap.size (.slice none 0 0) (.slice none 0 0) (.slice none 0 0) (.slice none 0 0) (.slice none 0 0)
  refine bodyPost_ret (v := .tuple #[nils, .iface t x]) (by simp [results, Tryf.results49, h2, h3, go_sem, nils, q0, q1, q2, q3, q4]) rfl ⟨DV.bad hX, ?_⟩
  exact hB5.trans ⟨hS.os, hS.tape, hS.output, hS.size, fun k hk => hS.block k (by have := hB5.size; omega) (by omega)⟩
theorem dec_good {d : List UInt8} {w wr : World} {V O L : List Int} {s0 s1 s2 s3 s4 : Value} {m1 m2 : List Int} {tmps : Array Value} (hX : DecOk d V O L) (hB : Below w.heap.size w wr) (rr : wr.rowIs w.heap.size 27 5 (fun _ => .slice none 0 0))
    (l0 : Lst (w.heap.size + 1 ≤ ·) wr s0 (srt V)) (l1 : Lst (w.heap.size + 1 ≤ ·) wr s1 (srt O)) (l2 : Lst (w.heap.size + 1 ≤ ·) wr s2 m1) (l3 : Lst (w.heap.size + 1 ≤ ·) wr s3 (srt L)) (l4 : Lst (w.heap.size + 1 ≤ ·) wr s4 m2)
    (h2 : tmps[2]?.getD undef = .pointer (some ⟨w.heap.size, 0, none⟩)) (h3 : tmps[3]?.getD undef = .nilIface) :
    bodyPost Tryf.prog Tryf.f49 (fun e w' => DV w.heap.size d e w' ∧ Below w.heap.size w w') Exit.ret { tmps := tmps, defers := [] }
      (set5 wr w.heap.size s0 s1 s2 s3 s4) := by
  have hr := ((((rr.set 0 s0).set 1 s1).set 2 s2).set 3 s3).set 4 s4
  have hS : Same wr.heap.size w.heap.size wr (set5 wr w.heap.size s0 s1 s2 s3 s4) := Same.set5 _ _ _ _ _ _ _
  change (set5 wr w.heap.size s0 s1 s2 s3 s4).rowIs _ _ _ _ at hr
  generalize set5 wr w.heap.size s0 s1 s2 s3 s4 = wz at hr hS
  have q0 := hr.cell (i := 0) (by omega)
  have q1 := hr.cell (i := 1) (by omega)
  have q2 := hr.cell (i := 2) (by omega)
  have q3 := hr.cell (i := 3) (by omega)
  have q4 := hr.cell (i := 4) (by omega)
  simp at q0 q1 q2 q3 q4
  have hB' : Below w.heap.size w wz := hB.trans ⟨hS.os, hS.tape, hS.output, hS.size, fun k hk => hS.block k (by have := hB.size; omega) (by omega)⟩
  have hk : ∀ v zs, Lst (w.heap.size + 1 ≤ ·) wr v zs → Lst (w.heap.size ≤ ·) wz v zs := fun v zs h =>
    ((h.keep hS.size (fun b hb hlt => hS.block b hlt (by omega)))).mono (fun b hb => by omega)
  have hrun : (results Tryf.f49 tmps).run Tryf.prog wz = .ok (.tuple #[.agg #[s0, s1, s2, s3, s4], .nilIface]) wz := by
    simp [results, Tryf.results49, h2, h3, go_sem, q0, q1, q2, q3, q4]
  exact bodyPost_ret hrun rfl ⟨⟨s0, s1, s2, s3, s4, .nilIface, _, _, _, m1, m2, rfl, .inl ⟨V, O, L, hX, rfl, rfl, rfl⟩, hk _ _ l0, hk _ _ l1, hk _ _ l3, hk _ _ l2, hk _ _ l4, .inl ⟨rfl, V, O, L, hX⟩⟩, hB'⟩
end Go.Proofs.Qxb6615150aFmt
