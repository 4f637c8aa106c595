import Derived.Test.Qxb6615150aFmtTakeQ
namespace Go.Proofs.Qxb6615150aFmt
open Go.RowKit Go.Lib

/-- An entry as it lies in memory, and its data. -/
structure En where
  x0 : Int
  x1 : Int
  x2 : Int
  x3 : Int
  x4 : Int
  ad : Option Addr
  ln : Nat
  cp : Nat
  d : List UInt8
def En.cells (c : En) : List Value := [.int .u64 c.x0, .int .u64 c.x1, .int .u8 c.x2, .int .u64 c.x3, .int .u64 c.x4, .slice c.ad c.ln c.cp]
def cellsE (cs : List En) : List Value := cs.flatMap En.cells
def ekey (c : En) : Int × List UInt8 := (c.x0, c.d)
theorem cellsE_length (cs : List En) : (cellsE cs).length = cs.length * 6 := by
  induction cs with
  | nil => rfl
  | cons c cs ih => simp [cellsE, En.cells] at ih ⊢; omega
theorem cellsE_append (a b : List En) : cellsE (a ++ b) = cellsE a ++ cellsE b := by simp [cellsE]
theorem cellsE_get (cs : List En) (k j : Nat) (hk : k < cs.length) (hj : j < 6) : (cellsE cs)[k * 6 + j]? = (cs[k]).cells[j]? := by
  induction cs generalizing k with
  | nil => simp at hk
  | cons c cs ih =>
    show (c.cells ++ cellsE cs)[k * 6 + j]? = _
    cases k with
    | zero => rw [List.getElem?_append_left (by simp [En.cells]; omega)]; simp
    | succ k =>
      rw [List.getElem?_append_right (by simp [En.cells]; omega)]
      have := ih k (by simpa using hk)
      rw [show (k + 1) * 6 + j - c.cells.length = k * 6 + j by simp [En.cells]; omega, this]
      simp

/-- append of one entry. -/
theorem append_en (base : Nat) (w : World) (hbase : base ≤ w.heap.size) (v : Value) (cs : List En) (hl : cs.length < 100000) (hown : w.ownsRow base 51 6 v cs.length (cellsE cs)) (a : Addr) (c : En)
    (hc : ∀ j u, c.cells[j]? = some u → w.cell? (a.add j) = some u) (ty : TypeId) :
    ∃ v' w', (Builtin.append_ #[47, 47] ty #[v, .slice (some a) 1 1]).run Tryf.prog w = .ok v' w' ∧ w'.ownsRow base 51 6 v' (cs ++ [c]).length (cellsE (cs ++ [c])) ∧ w.grownBy w' v.ownBlock := by
  obtain ⟨i0, hi, hz0, hz1, hz2⟩ := info_parts info51
  have hcl : c.cells.length = 1 * 6 := rfl
  obtain ⟨v', w', hr, h2, h3, _⟩ := run_append_own (P := Tryf.prog) w base 47 ty 51 i0 _ 6 64 Tryf.underlying47 hi hz0 hz1 hz2 rfl (by decide) v cs.length (cellsE cs) hown a 1 1 c.cells hcl hc (by simp [En.cells, Value.oneCell']) (by unfold maxLen; omega) (by omega) hbase
  exact ⟨v', w', hr, by rw [cellsE_append]; simpa [cellsE] using h2, h3⟩

/-- An owned row of entries. -/
def WS (base : Nat) (w : World) (v : Value) (ws : List En) : Prop := w.ownsRow base 51 6 v ws.length (cellsE ws)
theorem WS.open {base : Nat} {w : World} {v : Value} {ws : List En} (h : WS base w v ws) : ∃ ao cap, v = .slice ao ws.length cap ∧ ws.length ≤ cap ∧ cap ≤ maxLen ∧ (ws.length ≠ 0 → ∃ g, ao = some ⟨g, 0, none⟩ ∧ base ≤ g ∧ g < w.heap.size ∧ ∀ k (hk : k < ws.length) j u, j < 6 → (ws[k]).cells[j]? = some u → w.cell? ⟨g, k * 6 + j, none⟩ = some u) := by
  rcases h.2 with ⟨rfl, h0⟩ | ⟨g', cap, cur, rfl, hg, hc, hn, hm, hcs, ht⟩
  · exact ⟨none, 0, by rw [h0], by omega, by unfold maxLen; omega, fun h => absurd h0 h⟩
  · refine ⟨_, cap, rfl, hn, hm, fun _ => ⟨g', rfl, hg, (Array.getElem?_eq_some_iff.1 hc).1, fun k hk j u hj hu => ?_⟩⟩
    have hg2 := cellsE_get ws k j hk hj
    rw [← ht, List.getElem?_take_of_lt (by omega), hu] at hg2
    rw [Array.getElem?_toList] at hg2
    simp [World.cell?, hc, hg2]
theorem WS.below {base B : Nat} {w w' : World} {v : Value} {ws : List En} (h : WS base w v ws) (hB : w.heap.size ≤ B) (hw : Below B w w') : WS base w' v ws := by
  refine ⟨h.1, ?_⟩
  rcases h.2 with e | ⟨g', cap, cur, e, hg, hc, rest⟩
  · exact .inl e
  · exact .inr ⟨g', cap, cur, e, hg, (hw.block _ (by have := (Array.getElem?_eq_some_iff.1 hc).1; omega)).trans hc, rest⟩

theorem make_own51 (w : World) (n1 n2 : Nat) (hN : n1 + n2 ≤ 60000) : ∃ w', (Instr.makeSlice 47 (.int .i64 0) (.int .i64 ((n1 : Int) + (n2 : Int)))).run Tryf.prog w = .ok (.slice (some ⟨w.heap.size, 0, none⟩) 0 (n1 + n2)) w' ∧ WS w.heap.size w' (.slice (some ⟨w.heap.size, 0, none⟩) 0 (n1 + n2)) [] ∧ Below w.heap.size w w' := by
  obtain ⟨i0, hi, hz0, hz1, hz2⟩ := info_parts info51
  obtain ⟨w', hrun, r1, r2⟩ := run_make_own (P := Tryf.prog) w w.heap.size 47 51 i0 _ 6 Tryf.underlying47 hi hz0 hz1 .i64 .i64 (n1 + n2) (by rw [hz2]; omega) (by unfold maxLen; omega) (Nat.le_refl _)
  rw [show (((n1 + n2 : Nat)) : Int) = (n1 : Int) + (n2 : Int) by omega] at hrun
  exact ⟨w', hrun, r1, (Below.refl _ w).grown r2 (Nat.le_refl _) (fun k e => by cases e)⟩

/-- 'append(v, e)', v the call's own. -/
theorem append_en1 (base : Nat) (w : World) (hbase : base ≤ w.heap.size) (v : Value) (ws : List En) (hown : WS base w v ws) (c : En) (hl : ws.length < 100000) :
    ∃ v' w', (Builtin.append_ #[47, 47] 47 #[v, .slice (some ⟨w.heap.size, 0, none⟩) 1 1]).run Tryf.prog (w.alloc (.cells #[.int .u64 c.x0, .int .u64 c.x1, .int .u8 c.x2, .int .u64 c.x3, .int .u64 c.x4, .slice c.ad c.ln c.cp] 51)) = .ok v' w' ∧ WS base w' v' (ws ++ [c]) ∧ ∀ w0, Below base w0 w → Below base w0 w' := by
  have hown' : WS base (w.alloc (.cells #[.int .u64 c.x0, .int .u64 c.x1, .int .u8 c.x2, .int .u64 c.x3, .int .u64 c.x4, .slice c.ad c.ln c.cp] 51)) v ws := hown.below (Nat.le_refl _) ((Below.refl _ w).alloc (Nat.le_refl _) _)
  obtain ⟨v', w', h1, h2, h3⟩ := append_en base _ (by simp; omega) v ws hl hown' ⟨w.heap.size, 0, none⟩ c (fun j u hj => by
      rw [Go.WideShapes.add_plain]
      have hh := heap_alloc_new w (.cells #[.int .u64 c.x0, .int .u64 c.x1, .int .u8 c.x2, .int .u64 c.x3, .int .u64 c.x4, .slice c.ad c.ln c.cp] 51)
      simp only [World.cell?, hh]
      simpa [En.cells] using hj) 47
  exact ⟨v', w', h1, h2, fun w0 hb => (hb.alloc hbase _).grown h3 (by simp; omega) (fun k e => (World.ownsRow.lt hown k e).1)⟩

/-- Those of the first n that c lets by. -/
def wl (c : Nat → Bool) (f : Nat → En) : Nat → List En
  | 0 => []
  | n + 1 => if c n = true then wl c f n ++ [f n] else wl c f n
theorem wl_in {c : Nat → Bool} {f : Nat → En} {n : Nat} (h : c n = true) : wl c f (n + 1) = wl c f n ++ [f n] := by simp only [wl, if_pos h]
theorem wl_out {c : Nat → Bool} {f : Nat → En} {n : Nat} (h : c n = false) : wl c f (n + 1) = wl c f n := by simp [wl, h]
theorem wl_length (c : Nat → Bool) (f : Nat → En) : ∀ n, (wl c f n).length ≤ n
  | 0 => by simp [wl]
  | n + 1 => by
    have := wl_length c f n
    unfold wl; split
    · simp; omega
    · omega
theorem mem_wl {c : Nat → Bool} {f : Nat → En} {x : En} : ∀ {n : Nat}, x ∈ wl c f n → ∃ i, i < n ∧ c i = true ∧ x = f i
  | 0, h => by simp [wl] at h
  | n + 1, h => by
    by_cases hk : c n = true
    · rw [wl_in hk] at h
      rcases List.mem_append.1 h with h | h
      · obtain ⟨i, h1, h2, h3⟩ := mem_wl h; exact ⟨i, by omega, h2, h3⟩
      · simp at h; exact ⟨n, by omega, hk, h⟩
    · rw [wl_out (by simpa using hk)] at h
      obtain ⟨i, h1, h2, h3⟩ := mem_wl h; exact ⟨i, by omega, h2, h3⟩

def en (I T K Q S : Nat → Int) (A : Nat → Option Addr) (L C : Nat → Nat) (D : Nat → List UInt8) (i : Nat) : En := ⟨I i, T i, K i, Q i, S i, A i, L i, C i, D i⟩
/-- All the EntryVoters. -/
theorem wl_el (I T K Q S : Nat → Int) (A : Nat → Option Addr) (L C : Nat → Nat) (D : Nat → List UInt8) : ∀ n, (wl (fun i => K i == 2) (en I T K Q S A L C D) n).map ekey = el I K D n
  | 0 => rfl
  | n + 1 => by
    have ih := wl_el I T K Q S A L C D n
    by_cases h : K n = 2
    · rw [wl_in (by simpa using h), el_in h, List.map_append, ih]; rfl
    · rw [wl_out (by simpa using h), el_out h, ih]
/-- The EntryVoters below y. -/
theorem wl_filter (y : Int) (I T K Q S : Nat → Int) (A : Nat → Option Addr) (L C : Nat → Nat) (D : Nat → List UInt8) : ∀ n, (wl (fun i => K i == 2 && decide (I i < y)) (en I T K Q S A L C D) n).map ekey = (el I K D n).filter (fun x => decide (x.1 < y))
  | 0 => rfl
  | n + 1 => by
    have ih := wl_filter y I T K Q S A L C D n
    by_cases h : K n = 2
    · rw [el_in h, List.filter_append, ← ih]
      by_cases hy : I n < y
      · rw [wl_in (by simp [h, hy]), List.map_append]; simp [hy, ekey, en]
      · rw [wl_out (by simp [hy])]; simp [hy]
    · rw [wl_out (by simp [h]), el_out h, ih]
theorem take_filter {cs : List Chg} {l : List (Int × List UInt8)} {y : Int} {p : Nat} (hk : cs.map key = l) (h : Parts cs.length (ix cs) y p) : (cs.take p).map key = l.filter (fun x => decide (x.1 < y)) := by
  have hx : ∀ j (hj : j < l.length), ix cs j = (l[j]).1 := fun j hj => by rw [ix_key, hk]; simp [hj]
  have hll : l.length = cs.length := by rw [← hk]; simp
  rw [List.map_take, hk]
  conv => rhs; rw [← List.take_append_drop p l]
  rw [List.filter_append]
  have e1 : (l.take p).filter (fun x => decide (x.1 < y)) = l.take p := by
    refine List.filter_eq_self.2 fun x hx' => ?_
    obtain ⟨j, hj, rfl⟩ := List.getElem_of_mem hx'
    have hj' : j < p ∧ j < l.length := by rw [List.length_take] at hj; omega
    have h2 := h.2.1 j hj'.1
    rw [hx j hj'.2] at h2
    simpa using h2
  have e2 : (l.drop p).filter (fun x => decide (x.1 < y)) = [] := by
    refine List.filter_eq_nil_iff.2 fun x hx' => ?_
    obtain ⟨j, hj, rfl⟩ := List.getElem_of_mem hx'
    have hj' : p + j < l.length := by simp at hj; omega
    have h2 := h.2.2 (p + j) (by omega) (by omega)
    rw [hx _ hj'] at h2
    simp; omega
  rw [e1, e2, List.append_nil]
theorem asc_of {I : Nat → Int} {n : Nat} (h : ∀ i, 1 ≤ i → i < n → I (i - 1) < I i) : ∀ i j, i < j → j < n → I i < I j := by
  intro i j hij hj
  have hstep : ∀ d, i + d + 1 < n → I i < I (i + d + 1) := by
    intro d
    induction d with
    | zero => intro h0; exact h (i + 1) (by omega) (by omega)
    | succ d ih =>
      intro h0
      have h1 := ih (by omega)
      have h2 := h (i + (d + 1) + 1) (by omega) (by omega)
      rw [show i + (d + 1) + 1 - 1 = i + d + 1 by omega] at h2
      omega
  have := hstep (j - i - 1) (by omega)
  rw [show i + (j - i - 1) + 1 = j by omega] at this
  exact this
/-- Which entries of 'before' the law wants. -/
def cB (K I : Nat → Int) (n2 : Nat) (y : Int) (i : Nat) : Bool := K i == 2 && (n2 == 0 || decide (I i < y))
/-- Which of 'entries'. -/
def cE (K : Nat → Int) (i : Nat) : Bool := K i == 2
/-- What the law wants is what the history holds. -/
theorem want_keys {I T K Q S : Nat → Int} {A : Nat → Option Addr} {L C : Nat → Nat} {D : Nat → List UInt8} {I' T' K' Q' S' : Nat → Int} {A' : Nat → Option Addr} {L' C' : Nat → Nat} {D' : Nat → List UInt8} {n1 n2 : Nat} {cs1 cs2 : List Chg}
    (h1 : cs1.map key = el I K D n1) (h0 : n2 = 0 → cs2.map key = cs1.map key) (h2 : n2 ≠ 0 → ∃ p, Parts cs1.length (ix cs1) (I' 0) p ∧ cs2.map key = (cs1.take p).map key ++ el I' K' D' n2) :
    cs2.map key = (wl (cB K I n2 (I' 0)) (en I T K Q S A L C D) n1 ++ wl (cE K') (en I' T' K' Q' S' A' L' C' D') n2).map ekey := by
  rw [List.map_append, show cE K' = fun i => K' i == 2 from rfl, wl_el]
  by_cases hz : n2 = 0
  · rw [h0 hz, h1, show cB K I n2 (I' 0) = fun i => K i == 2 by funext i; simp [cB, hz], wl_el, hz]
    simp [el]
  · obtain ⟨p, hp, e⟩ := h2 hz
    rw [e, take_filter h1 hp, show cB K I n2 (I' 0) = fun i => K i == 2 && decide (I i < I' 0) by funext i; simp [cB, beq_eq_false_iff_ne.2 hz], wl_filter]
/-- The wanted ones are EntryVoters, and their data. -/
theorem want_mem {I T K Q S : Nat → Int} {A : Nat → Option Addr} {L C : Nat → Nat} {D : Nat → List UInt8} {I' T' K' Q' S' : Nat → Int} {A' : Nat → Option Addr} {L' C' : Nat → Nat} {D' : Nat → List UInt8} {n1 n2 : Nat} {y : Int} {P : Value → List UInt8 → Prop}
    (h1 : ∀ i, i < n1 → P (.slice (A i) (L i) (C i)) (D i)) (h2 : ∀ i, i < n2 → P (.slice (A' i) (L' i) (C' i)) (D' i)) (c : En)
    (hc : c ∈ wl (cB K I n2 y) (en I T K Q S A L C D) n1 ++ wl (cE K') (en I' T' K' Q' S' A' L' C' D') n2) : c.x2 = 2 ∧ P (.slice c.ad c.ln c.cp) c.d := by
  rcases List.mem_append.1 hc with hc | hc
  · obtain ⟨i, hi, hk, rfl⟩ := mem_wl hc
    simp [cB] at hk
    exact ⟨hk.1, h1 i hi⟩
  · obtain ⟨i, hi, hk, rfl⟩ := mem_wl hc
    simp [cE] at hk
    exact ⟨hk, h2 i hi⟩
theorem MR.zero {base : Nat} {d : List UInt8} {v : Value} {w : World} (h : MR base d v w) : MR 0 d v w := by
  obtain ⟨t0, t1, t2, a, b, c, rfl, hr, k0, k1, k2⟩ := h
  exact ⟨t0, t1, t2, a, b, c, rfl, hr, k0.mono (fun b _ => Nat.zero_le _), k1.mono (fun b _ => Nat.zero_le _), k2.mono (fun b _ => Nat.zero_le _)⟩
end Go.Proofs.Qxb6615150aFmt
