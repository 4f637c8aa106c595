import Derived.Test.Qxb6615150aFmtLst
import Derived.Laws.AppendOwnNone
import Derived.OwnWalk
namespace Go.Proofs.Qxb6615150aFmt
open Go.RowKit

theorem wpList_append_run {P : Program} {w w' : World} {v' : Value} {ops : Array Oper} {rest : List Oper} {o : Oper} {a : Act} {Q : Exit → Act → World → Prop} (hgd : o.guard = none) (s x : Operand) (t t' : TypeId)
    (ho : o.op = .call { callee := .builtin .append, args := #[s, x], argTypes := #[t, t'] }) (hr : (Builtin.append_ #[t, t'] o.type #[a.eval s, a.eval x]).run P w = .ok v' w')
    (h : wpList P ops Q rest (a.put o.dst v') w') : wpList P ops Q (o :: rest) a w := by
  refine wpList_plain hgd fun K hK => ?_
  unfold Oper.wp execOp
  simp only [ho, resolve, invoke, builtin, Sem.run_bind, Sem.run_pure, Result.andThen_ok, List.map_toArray, List.map_cons, List.map_nil, hr]
  exact hK _ _ h

/-- 'append(v, x...)', v the call's own. -/
theorem append_run (t ty : TypeId) (ht : Tryf.prog.underlying t = some (.slice 43)) (base : Nat) (w : World) (hbase : base ≤ w.heap.size) (v : Value) (xs : List Int) (hown : w.ownsRow base 43 1 v xs.length (xs.map (Value.int .u64)))
    (p : Nat → Prop) (x : Value) (ys : List Int) (hy : Lst p w x ys) (hl : xs.length + ys.length ≤ 4000000) :
    ∃ v' w', (Builtin.append_ #[t, t] ty #[v, x]).run Tryf.prog w = .ok v' w' ∧ w'.ownsRow base 43 1 v' (xs ++ ys).length ((xs ++ ys).map (Value.int .u64)) ∧ w.grownBy w' v.ownBlock := by
  obtain ⟨i0, hi, hz0, hz1, hz2⟩ := info_parts Tryf.info43
  rcases hy with ⟨rfl, rfl⟩ | ⟨b, off, cap, rfl, hc, _, hb, hs⟩
  · exact ⟨v, w, run_append_owned_none w base t ty 43 i0 1 ht hi v _ _ hown, by simpa using hown, ⟨rfl, rfl, rfl, Nat.le_refl _, fun _ _ _ => rfl⟩⟩
  · obtain ⟨v', w', h1, h2, h3, _⟩ := run_append_own (P := Tryf.prog) w base t ty 43 i0 (.int .u64 0) 1 8 ht hi hz0 hz1 hz2 rfl (by decide) v _ _ hown ⟨b, off, none⟩ ys.length cap (ys.map (Value.int .u64)) (by simp) (fun j u hj => by
      simp only [List.getElem?_map] at hj
      by_cases hjn : j < ys.length
      · simp [hjn] at hj
        subst hj
        rw [Go.WideShapes.add_plain, hs j hjn]
        simp [gl, hjn]
      · rw [List.getElem?_eq_none (by omega)] at hj; simp at hj) (by intro u hu; obtain ⟨t, _, rfl⟩ := List.mem_map.1 hu; rfl) (by unfold maxLen; omega) (by omega) hbase
    exact ⟨v', w', h1, by simpa using h2, h3⟩

theorem run_append_make (n : Nat) (h0 : 0 < n) (hn : n ≤ 4000000) (ty : TypeId) (w : World) :
    (Builtin.append_ #[25, 3] ty #[.slice none 0 0, .int .i64 n]).run Tryf.prog w = .ok (.slice (some ⟨w.heap.size, 0, none⟩) n (grownCap w n 0 43)) (w.drew.alloc (.cells (Builtin.zeroCells #[.int .u64 0] n ++ Builtin.zeroCells #[.int .u64 0] (grownCap w n 0 43 - n)) 43)) := by
  obtain ⟨i0, hi, hz0, hz1, hz2⟩ := info_parts Tryf.info43
  have hwrap : IntKind.i64.wrap (n : Int) = n := by simp [IntKind.wrap, IntKind.bits, IntKind.signed]; omega
  have hai : ∀ w, (asInt (.int .i64 (n : Int))).run Tryf.prog w = .ok (n : Int) w := fun w => rfl
  have hn0 : n ≠ 0 := by omega
  have h1 : ¬ (281474976710656 < (n : Int) * (i0.bytes : Int)) := by rw [hz2]; omega
  have h63' : ¬ (9223372036854775807 < (n : Int)) := by omega
  have h48' : ¬ (281474976710656 < Builtin.nextslicecap n 0 * i0.bytes) := by rw [nextslicecap_zero h0, hz2]; omega
  simp [Builtin.append_, run_underlying Tryf.underlying25, run_underlying Tryf.underlying3, sizeOf, typeInfo, zeroValue, hi, hz0, hz1, hai, hwrap, h1, hn0, h63', h48', Question.forced, run_firstCells_none, newRow, grownCap, Value.cells]
  intro h; omega

/-- slices.Grow(nil, n). -/
theorem grow_nil (n : Nat) (hn : n ≤ 4000000) (w : World) :
    Calls Tryf.prog 56 #[.slice none 0 0, .int .i64 n] w fun e w' => ∃ v, e = .returned v ∧ w'.ownsRow w.heap.size 43 1 v 0 [] ∧ Below w.heap.size w w' := by
  by_cases h0 : n = 0
  · subst h0
    go_enter Tryf.func56, Tryf.ntmps56
    go_wp2_with fail
    go_ret
    exact ⟨_, rfl, World.ownsRow_nil w _ 43 1, Below.refl _ w⟩
  · have hd : decide ((0 : Int) < (n : Int)) = true := by simp; omega
    have hr := fun ty => run_append_make n (by omega) hn ty w
    have hge := grownCap_ge w n 0 43
    have hcm : grownCap w n 0 43 ≤ maxLen := grownCap_le_maxLen w n 0 43 (by unfold maxLen; omega)
    have HC : Hid _ := And.intro hge hcm
    generalize grownCap w n 0 43 = gc at hr HC
    clear hge hcm
    go_enter Tryf.func56, Tryf.ntmps56
    go_wp2_with (at_builtin; refine wpList_append_run rfl _ _ 25 3 rfl (hr _) ?_)
    go_ret
    refine ⟨_, rfl, ⟨by simp, .inr ⟨w.heap.size, gc, _, rfl, Nat.le_refl _, heap_alloc_new w.drew _, by omega, HC.out.2, ?_, by simp⟩⟩, ((Below.refl _ w).drew).alloc (Nat.le_refl _) _⟩
    have := HC.out.1
    simp [size_zeroCells]; omega

set_option maxRecDepth 100000 in
/-- slices.Concat of two. -/
theorem concat_any (p : Nat → Prop) (g : Nat) (x y : Value) (xs ys : List Int) (w : World) (hl : xs.length + ys.length ≤ 4000000) (hg : g < w.heap.size) (c0 : w.cell? ⟨g, 0, none⟩ = some x) (c1 : w.cell? ⟨g, 1, none⟩ = some y)
    (hx : Lst p w x xs) (hy : Lst p w y ys) :
    Calls Tryf.prog 44 #[.slice (some ⟨g, 0, none⟩) 2 2] w fun e w' => ∃ v, e = .returned v ∧ Lst (w.heap.size ≤ ·) w' v (xs ++ ys) ∧ Below w.heap.size w w' := by
  obtain ⟨ax, cx, ex, _, _⟩ := hx.open
  obtain ⟨ay, cy, ey, _, _⟩ := hy.open
  have HX : Hid (Lst p w x xs) := hx
  have HY : Hid (Lst p w y ys) := hy
  rw [ex] at c0
  rw [ey] at c1
  have HC0 : Hid _ := c0
  have HC1 : Hid _ := c1
  clear hx hy
  have hgr := grow_nil (xs.length + ys.length) hl w
  have hcast : ((xs.length + ys.length : Nat) : Int) = (xs.length : Int) + (ys.length : Int) := by omega
  rw [hcast] at hgr
  go_enter Tryf.func44, Tryf.ntmps44
  go_wp2_with fail
  refine wp_loop_rounds 3 ?_
  rw [rounds_succ]
  go_wp2_with fail
  rw [rounds_succ]
  go_wp2_with fail
  rw [rounds_succ]
  go_wp2_with fail
  refine hgr.mono ?_
  clear hgr c0 c1
  rintro e w1 ⟨v, rfl, hown, hbel⟩
  obtain ⟨v1, w2, hr1, hown1, hgb1⟩ := append_run 25 25 Tryf.underlying25 w.heap.size w1 hbel.size v [] (by simpa using hown) p x xs (HX.out.below hbel) (by simp; omega)
  have hbel2 : Below w.heap.size w w2 := hbel.grown hgb1 hbel.size (fun k e => (hown.lt k e).1)
  obtain ⟨v2, w3, hr2, hown2, hgb2⟩ := append_run 25 25 Tryf.underlying25 w.heap.size w2 hbel2.size v1 ([] ++ xs) hown1 p y ys (HY.out.below hbel2) (by simp; omega)
  have hbel3 : Below w.heap.size w w3 := hbel2.grown hgb2 hbel2.size (fun k e => (hown1.lt k e).1)
  have d0 : w1.cell? ⟨g, 0, none⟩ = some (.slice ax xs.length cx) := (hbel.cell (p := ⟨g, 0, none⟩) hg).trans HC0.out
  have d1 : w2.cell? ⟨g, 1, none⟩ = some (.slice ay ys.length cy) := (hbel2.cell (p := ⟨g, 1, none⟩) hg).trans HC1.out
  rw [ex] at hr1
  rw [ey] at hr2
  have H1 : Hid _ := hown2
  have H2 : Hid _ := hbel3
  clear hown hbel hown1 hgb1 hbel2 hown2 hgb2 hbel3 HC0 HC1 HX HY
  go_wp2_with (at_builtin; first | refine wpList_append_run rfl _ _ 25 25 rfl hr1 ?_ | refine wpList_append_run rfl _ _ 25 25 rfl hr2 ?_)
  refine wp_loop_rounds 3 ?_
  rw [rounds_succ]
  go_wp2_with (at_builtin; first | refine wpList_append_run rfl _ _ 25 25 rfl hr1 ?_ | refine wpList_append_run rfl _ _ 25 25 rfl hr2 ?_)
  rw [rounds_succ]
  go_wp2_with (at_builtin; first | refine wpList_append_run rfl _ _ 25 25 rfl hr1 ?_ | refine wpList_append_run rfl _ _ 25 25 rfl hr2 ?_)
  rw [rounds_succ]
  go_wp2_with (at_builtin; first | refine wpList_append_run rfl _ _ 25 25 rfl hr1 ?_ | refine wpList_append_run rfl _ _ 25 25 rfl hr2 ?_)
  go_ret
  exact ⟨v2, rfl, by simpa using Lst.of_owns H1.out, H2.out⟩
end Go.Proofs.Qxb6615150aFmt
