import Derived.Test.Qxb6615210aSingle
namespace Go.Proofs.Qxb6615210a
open Go.RowKit

/-- The decoder's zero value: 534 cells, whatever they hold. -/
theorem zero62 : ∃ zs : Array Value, zs.size = 534 ∧ ∀ w, Sem.run Try.prog (zeroValue 62) w = .ok (.agg zs) w := by
  have h : ((Try.prog.info? 62).bind (fun i => i.zero)).map (fun v => match v with | .agg cs => some cs.size | _ => none) = some (some 534) := by kernel_rfl
  obtain ⟨z, hz, hv⟩ := Option.map_eq_some_iff.1 h
  obtain ⟨i, hi, hzi⟩ := Option.bind_eq_some_iff.1 hz
  cases z <;> simp at hv
  rename_i cs
  exact ⟨cs, hv, fun w => by simp [zeroValue, typeInfo, hi, hzi]⟩

/-- The agg that a singleton is. -/
def sing (id ig eg d : Int) (u : Bool) : Value := .agg #[.int .u64 id, .int .u32 ig, .int .u32 eg, .int .i64 d, .bool u]

set_option maxRecDepth 100000 in
set_option maxHeartbeats 400000 in
theorem zzSingle_t (fi : Int) (hp id ig eg s f : Int) (w : World) (h0 : 0 ≤ s) (h1 : s ≤ 4294967295) (h2 : 0 ≤ f) (ht : timeB s f = true)
    (hid : 0 ≤ id) (hid' : id ≤ 4294967295) (hig : 0 ≤ ig) (hig' : ig ≤ 65535) (heg : 0 ≤ eg) (heg' : eg ≤ 65535) (hf0 : 0 ≤ fi) (hf1 : fi ≤ 4294967295999999) :
    Calls Try.prog 8 #[.int .i64 fi, .bool true, .int .u8 hp, .int .u32 id, .int .u16 ig, .int .u16 eg, .int .u32 s, .int .u32 f] w fun e w' => e = .returned (sing id ig eg (s * 1000000 + f - fi) false) ∧ Below w.heap.size w w' := by
  obtain ⟨zs, hsz, hz62⟩ := zero62
  go_enter Try.func8, Try.ntmps8
  go_wp2_with fail
  refine (single_t (w.heap.size + 1) (w.heap.size + 1 + 1) fi id ig eg s f _ h0 h1 h2 ht hid hid' hig hig' heg heg' hf0 hf1 ?_ ?_ ?_ ?_ ?_ ?_ ?_).mono ?_
  · simp [go_sem, hsz]
  · simp [go_sem, hsz]
  · simp [go_sem]
  · simp [go_sem]
  · simp [go_sem]
  · simp [go_sem]
  · simp [go_sem]
  rintro e w' ⟨rfl, hb⟩
  have q0 := (hb.cell (p := ⟨w.heap.size, 0, none⟩) (by simp; omega)).trans (by simp [go_sem]; rfl)
  have q1 := (hb.cell (p := ⟨w.heap.size, 1, none⟩) (by simp; omega)).trans (by simp [go_sem]; rfl)
  have q2 := (hb.cell (p := ⟨w.heap.size, 2, none⟩) (by simp; omega)).trans (by simp [go_sem]; rfl)
  have q3 := (hb.cell (p := ⟨w.heap.size, 3, none⟩) (by simp; omega)).trans (by simp [go_sem]; rfl)
  have q4 := (hb.cell (p := ⟨w.heap.size, 4, none⟩) (by simp; omega)).trans (by simp [go_sem]; rfl)
  have z : ∀ j, w'.frozen? ⟨w.heap.size, j, none⟩ = false := fun j => (hb.frozen (p := ⟨w.heap.size, j, none⟩) (by simp; omega)).trans (by simp [go_sem])
  have hz : w.heap.size < w'.heap.size := by have := hb.size; simp at this; omega
  have hB : Below w.heap.size w w' := ((((Below.refl _ w).alloc (Nat.le_refl _) _).alloc (by simp) _).alloc (by simp; omega) _).trans (hb.mono (by simp; omega))
  have HB : Hid (Below w.heap.size w w') := hB
  clear hb hB
  go_wp2_with fail
  refine bodyPost_ret (v := sing id ig eg (s * 1000000 + f - fi) false) (by simp [results, Try.results8, go_sem, q0, q1, q2, q3, q4, sing]) rfl ⟨rfl, ?_⟩
  exact ((((HB.out.setCell (Nat.le_refl _) _).setCell (Nat.le_refl _) _).setCell (Nat.le_refl _) _).setCell (Nat.le_refl _) _).setCell (Nat.le_refl _) _

set_option maxRecDepth 100000 in
set_option maxHeartbeats 400000 in
theorem zzSingle_n (fi : Int) (ok : Bool) (hp id ig eg s f : Int) (w : World) (ht : timeB s f = false)
    (hid : 0 ≤ id) (hid' : id ≤ 4294967295) (hig : 0 ≤ ig) (hig' : ig ≤ 65535) (heg : 0 ≤ eg) (heg' : eg ≤ 65535) :
    Calls Try.prog 8 #[.int .i64 fi, .bool ok, .int .u8 hp, .int .u32 id, .int .u16 ig, .int .u16 eg, .int .u32 s, .int .u32 f] w fun e w' => e = .returned (sing id ig eg 0 true) ∧ Below w.heap.size w w' := by
  obtain ⟨zs, hsz, hz62⟩ := zero62
  go_enter Try.func8, Try.ntmps8
  go_wp2_with fail
  refine (single_n (w.heap.size + 1) (w.heap.size + 1 + 1) id ig eg s f _ ht hid hid' hig hig' heg heg' ?_ ?_ ?_ ?_ ?_).mono ?_
  · simp [go_sem]
  · simp [go_sem]
  · simp [go_sem]
  · simp [go_sem]
  · simp [go_sem]
  rintro e w' ⟨rfl, hb⟩
  have q0 := (hb.cell (p := ⟨w.heap.size, 0, none⟩) (by simp; omega)).trans (by simp [go_sem]; rfl)
  have q1 := (hb.cell (p := ⟨w.heap.size, 1, none⟩) (by simp; omega)).trans (by simp [go_sem]; rfl)
  have q2 := (hb.cell (p := ⟨w.heap.size, 2, none⟩) (by simp; omega)).trans (by simp [go_sem]; rfl)
  have q3 := (hb.cell (p := ⟨w.heap.size, 3, none⟩) (by simp; omega)).trans (by simp [go_sem]; rfl)
  have q4 := (hb.cell (p := ⟨w.heap.size, 4, none⟩) (by simp; omega)).trans (by simp [go_sem]; rfl)
  have z : ∀ j, w'.frozen? ⟨w.heap.size, j, none⟩ = false := fun j => (hb.frozen (p := ⟨w.heap.size, j, none⟩) (by simp; omega)).trans (by simp [go_sem])
  have hz : w.heap.size < w'.heap.size := by have := hb.size; simp at this; omega
  have hB : Below w.heap.size w w' := ((((Below.refl _ w).alloc (Nat.le_refl _) _).alloc (by simp) _).alloc (by simp; omega) _).trans (hb.mono (by simp; omega))
  have HB : Hid (Below w.heap.size w w') := hB
  clear hb hB
  go_wp2_with fail
  refine bodyPost_ret (v := sing id ig eg 0 true) (by simp [results, Try.results8, go_sem, q0, q1, q2, q3, q4, sing]) rfl ⟨rfl, ?_⟩
  exact ((((HB.out.setCell (Nat.le_refl _) _).setCell (Nat.le_refl _) _).setCell (Nat.le_refl _) _).setCell (Nat.le_refl _) _).setCell (Nat.le_refl _) _

set_option maxRecDepth 100000 in
set_option maxHeartbeats 400000 in
theorem zzSingle_x (fi : Int) (hp id ig eg s f : Int) (w : World) (h0 : 0 ≤ s) (h1 : s ≤ 4294967295) (h2 : 0 ≤ f) (ht : timeB s f = true)
    (hid : 0 ≤ id) (hid' : id ≤ 4294967295) (hig : 0 ≤ ig) (hig' : ig ≤ 65535) (heg : 0 ≤ eg) (heg' : eg ≤ 65535) :
    Calls Try.prog 8 #[.int .i64 fi, .bool false, .int .u8 hp, .int .u32 id, .int .u16 ig, .int .u16 eg, .int .u32 s, .int .u32 f] w fun e w' => e = .returned (sing id ig eg 0 true) ∧ Below w.heap.size w w' := by
  obtain ⟨zs, hsz, hz62⟩ := zero62
  go_enter Try.func8, Try.ntmps8
  go_wp2_with fail
  refine (single_x (w.heap.size + 1) (w.heap.size + 1 + 1) id ig eg s f _ h0 h1 h2 ht hid hid' hig hig' heg heg' ?_ ?_ ?_ ?_ ?_ ?_).mono ?_
  · simp [go_sem, hsz]
  · simp [go_sem]
  · simp [go_sem]
  · simp [go_sem]
  · simp [go_sem]
  · simp [go_sem]
  rintro e w' ⟨rfl, hb⟩
  have q0 := (hb.cell (p := ⟨w.heap.size, 0, none⟩) (by simp; omega)).trans (by simp [go_sem]; rfl)
  have q1 := (hb.cell (p := ⟨w.heap.size, 1, none⟩) (by simp; omega)).trans (by simp [go_sem]; rfl)
  have q2 := (hb.cell (p := ⟨w.heap.size, 2, none⟩) (by simp; omega)).trans (by simp [go_sem]; rfl)
  have q3 := (hb.cell (p := ⟨w.heap.size, 3, none⟩) (by simp; omega)).trans (by simp [go_sem]; rfl)
  have q4 := (hb.cell (p := ⟨w.heap.size, 4, none⟩) (by simp; omega)).trans (by simp [go_sem]; rfl)
  have z : ∀ j, w'.frozen? ⟨w.heap.size, j, none⟩ = false := fun j => (hb.frozen (p := ⟨w.heap.size, j, none⟩) (by simp; omega)).trans (by simp [go_sem])
  have hz : w.heap.size < w'.heap.size := by have := hb.size; simp at this; omega
  have hB : Below w.heap.size w w' := ((((Below.refl _ w).alloc (Nat.le_refl _) _).alloc (by simp) _).alloc (by simp; omega) _).trans (hb.mono (by simp; omega))
  have HB : Hid (Below w.heap.size w w') := hB
  clear hb hB
  go_wp2_with fail
  refine bodyPost_ret (v := sing id ig eg 0 true) (by simp [results, Try.results8, go_sem, q0, q1, q2, q3, q4, sing]) rfl ⟨rfl, ?_⟩
  exact ((((HB.out.setCell (Nat.le_refl _) _).setCell (Nat.le_refl _) _).setCell (Nat.le_refl _) _).setCell (Nat.le_refl _) _).setCell (Nat.le_refl _) _

end Go.Proofs.Qxb6615210a
