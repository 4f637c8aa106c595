import Derived.Test.Qxb6615150aFmtRead
import Derived.Stop.CallBack
import Derived.Stop.IfaceNil
import GoSem.ClaimData
import Derived.Laws.Cells
import Derived.Stop.FmtTextSlices
namespace Go.Proofs.Qxb6615150aFmt
open Go.RowKit Go.Extern.Stop Go.Stop Go.Extern

/-- An error of errors.New's make: its text lies in memory. -/
def PlainErr (base : Nat) (w : World) (e : Value) : Prop := ∃ (b : Nat) (s : ByteArray), e = .iface 91 (.pointer (some ⟨b, 0, none⟩)) ∧ base ≤ b ∧ b < w.heap.size ∧ w.cell? ⟨b, 0, none⟩ = some (.string s)

theorem errorsNew_any (s : ByteArray) (w : World) :
    Calls Tryf.prog 39 #[.string s] w fun e w' => ∃ v, e = .returned v ∧ PlainErr w.heap.size w' v ∧ Below w.heap.size w w' := by
  go_enter Tryf.func39, Tryf.ntmps39
  go_wp2
  go_ret
  exact ⟨_, rfl, ⟨_, s, rfl, Nat.le_refl _, by simp, by simp [go_sem]⟩, (Below.refl _ w).alloc (Nat.le_refl _) _⟩

theorem call54 (args : Array Value) (w : World) : (callFunc 54 args).run Tryf.prog w = ((FmtStop.errorf #[9, 94] #[29] args).run Tryf.prog w).andThen fun v w' => .ok (.value v) w' :=
  run_callFunc_extern Tryf.func54 (by kernel_rfl) (by kernel_rfl) (by kernel_rfl) (by kernel_rfl) args w
theorem guardF (name : String) (w : World) : (FmtStop.guard name).run Tryf.prog w = .ok () w := by kernel_rfl
theorem ptr91 (w : World) : (FmtStop.ptrTo "errors.errorString").run Tryf.prog w = .ok 91 w := by kernel_rfl
theorem elem91 (w : World) : (elemOf 91).run Tryf.prog w = .ok 93 w := by kernel_rfl
theorem ptr95 (w : World) : (FmtStop.ptrTo "fmt.wrapError").run Tryf.prog w = .ok 95 w := by kernel_rfl
theorem elem95 (w : World) : (elemOf 95).run Tryf.prog w = .ok 145 w := by kernel_rfl
theorem isError91 (w : World) : (FmtDoors.textMethod 91 "Error").run Tryf.prog w = .ok true w := by kernel_rfl

theorem f1 (w : World) : (FmtDoors.printed ⟨#[105, 100, 32, 37, 100, 32, 116, 119, 105, 99, 101]⟩ 1).run Tryf.prog w = .ok [(0, 100, false)] w := by kernel_rfl
theorem f2 (w : World) : (FmtDoors.printed ⟨#[118, 111, 116, 101, 114, 115, 32, 37, 118, 32, 116, 111, 32, 99, 104, 97, 110, 103, 101, 32, 102, 114, 111, 109, 44, 32, 97, 110, 100, 32, 110, 111, 110, 101, 32, 116, 111, 32, 99, 104, 97, 110, 103, 101, 32, 116, 111]⟩ 1).run Tryf.prog w = .ok [(0, 118, false)] w := by kernel_rfl
theorem f3 (w : World) : (FmtDoors.printed ⟨#[108, 101, 97, 114, 110, 101, 114, 115, 32, 37, 118, 32, 98, 101, 115, 105, 100, 101, 32, 110, 111, 32, 118, 111, 116, 101, 114, 115]⟩ 1).run Tryf.prog w = .ok [(0, 118, false)] w := by kernel_rfl
theorem f4 (w : World) : (FmtDoors.printed ⟨#[105, 100, 32, 37, 100, 32, 97, 115, 32, 97, 32, 118, 111, 116, 101, 114, 32, 97, 110, 100, 32, 97, 115, 32, 97, 32, 108, 101, 97, 114, 110, 101, 114]⟩ 1).run Tryf.prog w = .ok [(0, 100, false)] w := by kernel_rfl
theorem f5 (w : World) : (FmtDoors.printed ⟨#[118, 111, 116, 101, 114, 115, 32, 116, 104, 97, 116, 32, 104, 111, 108, 100, 32, 37, 119]⟩ 1).run Tryf.prog w = .ok [(0, 119, false)] w := by kernel_rfl
theorem f6 (w : World) : (FmtDoors.printed ⟨#[37, 100, 32, 98, 121, 116, 101, 115, 32, 97, 102, 116, 101, 114, 32, 116, 104, 101, 32, 118, 111, 116, 101, 114, 115]⟩ 1).run Tryf.prog w = .ok [(0, 100, false)] w := by kernel_rfl
theorem opU64 (name : String) (x : Int) (w : World) : ∃ r, (FmtStop.operand name true 100 false (.iface 43 (.int .u64 x))).run Tryf.prog w = .ok r w := ⟨(FmtStop.intCode .u64 :: FmtStop.pack "uint64".toUTF8.data.toList, digits 8 (x % 2 ^ 64).toNat), by kernel_rfl⟩
theorem opInt (name : String) (x : Int) (w : World) : ∃ r, (FmtStop.operand name true 100 false (.iface 3 (.int .i64 x))).run Tryf.prog w = .ok r w := ⟨(FmtStop.intCode .i64 :: FmtStop.pack "int".toUTF8.data.toList, digits 8 (x % 2 ^ 64).toNat), by kernel_rfl⟩

theorem value43 (name : String) (x : Int) (w : World) : (FmtStop.value name FmtStop.depth 43 [.int .u64 x]).run Tryf.prog w = .ok (digits 8 (x % 2 ^ 64).toNat) w := by kernel_rfl
theorem values43 (name : String) (w : World) : ∀ xs : List Int, (List.mapM ((fun c => FmtStop.value name FmtStop.depth 43 [c]) ∘ Value.int IntKind.u64) xs).run Tryf.prog w = .ok (xs.map fun x => digits 8 (x % 18446744073709551616).toNat) w
  | [] => by simp [List.mapM_nil]
  | x :: xs => by
    have ih := values43 name w xs
    have h := value43 name x w
    simp [List.mapM_cons, h, ih, Result.andThen]
theorem opSlice (name : String) (a : Addr) (cap : Nat) (xs : List Int) (w : World) (hc : ∀ j v, (xs.map (Value.int .u64))[j]? = some v → w.cell? (a.add j) = some v) :
    ∃ r, (FmtStop.operand name true 118 false (.iface 22 (.slice (some a) xs.length cap))).run Tryf.prog w = .ok r w := by
  have h1 : (typeStr 22).run Tryf.prog w = .ok "[]uint64" w := by kernel_rfl
  have d2 : Tryf.t22.desc = .slice 43 := rfl
  have hb : (FmtStop.bare (FmtStop.asked true 118 false) 22).run Tryf.prog w = .ok true w := by kernel_rfl
  have hs : (FmtStop.scalar 43).run Tryf.prog w = .ok true w := by kernel_rfl
  have hy : (Extern.Stop.isByte 43).run Tryf.prog w = .ok false w := by kernel_rfl
  obtain ⟨sh, hsh⟩ : ∃ sh, (FmtStop.shape name (FmtStop.asked true 118 false) FmtStop.depth 43).run Tryf.prog w = .ok sh w := ⟨FmtStop.intCode .u64 :: FmtStop.pack "uint64".toUTF8.data.toList, by kernel_rfl⟩
  have hl := run_loadCells_list (P := Tryf.prog) w a (xs.map (Value.int .u64)) hc
  rw [List.length_map] at hl
  refine ⟨?_, ?_⟩
  rotate_left
  · simp [FmtStop.operand, h1, hb, hs, hy, hsh, hl, values43]
    rfl

/-- fmt.Errorf with one operand, no %w. -/
theorem errorf_one (f : ByteArray) (vb : UInt8) (hvb : vb ≠ 119) (v : Value) (w : World) (hf : ∀ w, (FmtDoors.printed f 1).run Tryf.prog w = .ok [(0, vb, false)] w)
    (hop : ∃ r, (FmtStop.operand "fmt.errorf" true vb false v).run Tryf.prog w = .ok r w) (g : Nat) (hg : w.cell? ⟨g, 0, none⟩ = some v) :
    Calls Tryf.prog 40 #[.string f, .slice (some ⟨g, 0, none⟩) 1 1] w fun e w' => ∃ v, e = .returned v ∧ PlainErr w.heap.size w' v ∧ Below w.heap.size w w' := by
  obtain ⟨r, hop⟩ := hop
  have hE : ∃ s : ByteArray, (FmtStop.errorf #[9, 94] #[29] #[.string f, .slice (some ⟨g, 0, none⟩) 1 1]).run Tryf.prog w = .ok (.iface 91 (.pointer (some ⟨w.heap.size, 0, none⟩))) ((w.drew).alloc (.cells #[.string s] 93)) := by
    rw [FmtStop.errorf_lit]
    refine ⟨?_, ?_⟩
    rotate_left
    · simp [go_sem, guardF, FmtStop.cells, hg, hf, FmtStop.readAll, hop, FmtStop.text, hvb, ptr91, elem91]
      rfl
  obtain ⟨s, hE⟩ := hE
  have hC := call54 #[.string f, .slice (some ⟨g, 0, none⟩) 1 1] w
  rw [hE] at hC
  simp only [Result.andThen] at hC
  clear hE hop hf
  go_enter Tryf.func40, Tryf.ntmps40
  go_wp2
  go_ret
  exact ⟨_, rfl, ⟨_, s, rfl, Nat.le_refl _, by simp, by simp [go_sem]⟩, ((Below.refl _ w).drew).alloc (Nat.le_refl _) _⟩

theorem opErr (a : Addr) (s : ByteArray) (w : World) (hc : w.cell? a = some (.string s)) :
    ∃ r, (FmtStop.operand "fmt.errorf" true 119 false (.iface 91 (.pointer (some a)))).run Tryf.prog w = .ok r w := by
  have h1 : (typeStr 91).run Tryf.prog w = .ok "*errors.errorString" w := by kernel_rfl
  have d2 : Tryf.t91.desc = .pointer 93 := rfl
  have d3 : Tryf.t93.desc = .named "errors.errorString" 92 := rfl
  exact ⟨(14 :: FmtStop.pack "*errors.errorString".toUTF8.data.toList, s.data.toList), by simp [FmtStop.operand, h1, d2, d3, run_load, hc]⟩

/-- fmt.Errorf with one operand, an error that it wraps. -/
theorem errorf_wrap (f : ByteArray) (x : Value) (w : World) (hf : ∀ w, (FmtDoors.printed f 1).run Tryf.prog w = .ok [(0, 119, false)] w)
    (hop : ∃ r, (FmtStop.operand "fmt.errorf" true 119 false (.iface 91 x)).run Tryf.prog w = .ok r w) (g : Nat) (hg : w.cell? ⟨g, 0, none⟩ = some (.iface 91 x)) :
    Calls Tryf.prog 40 #[.string f, .slice (some ⟨g, 0, none⟩) 1 1] w fun e w' => (∃ t x, e = .returned (.iface t x)) ∧ Below w.heap.size w w' := by
  obtain ⟨r, hop⟩ := hop
  have hE : ∃ s : ByteArray, (FmtStop.errorf #[9, 94] #[29] #[.string f, .slice (some ⟨g, 0, none⟩) 1 1]).run Tryf.prog w = .ok (.iface 95 (.pointer (some ⟨w.heap.size, 0, none⟩))) ((w.drew).alloc (.cells #[.string s, .iface 91 x] 145)) := by
    rw [FmtStop.errorf_lit]
    refine ⟨?_, ?_⟩
    rotate_left
    · simp [go_sem, guardF, FmtStop.cells, hg, hf, FmtStop.readAll, hop, FmtStop.text, ptr95, elem95, isError91]
      rfl
  obtain ⟨s, hE⟩ := hE
  have hC := call54 #[.string f, .slice (some ⟨g, 0, none⟩) 1 1] w
  rw [hE] at hC
  simp only [Result.andThen] at hC
  clear hE hop hf
  go_enter Tryf.func40, Tryf.ntmps40
  go_wp2
  go_ret
  exact ⟨⟨_, _, rfl⟩, ((Below.refl _ w).drew).alloc (Nat.le_refl _) _⟩
end Go.Proofs.Qxb6615150aFmt
