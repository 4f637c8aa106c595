import Derived.Test.Qxb6615150aFmtOpen
import Derived.Test.Qxb6615150aFmtEntO
import Derived.Test.Qxb6615150aFmtLaw5
import Derived.Test.Qxb6615150aFmtCards
import Derived.JoinedOf
import Derived.Carry
import Derived.Stop.JoinedAt
import Derived.Stop.JoinedTold
import Derived.SevenToldRow
namespace Go.Proofs.Qxb6615150aFmt.replacesFrom
open Go.ChangeShapes Go.WideShapes Go.ChangeAt Go.RowKit Go.Kit
open Go.Extern.Stop Go.Stop Go.Extern

theorem own : ownKnob Tryf.prog.godebug = none := by kernel_rfl
theorem laidOut : laidOutB Tryf.pinned.checked.prog = true := by kernel_rfl
theorem stops : Tryf.pinned.checked.prog.stops = ["fmt.errorf"] := by kernel_rfl
theorem stopKnobs : Tryf.pinned.checked.prog.stopKnobs = [] := by kernel_rfl
theorem quiet (os : Os) : Stop.quiet Tryf.pinned.checked.prog os := by
  intro k hk
  rw [stopKnobs] at hk
  cases hk

set_option maxRecDepth 100000 in
theorem lifted (os : Os) (started : os.Started) (H : Type) (enc : TypeId × Value → H) :
    ReturnsInTold none {} Tryf.checked os 5 .any Input.okWide ((OpenSpec.ofChange Rows.fnTakeInReplacesConfigurationsFromFirstIndexSpec).preRow enc Tryf.prog Tryf.f5 [] false []) (fun F => ((OpenSpec.ofChange Rows.fnTakeInReplacesConfigurationsFromFirstIndexSpec).at F).post enc Tryf.prog Tryf.f5 false true false false) (aloneAtReturn Tryf.prog) nothingAlways := by
  refine returnsInTold_of_row (C := Tryf.checked) (s := OpenSpec.ofChange Rows.fnTakeInReplacesConfigurationsFromFirstIndexSpec) (by kernel_rfl) own started (by kernel_rfl) Tryf.func5
    (OpenSpec.witness_stopped (enc := enc) (C := Tryf.checked) false ⟨#[], #[.slice none 0 0, .slice none 0 0], []⟩ 8 (by kernel_rfl) (by kernel_rfl) (by kernel_rfl) (by kernel_rfl)) ?_
  intro F W base args ds gs before _ hF hval0 hW _ _ hsz _ _
  have hval : ∀ (j : Nat) t v, Tryf.f5.params[j]? = some t → args[j]? = some v → Value.okWide Tryf.prog W .any base t v := hval0
  have hW' := hW
  obtain ⟨p, q, hA0, hV, rfl, hfz, hnd⟩ := hW
  have hA : DataW.TrodAll enc Tryf.prog W 0 (fun _ => true) true Tryf.f5.params.toList args.toList ds p := hA0
  rw [Tryf.params5] at hA hval
  obtain ⟨v0, vs0, d0, ds0, p0, q0, hargs, rfl, rfl, h0, r0⟩ := trodAll_cons hA
  obtain ⟨v1, vs1, d1, ds1, p1, q1, rfl, rfl, rfl, h1, r1⟩ := trodAll_cons r0
  obtain ⟨rfl, rfl, rfl⟩ := trodAll_nil r1
  obtain rfl : args = #[v0, v1] := by cases args; simp_all
  obtain ⟨rfl, rfl⟩ := trodVars_none hV
  obtain ⟨a0, n0, c0, rfl⟩ := okWide_slice Tryf.underlying40 (hval 0 40 v0 rfl rfl)
  obtain ⟨a1, n1, c1, rfl⟩ := okWide_slice Tryf.underlying40 (hval 1 40 v1 rfl rfl)
  have k0 := h0
  have k1 := h1
  have lt0 : ∀ x ∈ p0, x.block < W.heap.size := by obtain ⟨m, hm⟩ := k0; exact DataW.trod_lt m _ _ _ hm
  have lt1 : ∀ x ∈ p1, x.block < W.heap.size := by obtain ⟨m, hm⟩ := k1; exact DataW.trod_lt m _ _ _ hm
  obtain ⟨b, off, I, T, K, Q, S, A, L, C, D, g1, g2, g3, g4, g5, g6, g7⟩ : ∃ (b off : Nat) (I T K Q S : Nat → Int) (A : Nat → Option Addr) (L C : Nat → Nat) (D : Nat → List UInt8), n0 ≤ maxLen ∧ (n0 ≠ 0 → a0 = some ⟨b, off, none⟩) ∧ (n0 ≠ 0 → b < W.heap.size) ∧ Ents W b off n0 I T K Q S A L C ∧ (∀ i, i < n0 → L i ≤ maxLen) ∧ (∀ i, i < n0 → 0 ≤ I i ∧ I i ≤ 18446744073709551615) ∧ ∀ i, i < n0 → InB W (.slice (A i) (L i) (C i)) (D i) := by
    obtain ⟨fuel, hf⟩ := h0; exact ents_open (by simpa [Value.cells] using hf)
  obtain ⟨b', off', I', T', K', Q', S', A', L', C', D', g1', g2', g3', g4', g5', g6', g7'⟩ : ∃ (b off : Nat) (I T K Q S : Nat → Int) (A : Nat → Option Addr) (L C : Nat → Nat) (D : Nat → List UInt8), n1 ≤ maxLen ∧ (n1 ≠ 0 → a1 = some ⟨b, off, none⟩) ∧ (n1 ≠ 0 → b < W.heap.size) ∧ Ents W b off n1 I T K Q S A L C ∧ (∀ i, i < n1 → L i ≤ maxLen) ∧ (∀ i, i < n1 → 0 ≤ I i ∧ I i ≤ 18446744073709551615) ∧ ∀ i, i < n1 → InB W (.slice (A i) (L i) (C i)) (D i) := by
    obtain ⟨fuel, hf⟩ := h1; exact ents_open (by simpa [Value.cells] using hf)
  clear hA0 hval0
  refine (law5_walk a0 b off n0 c0 I T K Q S A L C D a1 b' off' n1 c1 I' T' K' Q' S' A' L' C' D' W g1 g2 g3 g4 g5 g6 g7 g1' g2' g3' g4' g5' g6' g7').mono fun e W' ⟨he, bel⟩ => ?_
  subst he
  exact ⟨_, rfl, _, _, _, [], _, [], hW', trodAll_mk1 (shut_bool Tryf.underlying4 _), (trodAll_cons_mk (Below.trod laidOut (by kernel_rfl) (of_decide_eq_true (by kernel_rfl)) k0 bel lt0) (trodAll_cons_mk (Below.trod laidOut (by kernel_rfl) (of_decide_eq_true (by kernel_rfl)) k1 bel lt1) trodAll_mk0)), rfl, bel.frame _, fun h => by cases h⟩

theorem card : Claim7.holds Tryf.pinned (.plain (OpenSpec.ofChange Rows.fnTakeInReplacesConfigurationsFromFirstIndexSpec)) (Claim7.toldRow Rows.fnTakeInReplacesConfigurationsFromFirstIndexRow (true, "10bb1bbd71d70dadcda5601f711e6645be64013813c58bb11a349bf9622c4b10") false false) :=
  Claim7.holds_of_told_any 5 Tryf.f5 "fmt.errorf" [] [] _ _ _ (by kernel_rfl) rfl rfl rfl laidOut (by kernel_rfl) rfl ⟨rfl, rfl, rfl, rfl, rfl, rfl, rfl⟩ rfl rfl (by kernel_rfl) (by kernel_rfl) Tryf.func5 (by kernel_rfl)
    (of_decide_eq_true (by kernel_rfl)) (of_decide_eq_true (by kernel_rfl)) stops.symm rfl stopKnobs.symm (by kernel_rfl)
    (by kernel_rfl) (by kernel_rfl) (by kernel_rfl) (by kernel_rfl) (by kernel_rfl) (by kernel_rfl) (by kernel_rfl) (by kernel_rfl) (by kernel_rfl) rfl (by kernel_rfl) rfl rfl
    rfl rfl
    rfl (by kernel_rfl) (by kernel_rfl) (by kernel_rfl) (by decide) (by kernel_rfl)
    (OpenClaim.moreEntering_of (by kernel_rfl) (by kernel_rfl) (by kernel_rfl) (by kernel_rfl) (by kernel_rfl) (by kernel_rfl) (by kernel_rfl) (by kernel_rfl) (by kernel_rfl) (by kernel_rfl))
    ⟨_, WideRow.started_initial, quiet _⟩
    (fun os started _ H enc _ => lifted os started H enc)

theorem proved : Rows.FnTakeInReplacesConfigurationsFromFirstIndexToldSaid := card
end Go.Proofs.Qxb6615150aFmt.replacesFrom
