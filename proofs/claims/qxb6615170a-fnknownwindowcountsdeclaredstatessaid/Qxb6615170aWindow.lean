import Derived.Test.Qxb6615170aRows
import Derived.Test.Qxb6615170aKnown
import Derived.WalkKit
import Derived.ProofKit
import Derived.OpenShut
import Derived.ShutString
namespace Go.Proofs.Qxb6615170a.fnKnownWindowCountsDeclaredStates
open Go.ChangeShapes Go.WideShapes Go.ChangeAt Go.RowKit
open Go.ChangeMaps (open_string shut_string)
set_option linter.unusedVariables false      -- a walk need not use every 'w<i>' (that an integer argument fits its kind)

theorem own : ownKnob Try.prog.godebug = none := by kernel_rfl

/-- Of the first k values from a on how many are known. -/
def cnt (a : Int) (k : Nat) : Int :=
  if max a 0 ≤ min (a + k - 1) 5 then min (a + k - 1) 5 - max a 0 + 1 else 0
theorem ret_true {b : Bool} (h : b = true) : Ending.returned (.bool b) = .returned (.bool true) := by rw [h]
theorem cnt_zero (a : Int) : cnt a 0 = 0 := by unfold cnt; rw [if_neg (by omega)]
theorem cnt_bd (a : Int) (k : Nat) : 0 ≤ cnt a k ∧ cnt a k ≤ 6 := by unfold cnt; split <;> omega
theorem cnt_no (a : Int) (k : Nat) (h : a + k < 0 ∨ 6 ≤ a + k) : cnt a (k + 1) = cnt a k := by unfold cnt; split <;> split <;> omega
theorem cnt_yes (a : Int) (k : Nat) (h : 0 ≤ a + k) (h' : a + k < 6) : cnt a (k + 1) = cnt a k + 1 := by unfold cnt; split <;> split <;> omega

/-! ### STEP 1: THE WALK: the Go text returns true. 'Grown w w'': the world has at most new blocks (Derived/RowKit3.lean). Part the cases AHEAD of 'go_enter' where a test parts the walk; take each callee by a contract of your own. -/
theorem walk (a0 : Int) (w0 : (Lit.int .i64 a0).wf = true) (w : World) :
    Calls Try.prog 3 #[.int .i64 a0] w fun e w' => e = .returned (.bool true) ∧ Grown w w' := by
  have bd := bounds_i64 w0
  by_cases hbig : 9223372036854775800 < a0
  · go_enter Try.func3, Try.ntmps3
    go_wp2_with fail
    go_ret
    exact ⟨rfl, Grown.refl _⟩
  have hs0 : -9223372036854775808 ≤ a0 := bd.1
  clear bd w0
  go_enter Try.func3, Try.ntmps3
  go_wp2_with fail
  go_loop [3, 4] (fun c i => ∃ k : Nat, k ≤ 8 ∧ i = .int .i64 k ∧ c = .int .i64 (cnt a0 k)) (fun _ i => 8 - (intOf i).toNat)
  case atStart => exact ⟨0, by omega, rfl, by rw [cnt_zero]⟩
  case round =>
    obtain ⟨k, hk, rfl, rfl⟩ := hrel
    have hc := cnt_bd a0 k
    by_cases hlt : k < 8
    · rcases (show a0 + k < 0 ∨ (0 ≤ a0 + k ∧ a0 + k < 6) ∨ 6 ≤ a0 + k from by omega) with h | ⟨h, h'⟩ | h
      · have HS : Hid (cnt a0 (k + 1) = cnt a0 k) := cnt_no a0 k (.inl h)
        go_wp2_with fail
        refine (known_low _ _ (by omega)).mono ?_
        rintro e w' ⟨rfl, rfl⟩
        go_wp2_with fail
        go_round
        case rel => exact ⟨k + 1, by omega, by go_num, by rw [HS.out]⟩
        case measure => simp [intOf]; omega
      · have HS : Hid (cnt a0 (k + 1) = cnt a0 k + 1) := cnt_yes a0 k h h'
        go_wp2_with fail
        refine (known_yes _ _ (by omega) (by omega)).mono ?_
        rintro e w' ⟨rfl, rfl⟩
        go_wp2_with fail
        go_round
        case rel => exact ⟨k + 1, by omega, by go_num, by rw [HS.out]⟩
        case measure => simp [intOf]; omega
      · have HS : Hid (cnt a0 (k + 1) = cnt a0 k) := cnt_no a0 k (.inr h)
        go_wp2_with fail
        refine (known_high _ _ (by omega)).mono ?_
        rintro e w' ⟨rfl, rfl⟩
        go_wp2_with fail
        go_round
        case rel => exact ⟨k + 1, by omega, by go_num, by rw [HS.out]⟩
        case measure => simp [intOf]; omega
    · obtain rfl : k = 8 := by omega
      by_cases g1 : 0 < a0
      all_goals
        by_cases g2 : a0 + 7 < 5
        all_goals
          go_wp2_with fail
          all_goals
            go_ret
            exact ⟨ret_true (by rw [beq_iff_eq]; unfold cnt; split <;> omega), Grown.refl _⟩

/-! ### THE ROW's STEP: WRITTEN OUT: LEAVE IT -/
set_option maxRecDepth 100000 in
theorem lifted (os : Os) (started : os.Started) (H : Type) (enc : TypeId × Value → H) :
    ReturnsInHanded {} Try.checked os 3 .any (Rows.fnKnownWindowCountsDeclaredStatesSpec.pre6 enc Try.prog Try.f3 Rows.fnKnownWindowCountsDeclaredStatesRow.domain false) (Rows.fnKnownWindowCountsDeclaredStatesSpec.post enc Try.prog Try.f3 false true false false) := by
  refine returnsInHanded_of_change (C := Try.checked) own started (by kernel_rfl) Try.func3
    (ChangeSpec.witness6 (enc := enc) (C := Try.checked) false ⟨#[], #[.int .i64 0], []⟩ 8 (by kernel_rfl) (by kernel_rfl) (by kernel_rfl) (by kernel_rfl)) ?_
  intro W base args ds gs before hval0 hW hcnd _
  have hval : ∀ (j : Nat) t v, Try.f3.params[j]? = some t → args[j]? = some v → Value.okWide Try.prog W .any base t v := hval0
  have hW' := hW
  obtain ⟨p, q, hA0, hV, rfl, hfz, hnd⟩ := hW
  have hA : DataW.TrodAll enc Try.prog W 0 (fun _ => true) true Try.f3.params.toList args.toList ds p := hA0
  rw [Try.params3] at hA hval
  obtain ⟨v0, vs0, d0, ds0, p0, q0, hargs, rfl, rfl, h0, r0⟩ := trodAll_cons hA
  obtain ⟨rfl, rfl, rfl⟩ := trodAll_nil r0
  obtain rfl : args = #[v0] := by cases args; simp_all
  obtain ⟨rfl, rfl⟩ := trodVars_none hV
  obtain ⟨a0, rfl, rfl, rfl, w0⟩ := open_int Try.underlying3 (hval 0 3 v0 rfl rfl) h0
  clear hA0 hval0
  simp only [List.append_nil] at hW'
  refine (walk a0 w0 W).mono fun e W' ⟨he, hg⟩ => ?_
  subst he
  exact ⟨_, rfl, post_of_same (pa := []) (pv := []) hW' (fun _ _ _ => (trodAll_cons_mk (shut_bool Try.underlying4 _) trodAll_mk0)) (fun sp _ => (trodAll_cons_mk (shut_int Try.underlying3 w0) trodAll_mk0)) (fun _ _ => rfl) rfl
    (hg.frame _) hg.2.1 (ok_one (by kernel_rfl) rfl (okWide_bool_mk Try.underlying4 _))⟩

theorem over : Rows.fnKnownWindowCountsDeclaredStatesRow.holds Try.pinned (OpenSpec.ofChange Rows.fnKnownWindowCountsDeclaredStatesSpec) :=
  OpenClaim.holds_of_wide 3 Try.f3 rfl rfl rfl rfl rfl rfl rfl ⟨rfl, rfl, rfl, rfl, rfl⟩ rfl rfl rfl rfl rfl (by kernel_rfl) Try.func3 (by kernel_rfl)
    (of_decide_eq_true (by kernel_rfl)) (by unfold Func.isWrapper; first | (rw [if_pos (by decide +kernel)]; kernel_rfl) | (rw [if_neg (by decide +kernel)]; exact ⟨rfl, rfl⟩))
    (fun os started H enc _ => lifted os started H enc)

/-- ████ THE STATEMENT ████ -/
theorem proved : Rows.FnKnownWindowCountsDeclaredStatesSaid :=
  over
end Go.Proofs.Qxb6615170a.fnKnownWindowCountsDeclaredStates
