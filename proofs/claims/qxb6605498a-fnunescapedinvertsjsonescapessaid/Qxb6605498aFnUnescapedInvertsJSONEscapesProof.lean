/-
  THE SHELL OF A PROOF OF 'Rows.FnUnescapedInvertsJSONEscapesSaid' ('example.com/chorale/chorale/zzlaws_internal_jsonval_b1.FnUnescapedInvertsJSONEscapes'), WRITTEN BY PROGRAM (proof-skeleton.mjs) off the guide's own print for that function. Not trusted: Lean checks it.
  THE WALK IS FILLED; ALL ELSE IS THE GUIDE's TEMPLATE (howto/template/XProofs.lean) at this function's number and types: leave it.
-/
import Derived.Test.Qxb6605498aRows
import Derived.WalkKit
import Derived.ProofKit
import Derived.OpenShut
import Derived.ShutString
import Derived.Test.Qxb6605498aEsc
namespace Go.Proofs.Qxb6605498a.fnUnescapedInvertsJSONEscapes
open Go.ChangeShapes Go.WideShapes Go.ChangeAt Go.RowKit
open Go.ChangeMaps (open_string shut_string)
set_option linter.unusedVariables false      -- a walk need not use every 'w<i>' (that an integer argument fits its kind)

theorem own : ownKnob Try.prog.godebug = none := by kernel_rfl

theorem u8_bd {a : Int} (h : (Lit.int .u8 a).wf = true) : 0 ≤ a ∧ a ≤ 255 := bounds_u8 h

/-! ### STEP 1: THE WALK: the Go text returns true. 'Grown w w'': the world has at most new blocks (Derived/RowKit3.lean). Part the cases AHEAD of 'go_enter' where a test parts the walk; take each callee by a contract of your own. -/
set_option maxRecDepth 20000 in
theorem walk (a0 : Int) (w0 : (Lit.int .u8 a0).wf = true) (w : World) :
    Calls Try.prog 7 #[.int .u8 a0] w fun e w' => e = .returned (.bool true) ∧ Grown w w' := by
  have hb := u8_bd w0
  obtain ⟨c0, c1⟩ := hb
  have L := Esc.all a0 c0 c1
  go_enter Try.func7, Try.ntmps7
  go_wp2
  go_loop [3, 4, 5] (fun x f i => ∃ k : Nat, k ≤ 256 ∧ i = .int .i64 k ∧ x = .int .u8 (Esc.want a0 k) ∧ f = .int .i64 (Esc.found a0 k)) (fun _ _ i => 256 - (intOf i).toNat)
  case atStart => exact ⟨0, by omega, rfl, rfl, rfl⟩
  case round =>
    obtain ⟨k, hk, rfl, rfl, rfl⟩ := hrel
    have hf := Esc.found_bd a0 k
    by_cases hlt : k < 256
    · clear L
      go_wp2_with (go_at_call 17; refine (Esc.esc_any _ _).mono ?_; rintro e w' ⟨rfl, rfl⟩)
      all_goals
        first
          | (have q : Esc.esc k = 0 := by assumption
             obtain ⟨r1, r2⟩ := Esc.step_zero (c := a0) q)
          | (have q : (Esc.esc k != 0) = true ∧ (Esc.esc k == a0) = true := by assumption
             have q0 : ¬ Esc.esc k = 0 := by assumption
             obtain ⟨r1, r2⟩ := Esc.step_hit q0 q)
          | (have q : (Esc.esc k != 0) = false ∨ (Esc.esc k == a0) = false := by assumption
             obtain ⟨r1, r2⟩ := Esc.step_miss q)
        go_round
        case rel => exact ⟨k + 1, by omega, by go_num, by rw [r1], by rw [r2]⟩
        case measure => simp [intOf]; omega
    · obtain rfl : k = 256 := by omega
      obtain ⟨l1, l2⟩ := L
      have HL : Hid (Esc.want a0 256 = Esc.une a0) := l2
      clear l2
      go_wp2_with (go_at_call 18; refine (Esc.zune_any _ _).mono ?_; rintro e w' ⟨rfl, rfl⟩)
      go_ret
      refine ⟨?_, Grown.refl _⟩
      rw [HL.out]; simp

/-! ### THE ROW's STEP: WRITTEN OUT: LEAVE IT -/
set_option maxRecDepth 100000 in
theorem lifted (os : Os) (started : os.Started) (H : Type) (enc : TypeId × Value → H) :
    ReturnsInHanded {} Try.checked os 7 .any (Rows.fnUnescapedInvertsJSONEscapesSpec.pre6 enc Try.prog Try.f7 Rows.fnUnescapedInvertsJSONEscapesRow.domain false) (Rows.fnUnescapedInvertsJSONEscapesSpec.post enc Try.prog Try.f7 false true false false) := by
  refine returnsInHanded_of_change (C := Try.checked) own started (by kernel_rfl) Try.func7
    (ChangeSpec.witness6 (enc := enc) (C := Try.checked) false ⟨#[], #[.int .u8 0], []⟩ 8 (by kernel_rfl) (by kernel_rfl) (by kernel_rfl) (by kernel_rfl)) ?_
  intro W base args ds gs before hval0 hW hcnd _
  have hval : ∀ (j : Nat) t v, Try.f7.params[j]? = some t → args[j]? = some v → Value.okWide Try.prog W .any base t v := hval0
  have hW' := hW
  obtain ⟨p, q, hA0, hV, rfl, hfz, hnd⟩ := hW
  have hA : DataW.TrodAll enc Try.prog W 0 (fun _ => true) true Try.f7.params.toList args.toList ds p := hA0
  rw [Try.params7] at hA hval
  obtain ⟨v0, vs0, d0, ds0, p0, q0, hargs, rfl, rfl, h0, r0⟩ := trodAll_cons hA
  obtain ⟨rfl, rfl, rfl⟩ := trodAll_nil r0
  obtain rfl : args = #[v0] := by cases args; simp_all
  obtain ⟨rfl, rfl⟩ := trodVars_none hV
  obtain ⟨a0, rfl, rfl, rfl, w0⟩ := open_int Try.underlying5 (hval 0 5 v0 rfl rfl) h0
  clear hA0 hval0
  simp only [List.append_nil] at hW'
  refine (walk a0 w0 W).mono fun e W' ⟨he, hg⟩ => ?_
  subst he
  exact ⟨_, rfl, post_of_same (pa := []) (pv := []) hW' (fun _ _ _ => (trodAll_cons_mk (shut_bool Try.underlying4 _) trodAll_mk0)) (fun sp _ => (trodAll_cons_mk (shut_int Try.underlying5 w0) trodAll_mk0)) (fun _ _ => rfl) rfl
    (hg.frame _) hg.2.1 (ok_one (by kernel_rfl) rfl (okWide_bool_mk Try.underlying4 _))⟩

theorem over : Rows.fnUnescapedInvertsJSONEscapesRow.holds Try.pinned (OpenSpec.ofChange Rows.fnUnescapedInvertsJSONEscapesSpec) :=
  OpenClaim.holds_of_wide 7 Try.f7 rfl rfl rfl rfl rfl rfl rfl ⟨rfl, rfl, rfl, rfl, rfl⟩ rfl rfl rfl rfl rfl (by kernel_rfl) Try.func7 (by kernel_rfl)
    (of_decide_eq_true (by kernel_rfl)) (by unfold Func.isWrapper; first | (rw [if_pos (by decide +kernel)]; kernel_rfl) | (rw [if_neg (by decide +kernel)]; exact ⟨rfl, rfl⟩))
    (fun os started H enc _ => lifted os started H enc)

/-- ████ THE STATEMENT ████ -/
theorem proved : Rows.FnUnescapedInvertsJSONEscapesSaid :=
  over
#print axioms proved
end Go.Proofs.Qxb6605498a.fnUnescapedInvertsJSONEscapes
