/-
  PROOF OF 'Rows.FnLevelSpecificityOrderSaid'. The frame is the guide's; the walk is filled here.
-/
import Derived.Test.Qxb6600451aRows
import Derived.WalkKit
import Derived.ProofKit
import Derived.OpenShut
import Derived.ShutString
import Derived.Test.Qxb6600451aLevelWalks
namespace Go.Proofs.Qxb6600451a.fnLevelSpecificityOrder
open Go.ChangeShapes Go.WideShapes Go.ChangeAt Go.RowKit
open Go.ChangeMaps (open_string shut_string)
set_option linter.unusedVariables false      -- a walk need not use every 'w<i>' (that an integer argument fits its kind)

theorem own : ownKnob Try.prog.godebug = none := by kernel_rfl

/-! ### STEP 1: THE WALK: the Go text returns true. 'Grown w w'': the world has at most new blocks (Derived/RowKit3.lean). Part the cases AHEAD of 'go_enter' where a test parts the walk; take each callee by a contract of your own. -/
set_option maxHeartbeats 400000 in
theorem walk (a0 : Int) (a1 : ByteArray) (a2 : ByteArray) (a3 : Int) (w0 : (Lit.int .i64 a0).wf = true) (w1 : a1.size ≤ maxLen) (w2 : a2.size ≤ maxLen) (w3 : (Lit.int .i64 a3).wf = true) (w : World) :
    Calls Try.prog 5 #[.int .i64 a0, .string a1, .string a2, .int .i64 a3] w fun e w' => e = .returned (.bool true) ∧ Grown w w' := by
  have h13 := zz13_any a0 a1 a2 a3 w w1 w2
  unfold maxLen at w1 w2
  by_cases h1 : (1048576 : Int) < (a1.size : Int)
  · have d1 : decide ((1048576 : Int) < (a1.size : Int)) = true := decide_eq_true h1
    go_enter Try.func5, Try.ntmps5
    go_wp2_with (go_at_call 13; refine h13.mono ?_; rintro e w' ⟨⟨b, rfl⟩, rfl⟩; cases b)
    all_goals (go_ret; exact ⟨rfl, Grown.refl _⟩)
  have d1 : decide ((1048576 : Int) < (a1.size : Int)) = false := decide_eq_false h1
  by_cases h2 : (1048576 : Int) < (a2.size : Int)
  · have d2 : decide ((1048576 : Int) < (a2.size : Int)) = true := decide_eq_true h2
    go_enter Try.func5, Try.ntmps5
    go_wp2_with (go_at_call 13; refine h13.mono ?_; rintro e w' ⟨⟨b, rfl⟩, rfl⟩; cases b)
    all_goals (go_ret; exact ⟨rfl, Grown.refl _⟩)
  have d2 : decide ((1048576 : Int) < (a2.size : Int)) = false := decide_eq_false h2
  by_cases h3 : (1048576 : Int) < (a1.size : Int) + (a2.size : Int)
  · have d3 : decide ((1048576 : Int) < (a1.size : Int) + (a2.size : Int)) = true := decide_eq_true h3
    go_enter Try.func5, Try.ntmps5
    go_wp2_with (go_at_call 13; refine h13.mono ?_; rintro e w' ⟨⟨b, rfl⟩, rfl⟩; cases b)
    all_goals (go_ret; exact ⟨rfl, Grown.refl _⟩)
  have d3 : decide ((1048576 : Int) < (a1.size : Int) + (a2.size : Int)) = false := decide_eq_false h3
  have tok1 : True := trivial
  have tok2 : True := trivial
  have tok3 : True := trivial
  have tok4 : True := trivial
  go_enter Try.func5, Try.ntmps5
  go_wp2_with (first
    | (go_at_call 13; refine h13.mono ?_; rintro e w' ⟨⟨b, rfl⟩, rfl⟩; cases b)
    | (go_at_call 14; have _t := tok1; refine (level_true_true _ _ _ _ _).mono ?_; rintro e x1 ⟨rfl, g1⟩; clear _t tok1)
    | (go_at_call 14; have _t := tok2; refine (level_true_false _ _ _ _ _).mono ?_; rintro e x2 ⟨rfl, g2⟩; clear _t tok2)
    | (go_at_call 14; have _t := tok3; refine (level_false_true _ _ _ _ _).mono ?_; rintro e x3 ⟨rfl, g3⟩; clear _t tok3)
    | (go_at_call 14; have _t := tok4; refine (level_false_false _ _ _ _ _).mono ?_; rintro e x4 ⟨rfl, g4⟩; clear _t tok4))
  · go_ret
    exact ⟨rfl, Grown.refl _⟩
  · go_ret
    exact ⟨rfl, grown_trans (grown_trans (grown_trans g1 g2) g3) g4⟩

/-! ### THE ROW's STEP: WRITTEN OUT: LEAVE IT -/
set_option maxRecDepth 100000 in
theorem lifted (os : Os) (started : os.Started) (H : Type) (enc : TypeId × Value → H) :
    ReturnsInHanded {} Try.checked os 5 .any (Rows.fnLevelSpecificityOrderSpec.pre6 enc Try.prog Try.f5 Rows.fnLevelSpecificityOrderRow.domain false) (Rows.fnLevelSpecificityOrderSpec.post enc Try.prog Try.f5 false true false false) := by
  refine returnsInHanded_of_change (C := Try.checked) own started (by kernel_rfl) Try.func5
    (ChangeSpec.witness6 (enc := enc) (C := Try.checked) false ⟨#[], #[.int .i64 0, .string ByteArray.empty, .string ByteArray.empty, .int .i64 0], []⟩ 8 (by kernel_rfl) (by kernel_rfl) (by kernel_rfl) (by kernel_rfl)) ?_
  intro W base args ds gs before hval0 hW hcnd _
  have hval : ∀ (j : Nat) t v, Try.f5.params[j]? = some t → args[j]? = some v → Value.okWide Try.prog W .any base t v := hval0
  have hW' := hW
  obtain ⟨p, q, hA0, hV, rfl, hfz, hnd⟩ := hW
  have hA : DataW.TrodAll enc Try.prog W 0 (fun _ => true) true Try.f5.params.toList args.toList ds p := hA0
  rw [Try.params5] at hA hval
  obtain ⟨v0, vs0, d0, ds0, p0, q0, hargs, rfl, rfl, h0, r0⟩ := trodAll_cons hA
  obtain ⟨v1, vs1, d1, ds1, p1, q1, rfl, rfl, rfl, h1, r1⟩ := trodAll_cons r0
  obtain ⟨v2, vs2, d2, ds2, p2, q2, rfl, rfl, rfl, h2, r2⟩ := trodAll_cons r1
  obtain ⟨v3, vs3, d3, ds3, p3, q3, rfl, rfl, rfl, h3, r3⟩ := trodAll_cons r2
  obtain ⟨rfl, rfl, rfl⟩ := trodAll_nil r3
  obtain rfl : args = #[v0, v1, v2, v3] := by cases args; simp_all
  obtain ⟨rfl, rfl⟩ := trodVars_none hV
  obtain ⟨a0, rfl, rfl, rfl, w0⟩ := open_int Try.underlying3 (hval 0 3 v0 rfl rfl) h0
  obtain ⟨a1, rfl, rfl, rfl, w1⟩ := open_string Try.underlying9 (hval 1 9 v1 rfl rfl) h1
  obtain ⟨a2, rfl, rfl, rfl, w2⟩ := open_string Try.underlying9 (hval 2 9 v2 rfl rfl) h2
  obtain ⟨a3, rfl, rfl, rfl, w3⟩ := open_int Try.underlying3 (hval 3 3 v3 rfl rfl) h3
  clear hA0 hval0
  simp only [List.append_nil] at hW'
  refine (walk a0 a1 a2 a3 w0 w1 w2 w3 W).mono fun e W' ⟨he, hg⟩ => ?_
  subst he
  exact ⟨_, rfl, post_of_same (pa := []) (pv := []) hW' (fun _ _ _ => (trodAll_cons_mk (shut_bool Try.underlying4 _) trodAll_mk0)) (fun sp _ => (trodAll_cons_mk (shut_int Try.underlying3 w0) (trodAll_cons_mk (shut_string Try.underlying9 w1) (trodAll_cons_mk (shut_string Try.underlying9 w2) (trodAll_cons_mk (shut_int Try.underlying3 w3) trodAll_mk0))))) (fun _ _ => rfl) rfl
    (hg.frame _) hg.2.1 (ok_one (by kernel_rfl) rfl (okWide_bool_mk Try.underlying4 _))⟩

theorem over : Rows.fnLevelSpecificityOrderRow.holds Try.pinned (OpenSpec.ofChange Rows.fnLevelSpecificityOrderSpec) :=
  OpenClaim.holds_of_wide 5 Try.f5 rfl rfl rfl rfl rfl rfl rfl ⟨rfl, rfl, rfl, rfl, rfl⟩ rfl rfl rfl rfl rfl (by kernel_rfl) Try.func5 (by kernel_rfl)
    (of_decide_eq_true (by kernel_rfl)) (by unfold Func.isWrapper; first | (rw [if_pos (by decide +kernel)]; kernel_rfl) | (rw [if_neg (by decide +kernel)]; exact ⟨rfl, rfl⟩))
    (fun os started H enc _ => lifted os started H enc)

/-- ████ THE STATEMENT ████ -/
theorem proved : Rows.FnLevelSpecificityOrderSaid :=
  over
#print axioms proved
end Go.Proofs.Qxb6600451a.fnLevelSpecificityOrder
