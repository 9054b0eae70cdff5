/-
  'Rows.FnStandsAtSplitsAtAnyCutSaid': the frame is the guide's shell (proof-skeleton.mjs); the walk is typed here over the contract in Qxb6612679aWalks.
-/
import Derived.Test.Qxb6612679aRows
import Derived.Test.Qxb6612679aWalks
import Derived.WalkKit
import Derived.ProofKit
import Derived.OpenShut
import Derived.ShutString
namespace Go.Proofs.Qxb6612679a.fnStandsAtSplitsAtAnyCut
open Go.ChangeShapes Go.WideShapes Go.ChangeAt Go.RowKit
open Go.ChangeMaps (open_string shut_string)
set_option linter.unusedVariables false      -- a walk need not use every 'w<i>' (that an integer argument fits its kind)

theorem own : ownKnob Try.prog.godebug = none := by kernel_rfl

/-! ### STEP 1: THE WALK: the Go text returns true. 'Grown w w'': the world has at most new blocks (Derived/RowKit3.lean). Part the cases AHEAD of 'go_enter' where a test parts the walk; take each callee by a contract of your own. -/
theorem walk (a0 : Int) (a1 : Int) (a2 : Int) (a3 : Int) (w0 : (Lit.int .i64 a0).wf = true) (w1 : (Lit.int .i64 a1).wf = true) (w2 : (Lit.int .i64 a2).wf = true) (w3 : (Lit.int .i64 a3).wf = true) (w : World) :
    Calls Try.prog 3 #[.int .i64 a0, .int .i64 a1, .int .i64 a2, .int .i64 a3] w fun e w' => e = .returned (.bool true) ∧ Grown w w' := by
  have b0 := bounds_i64 w0
  have b1 := bounds_i64 w1
  have b2 := bounds_i64 w2
  have b3 := bounds_i64 w3
  by_cases c0 : a0 < 0
  · go_enter Try.func3, Try.ntmps3
    go_wp2
    go_ret
    exact ⟨rfl, Grown.refl _⟩
  have d0 : decide (a0 < 0) = false := decide_eq_false c0
  by_cases c1 : a1 ≤ a0
  · go_enter Try.func3, Try.ntmps3
    go_wp2
    go_ret
    exact ⟨rfl, Grown.refl _⟩
  have d1 : decide (a1 ≤ a0) = false := decide_eq_false c1
  by_cases c2 : a2 ≤ a1
  · go_enter Try.func3, Try.ntmps3
    go_wp2
    go_ret
    exact ⟨rfl, Grown.refl _⟩
  have d2 : decide (a2 ≤ a1) = false := decide_eq_false c2
  have s1 : stB a0 a2 a0 = true := stB_yes (by omega) (by omega)
  have s2 : stB a0 a2 (a0 - 1) = false := stB_no1 (by omega)
  have s3 : stB a0 a2 a2 = false := stB_no2 (by omega)
  have hx : (stB a0 a2 a3 = false ∧ stB a0 a1 a3 = false ∧ stB a1 a2 a3 = false) ∨ (stB a0 a2 a3 = true ∧ stB a0 a1 a3 = true ∧ stB a1 a2 a3 = false) ∨ (stB a0 a2 a3 = true ∧ stB a0 a1 a3 = false ∧ stB a1 a2 a3 = true) := by
    by_cases e0 : a3 < a0
    · exact .inl ⟨stB_no1 e0, stB_no1 e0, stB_no1 (by omega)⟩
    · by_cases e1 : a3 < a1
      · exact .inr (.inl ⟨stB_yes (by omega) (by omega), stB_yes (by omega) e1, stB_no1 e1⟩)
      · by_cases e2 : a3 < a2
        · exact .inr (.inr ⟨stB_yes (by omega) e2, stB_no2 (by omega), stB_yes (by omega) e2⟩)
        · exact .inl ⟨stB_no2 (by omega), stB_no2 (by omega), stB_no2 (by omega)⟩
  rcases hx with ⟨x1, x2, x3⟩ | ⟨x1, x2, x3⟩ | ⟨x1, x2, x3⟩
  all_goals
    go_enter Try.func3, Try.ntmps3
    go_wp2_with fail
    refine (stands _ _ _ _).mono ?_
    rintro e w1 ⟨rfl, g1⟩
    go_wp2_with fail
    refine (stands _ _ _ _).mono ?_
    rintro e w2 ⟨rfl, g2⟩
    go_wp2_with fail
    refine (stands _ _ _ _).mono ?_
    rintro e w3 ⟨rfl, g3⟩
    go_wp2_with fail
    refine (stands _ _ _ _).mono ?_
    rintro e w4 ⟨rfl, g4⟩
    go_wp2_with fail
    refine (stands _ _ _ _).mono ?_
    rintro e w5 ⟨rfl, g5⟩
    go_wp2_with fail
    refine (stands _ _ _ _).mono ?_
    rintro e w6 ⟨rfl, g6⟩
    go_wp2_with fail
    go_ret
    exact ⟨rfl, grown_trans g1 (grown_trans g2 (grown_trans g3 (grown_trans g4 (grown_trans g5 g6))))⟩

/-! ### THE ROW's STEP: WRITTEN OUT: LEAVE IT -/
set_option maxRecDepth 100000 in
theorem lifted (os : Os) (started : os.Started) (H : Type) (enc : TypeId × Value → H) :
    ReturnsInHanded {} Try.checked os 3 .any (Rows.fnStandsAtSplitsAtAnyCutSpec.pre6 enc Try.prog Try.f3 Rows.fnStandsAtSplitsAtAnyCutRow.domain false) (Rows.fnStandsAtSplitsAtAnyCutSpec.post enc Try.prog Try.f3 false true false false) := by
  refine returnsInHanded_of_change (C := Try.checked) own started (by kernel_rfl) Try.func3
    (ChangeSpec.witness6 (enc := enc) (C := Try.checked) false ⟨#[], #[.int .i64 0, .int .i64 0, .int .i64 0, .int .i64 0], []⟩ 8 (by kernel_rfl) (by kernel_rfl) (by kernel_rfl) (by kernel_rfl)) ?_
  intro W base args ds gs before hval0 hW hcnd _
  have hval : ∀ (j : Nat) t v, Try.f3.params[j]? = some t → args[j]? = some v → Value.okWide Try.prog W .any base t v := hval0
  have hW' := hW
  obtain ⟨p, q, hA0, hV, rfl, hfz, hnd⟩ := hW
  have hA : DataW.TrodAll enc Try.prog W 0 (fun _ => true) true Try.f3.params.toList args.toList ds p := hA0
  rw [Try.params3] at hA hval
  obtain ⟨v0, vs0, d0, ds0, p0, q0, hargs, rfl, rfl, h0, r0⟩ := trodAll_cons hA
  obtain ⟨v1, vs1, d1, ds1, p1, q1, rfl, rfl, rfl, h1, r1⟩ := trodAll_cons r0
  obtain ⟨v2, vs2, d2, ds2, p2, q2, rfl, rfl, rfl, h2, r2⟩ := trodAll_cons r1
  obtain ⟨v3, vs3, d3, ds3, p3, q3, rfl, rfl, rfl, h3, r3⟩ := trodAll_cons r2
  obtain ⟨rfl, rfl, rfl⟩ := trodAll_nil r3
  obtain rfl : args = #[v0, v1, v2, v3] := by cases args; simp_all
  obtain ⟨rfl, rfl⟩ := trodVars_none hV
  obtain ⟨a0, rfl, rfl, rfl, w0⟩ := open_int Try.underlying3 (hval 0 3 v0 rfl rfl) h0
  obtain ⟨a1, rfl, rfl, rfl, w1⟩ := open_int Try.underlying3 (hval 1 3 v1 rfl rfl) h1
  obtain ⟨a2, rfl, rfl, rfl, w2⟩ := open_int Try.underlying3 (hval 2 3 v2 rfl rfl) h2
  obtain ⟨a3, rfl, rfl, rfl, w3⟩ := open_int Try.underlying3 (hval 3 3 v3 rfl rfl) h3
  clear hA0 hval0
  simp only [List.append_nil] at hW'
  refine (walk a0 a1 a2 a3 w0 w1 w2 w3 W).mono fun e W' ⟨he, hg⟩ => ?_
  subst he
  exact ⟨_, rfl, post_of_same (pa := []) (pv := []) hW' (fun _ _ _ => (trodAll_cons_mk (shut_bool Try.underlying4 _) trodAll_mk0)) (fun sp _ => (trodAll_cons_mk (shut_int Try.underlying3 w0) (trodAll_cons_mk (shut_int Try.underlying3 w1) (trodAll_cons_mk (shut_int Try.underlying3 w2) (trodAll_cons_mk (shut_int Try.underlying3 w3) trodAll_mk0))))) (fun _ _ => rfl) rfl
    (hg.frame _) hg.2.1 (ok_one (by kernel_rfl) rfl (okWide_bool_mk Try.underlying4 _))⟩

theorem over : Rows.fnStandsAtSplitsAtAnyCutRow.holds Try.pinned (OpenSpec.ofChange Rows.fnStandsAtSplitsAtAnyCutSpec) :=
  OpenClaim.holds_of_wide 3 Try.f3 rfl rfl rfl rfl rfl rfl rfl ⟨rfl, rfl, rfl, rfl, rfl⟩ rfl rfl rfl rfl rfl (by kernel_rfl) Try.func3 (by kernel_rfl)
    (of_decide_eq_true (by kernel_rfl)) (by unfold Func.isWrapper; first | (rw [if_pos (by decide +kernel)]; kernel_rfl) | (rw [if_neg (by decide +kernel)]; exact ⟨rfl, rfl⟩))
    (fun os started H enc _ => lifted os started H enc)

/-- ████ THE STATEMENT ████ -/
theorem proved : Rows.FnStandsAtSplitsAtAnyCutSaid :=
  over
#print axioms proved
end Go.Proofs.Qxb6612679a.fnStandsAtSplitsAtAnyCut
