/-
  A PROOF OF 'Rows.FnReachesMostStepsAndSymmetrySaid' ('example.com/slotwright/slotwright/zzlaws_internal_parserstack_b1.FnReachesMostStepsAndSymmetry'), the frame written by program (proof-skeleton.mjs).
  The walk is ours; all else is the template's.
-/
import Derived.Test.Qxb6609456aRows
import Derived.WalkKit
import Derived.ProofKit
import Derived.OpenShut
import Derived.ShutString
namespace Go.Proofs.Qxb6609456a.fnReachesMostStepsAndSymmetry
open Go.ChangeShapes Go.WideShapes Go.ChangeAt Go.RowKit
open Go.ChangeMaps (open_string shut_string)
set_option linter.unusedVariables false      -- a walk need not use every 'w<i>' (that an integer argument fits its kind)

theorem ret_int {k : IntKind} {a b : Int} (h : a = b) : Ending.returned (.int k a) = .returned (.int k b) := by rw [h]
/-- what 'most' answers -/
def mst (h r p : Int) : Int := h + min r p
theorem mst_bd (h r p : Int) : (mst h r p ≤ h + r ∧ mst h r p ≤ h + p) ∧ (h + r ≤ mst h r p ∨ h + p ≤ mst h r p) := by unfold mst; omega
theorem mst_diag (h r : Int) : mst h r r = h + r := by unfold mst; omega
theorem mst_swap (h r p : Int) : mst h r p - h = mst 0 p r := by unfold mst; omega
theorem mst_step (h r p : Int) (c : p < r) : mst h r (p + 1) - mst h r p = 1 := by unfold mst; omega
theorem mst_stay (h r p : Int) (c : r ≤ p) : mst h r (p + 1) - mst h r p = 0 := by unfold mst; omega

set_option maxHeartbeats 400000 in
theorem most_any (h r p : Int) (a1 : -2305843009213693951 ≤ h) (a2 : h ≤ 2305843009213693951) (b1 : -2305843009213693951 ≤ r) (b2 : r ≤ 2305843009213693951) (c1 : -2305843009213693951 ≤ p) (c2 : p ≤ 2305843009213693952) (w : World) :
    Calls Try.prog 13 #[.agg #[.int .i64 h, .int .i64 r], .int .i64 p] w fun e w' => e = .returned (.int .i64 (mst h r p)) ∧ w' = w.alloc (.cells #[.int .i64 h, .int .i64 r] 30) := by
  by_cases hc : p < r
  · go_enter Try.func13, Try.ntmps13
    go_wp2
    go_ret
    exact ⟨ret_int (by unfold mst; omega), rfl⟩
  · go_enter Try.func13, Try.ntmps13
    go_wp2
    go_ret
    exact ⟨ret_int (by unfold mst; omega), rfl⟩

set_option maxHeartbeats 400000 in
theorem zzmost_any (h r p : Int) (a1 : -2305843009213693951 ≤ h) (a2 : h ≤ 2305843009213693951) (b1 : -2305843009213693951 ≤ r) (b2 : r ≤ 2305843009213693951) (c1 : -2305843009213693951 ≤ p) (c2 : p ≤ 2305843009213693952) (w : World) :
    Calls Try.prog 6 #[.int .i64 h, .int .i64 r, .int .i64 p] w fun e w' => e = .returned (.int .i64 (mst h r p)) ∧ w' = w.alloc (.cells #[.int .i64 h, .int .i64 r] 30) := by
  go_enter Try.func6, Try.ntmps6
  go_wp2_with (go_at_call 13; refine (most_any h r p a1 a2 b1 b2 c1 c2 _).mono ?_; rintro e w' ⟨rfl, rfl⟩)
  go_ret
  exact ⟨rfl, rfl⟩

theorem own : ownKnob Try.prog.godebug = none := by kernel_rfl

/-! ### STEP 1: THE WALK: the Go text returns true. 'Grown w w'': the world has at most new blocks (Derived/RowKit3.lean). Part the cases AHEAD of 'go_enter' where a test parts the walk; take each callee by a contract of your own. -/
theorem walk (a0 : Int) (a1 : Int) (a2 : Int) (w0 : (Lit.int .i64 a0).wf = true) (w1 : (Lit.int .i64 a1).wf = true) (w2 : (Lit.int .i64 a2).wf = true) (w : World) :
    Calls Try.prog 3 #[.int .i64 a0, .int .i64 a1, .int .i64 a2] w fun e w' => e = .returned (.bool true) ∧ Grown w w' := by
  by_cases g1 : 2305843009213693951 < a0
  · go_enter Try.func3, Try.ntmps3
    go_wp2
    go_ret
    exact ⟨rfl, Grown.refl _⟩
  by_cases g2 : a0 < -2305843009213693951
  · go_enter Try.func3, Try.ntmps3
    go_wp2
    go_ret
    exact ⟨rfl, Grown.refl _⟩
  by_cases g3 : 2305843009213693951 < a1
  · go_enter Try.func3, Try.ntmps3
    go_wp2
    go_ret
    exact ⟨rfl, Grown.refl _⟩
  by_cases g4 : a1 < -2305843009213693951
  · go_enter Try.func3, Try.ntmps3
    go_wp2
    go_ret
    exact ⟨rfl, Grown.refl _⟩
  by_cases g5 : 2305843009213693951 < a2
  · go_enter Try.func3, Try.ntmps3
    go_wp2
    go_ret
    exact ⟨rfl, Grown.refl _⟩
  by_cases g6 : a2 < -2305843009213693951
  · go_enter Try.func3, Try.ntmps3
    go_wp2
    go_ret
    exact ⟨rfl, Grown.refl _⟩
  have k1 := mst_bd a0 a1 a2
  have k2 := mst_bd a0 a1 (a2 + 1)
  have k3 := mst_bd 0 a2 a1
  have k4 := mst_diag a0 a1
  have k5 := mst_swap a0 a1 a2
  by_cases hlt : a2 < a1
  · have k6 : mst a0 a1 (a2 + 1) - mst a0 a1 a2 = 1 := mst_step a0 a1 a2 hlt
    go_enter Try.func3, Try.ntmps3
    go_wp2_with (go_at_call 6; refine (zzmost_any _ _ _ (by omega) (by omega) (by omega) (by omega) (by omega) (by omega) _).mono ?_; rintro e w' ⟨rfl, rfl⟩)
    go_ret
    exact ⟨rfl, by repeat (first | exact Grown.refl _ | apply Grown.drew | apply Grown.alloc)⟩
  · have k6 : mst a0 a1 (a2 + 1) - mst a0 a1 a2 = 0 := mst_stay a0 a1 a2 (by omega)
    go_enter Try.func3, Try.ntmps3
    go_wp2_with (go_at_call 6; refine (zzmost_any _ _ _ (by omega) (by omega) (by omega) (by omega) (by omega) (by omega) _).mono ?_; rintro e w' ⟨rfl, rfl⟩)
    go_ret
    exact ⟨rfl, by repeat (first | exact Grown.refl _ | apply Grown.drew | apply Grown.alloc)⟩

/-! ### THE ROW's STEP: WRITTEN OUT: LEAVE IT -/
set_option maxRecDepth 100000 in
theorem lifted (os : Os) (started : os.Started) (H : Type) (enc : TypeId × Value → H) :
    ReturnsInHanded {} Try.checked os 3 .any (Rows.fnReachesMostStepsAndSymmetrySpec.pre6 enc Try.prog Try.f3 Rows.fnReachesMostStepsAndSymmetryRow.domain false) (Rows.fnReachesMostStepsAndSymmetrySpec.post enc Try.prog Try.f3 false true false false) := by
  refine returnsInHanded_of_change (C := Try.checked) own started (by kernel_rfl) Try.func3
    (ChangeSpec.witness6 (enc := enc) (C := Try.checked) false ⟨#[], #[.int .i64 0, .int .i64 0, .int .i64 0], []⟩ 8 (by kernel_rfl) (by kernel_rfl) (by kernel_rfl) (by kernel_rfl)) ?_
  intro W base args ds gs before hval0 hW hcnd _
  have hval : ∀ (j : Nat) t v, Try.f3.params[j]? = some t → args[j]? = some v → Value.okWide Try.prog W .any base t v := hval0
  have hW' := hW
  obtain ⟨p, q, hA0, hV, rfl, hfz, hnd⟩ := hW
  have hA : DataW.TrodAll enc Try.prog W 0 (fun _ => true) true Try.f3.params.toList args.toList ds p := hA0
  rw [Try.params3] at hA hval
  obtain ⟨v0, vs0, d0, ds0, p0, q0, hargs, rfl, rfl, h0, r0⟩ := trodAll_cons hA
  obtain ⟨v1, vs1, d1, ds1, p1, q1, rfl, rfl, rfl, h1, r1⟩ := trodAll_cons r0
  obtain ⟨v2, vs2, d2, ds2, p2, q2, rfl, rfl, rfl, h2, r2⟩ := trodAll_cons r1
  obtain ⟨rfl, rfl, rfl⟩ := trodAll_nil r2
  obtain rfl : args = #[v0, v1, v2] := by cases args; simp_all
  obtain ⟨rfl, rfl⟩ := trodVars_none hV
  obtain ⟨a0, rfl, rfl, rfl, w0⟩ := open_int Try.underlying3 (hval 0 3 v0 rfl rfl) h0
  obtain ⟨a1, rfl, rfl, rfl, w1⟩ := open_int Try.underlying3 (hval 1 3 v1 rfl rfl) h1
  obtain ⟨a2, rfl, rfl, rfl, w2⟩ := open_int Try.underlying3 (hval 2 3 v2 rfl rfl) h2
  clear hA0 hval0
  simp only [List.append_nil] at hW'
  refine (walk a0 a1 a2 w0 w1 w2 W).mono fun e W' ⟨he, hg⟩ => ?_
  subst he
  exact ⟨_, rfl, post_of_same (pa := []) (pv := []) hW' (fun _ _ _ => (trodAll_cons_mk (shut_bool Try.underlying4 _) trodAll_mk0)) (fun sp _ => (trodAll_cons_mk (shut_int Try.underlying3 w0) (trodAll_cons_mk (shut_int Try.underlying3 w1) (trodAll_cons_mk (shut_int Try.underlying3 w2) trodAll_mk0)))) (fun _ _ => rfl) rfl
    (hg.frame _) hg.2.1 (ok_one (by kernel_rfl) rfl (okWide_bool_mk Try.underlying4 _))⟩

theorem over : Rows.fnReachesMostStepsAndSymmetryRow.holds Try.pinned (OpenSpec.ofChange Rows.fnReachesMostStepsAndSymmetrySpec) :=
  OpenClaim.holds_of_wide 3 Try.f3 rfl rfl rfl rfl rfl rfl rfl ⟨rfl, rfl, rfl, rfl, rfl⟩ rfl rfl rfl rfl rfl (by kernel_rfl) Try.func3 (by kernel_rfl)
    (of_decide_eq_true (by kernel_rfl)) (by unfold Func.isWrapper; first | (rw [if_pos (by decide +kernel)]; kernel_rfl) | (rw [if_neg (by decide +kernel)]; exact ⟨rfl, rfl⟩))
    (fun os started H enc _ => lifted os started H enc)

/-- ████ THE STATEMENT ████ -/
theorem proved : Rows.FnReachesMostStepsAndSymmetrySaid :=
  over
#print axioms proved
end Go.Proofs.Qxb6609456a.fnReachesMostStepsAndSymmetry
