/-
  A PROOF OF 'Rows.FnInReachCountSaid' ('example.com/steady-timers/steady-timers/zzlaws_internal_queue_b1.FnInReachCount'), the frame written by program (proof-skeleton.mjs).
  The walk is ours; all else is the template's.
-/
import Derived.Test.Qxb6609346aReach
import Derived.WalkKit
import Derived.ProofKit
import Derived.OpenShut
import Derived.ShutString
namespace Go.Proofs.Qxb6609346a.fnInReachCount
open Go.ChangeShapes Go.WideShapes Go.ChangeAt Go.RowKit
open Go.ChangeMaps (open_string shut_string)
set_option linter.unusedVariables false      -- a walk need not use every 'w<i>' (that an integer argument fits its kind)

theorem reach_law (a c : Int) : reachB a c = true ↔ (c = a / 16384 + 1 ∨ (a % 16384 = 0 ∧ c = a / 16384)) := by
  simp only [reachB, covB, Bool.and_eq_true, decide_eq_true_eq]
  omega
theorem reach_next (a : Int) : reachB a (a / 16384 + 1) = true := (reach_law _ _).2 (Or.inl rfl)
/-- how many of the first k of the seven coarse buckets are in reach -/
def cnt (a : Int) (k : Nat) : Int := (if 4 ≤ k ∧ a % 16384 = 0 then 1 else 0) + (if 5 ≤ k then 1 else 0)
theorem cnt_bd (a : Int) (k : Nat) : 0 ≤ cnt a k ∧ cnt a k ≤ 2 := by unfold cnt; split <;> split <;> omega
theorem cnt_succ (a : Int) (k : Nat) (_hk : k < 7) : cnt a (k + 1) = cnt a k + (if reachB a (a / 16384 - 3 + k) = true then 1 else 0) := by
  simp only [reach_law, cnt]
  repeat' split
  all_goals omega
theorem cnt_two (a : Int) (h : a % 16384 = 0) : cnt a 7 = 2 := by simp [cnt, h]
theorem cnt_one (a : Int) (h : ¬ a % 16384 = 0) : cnt a 7 = 1 := by simp [cnt, h]

theorem own : ownKnob Try.prog.godebug = none := by kernel_rfl

/-! ### STEP 1: THE WALK: the Go text returns true. 'Grown w w'': the world has at most new blocks (Derived/RowKit3.lean). Part the cases AHEAD of 'go_enter' where a test parts the walk; take each callee by a contract of your own. -/
theorem walk (a0 : Int) (w0 : (Lit.int .i64 a0).wf = true) (w : World) :
    Calls Try.prog 4 #[.int .i64 a0] w fun e w' => e = .returned (.bool true) ∧ Grown w w' := by
  by_cases hb0 : a0 < 0
  · go_enter Try.func4, Try.ntmps4
    go_wp2
    go_ret
    exact ⟨rfl, Grown.refl _⟩
  by_cases hb1 : 8796093022207 < a0
  · go_enter Try.func4, Try.ntmps4
    go_wp2
    go_ret
    exact ⟨rfl, Grown.refl _⟩
  go_enter Try.func4, Try.ntmps4
  go_wp2_with (go_at_call 6; refine (newq_zero a0 (a0 / 16384) w).mono ?_; rintro e w' ⟨rfl, C, rfl, hC⟩)
  go_loop [5, 6] (fun n c => ∃ k : Nat, k ≤ 7 ∧ c = .int .i64 (a0 / 16384 - 3 + k) ∧ n = .int .i64 (cnt a0 k)) (fun _ c => (a0 / 16384 + 4 - intOf c).toNat)
  case atStart => exact ⟨0, by omega, by go_num, rfl⟩
  case round =>
    obtain ⟨k, hk, rfl, rfl⟩ := hrel
    have hn := cnt_bd a0 k
    by_cases hlt : k < 7
    · have HS : Hid (cnt a0 (k + 1) = cnt a0 k + (if reachB a0 (a0 / 16384 - 3 + k) = true then 1 else 0)) := cnt_succ a0 k hlt
      cases hr : reachB a0 (a0 / 16384 - 3 + k) with
      | true =>
        go_wp2_with (go_at_call 7; refine (zzreach_any w.heap.size a0 _ (by omega) (by omega) (by omega) (by omega) _ (by rw [World.cell?_alloc_at _ _ _ _ rfl]; exact hC)).mono ?_; rintro e w' ⟨rfl, rfl⟩)
        go_round
        case rel => exact ⟨k + 1, by omega, by go_num, by rw [HS.out, hr]; rfl⟩
        case measure => simp [intOf]; omega
      | false =>
        go_wp2_with (go_at_call 7; refine (zzreach_any w.heap.size a0 _ (by omega) (by omega) (by omega) (by omega) _ (by rw [World.cell?_alloc_at _ _ _ _ rfl]; exact hC)).mono ?_; rintro e w' ⟨rfl, rfl⟩)
        go_round
        case rel => exact ⟨k + 1, by omega, by go_num, by rw [HS.out, hr]; simp⟩
        case measure => simp [intOf]; omega
    · obtain rfl : k = 7 := by omega
      have hl : reachB a0 (a0 / 16384 + 1) = true := reach_next a0
      by_cases hz : a0 % 16384 = 0
      · have h7 : cnt a0 7 = 2 := cnt_two a0 hz
        go_wp2_with (go_at_call 7; refine (zzreach_any w.heap.size a0 _ (by omega) (by omega) (by omega) (by omega) _ (by rw [World.cell?_alloc_at _ _ _ _ rfl]; exact hC)).mono ?_; rintro e w' ⟨rfl, rfl⟩)
        go_ret
        exact ⟨rfl, Grown.alloc (Grown.refl _) _ _⟩
      · have h7 : cnt a0 7 = 1 := cnt_one a0 hz
        go_wp2_with (go_at_call 7; refine (zzreach_any w.heap.size a0 _ (by omega) (by omega) (by omega) (by omega) _ (by rw [World.cell?_alloc_at _ _ _ _ rfl]; exact hC)).mono ?_; rintro e w' ⟨rfl, rfl⟩)
        go_ret
        exact ⟨rfl, Grown.alloc (Grown.refl _) _ _⟩

/-! ### THE ROW's STEP: WRITTEN OUT: LEAVE IT -/
set_option maxRecDepth 100000 in
theorem lifted (os : Os) (started : os.Started) (H : Type) (enc : TypeId × Value → H) :
    ReturnsInHanded {} Try.checked os 4 .any (Rows.fnInReachCountSpec.pre6 enc Try.prog Try.f4 Rows.fnInReachCountRow.domain false) (Rows.fnInReachCountSpec.post enc Try.prog Try.f4 false true false false) := by
  refine returnsInHanded_of_change (C := Try.checked) own started (by kernel_rfl) Try.func4
    (ChangeSpec.witness6 (enc := enc) (C := Try.checked) false ⟨#[], #[.int .i64 0], []⟩ 8 (by kernel_rfl) (by kernel_rfl) (by kernel_rfl) (by kernel_rfl)) ?_
  intro W base args ds gs before hval0 hW hcnd _
  have hval : ∀ (j : Nat) t v, Try.f4.params[j]? = some t → args[j]? = some v → Value.okWide Try.prog W .any base t v := hval0
  have hW' := hW
  obtain ⟨p, q, hA0, hV, rfl, hfz, hnd⟩ := hW
  have hA : DataW.TrodAll enc Try.prog W 0 (fun _ => true) true Try.f4.params.toList args.toList ds p := hA0
  rw [Try.params4] at hA hval
  obtain ⟨v0, vs0, d0, ds0, p0, q0, hargs, rfl, rfl, h0, r0⟩ := trodAll_cons hA
  obtain ⟨rfl, rfl, rfl⟩ := trodAll_nil r0
  obtain rfl : args = #[v0] := by cases args; simp_all
  obtain ⟨rfl, rfl⟩ := trodVars_none hV
  obtain ⟨a0, rfl, rfl, rfl, w0⟩ := open_int Try.underlying2 (hval 0 2 v0 rfl rfl) h0
  clear hA0 hval0
  simp only [List.append_nil] at hW'
  refine (walk a0 w0 W).mono fun e W' ⟨he, hg⟩ => ?_
  subst he
  exact ⟨_, rfl, post_of_same (pa := []) (pv := []) hW' (fun _ _ _ => (trodAll_cons_mk (shut_bool Try.underlying4 _) trodAll_mk0)) (fun sp _ => (trodAll_cons_mk (shut_int Try.underlying2 w0) trodAll_mk0)) (fun _ _ => rfl) rfl
    (hg.frame _) hg.2.1 (ok_one (by kernel_rfl) rfl (okWide_bool_mk Try.underlying4 _))⟩

theorem over : Rows.fnInReachCountRow.holds Try.pinned (OpenSpec.ofChange Rows.fnInReachCountSpec) :=
  OpenClaim.holds_of_wide 4 Try.f4 rfl rfl rfl rfl rfl rfl rfl ⟨rfl, rfl, rfl, rfl, rfl⟩ rfl rfl rfl rfl rfl (by kernel_rfl) Try.func4 (by kernel_rfl)
    (of_decide_eq_true (by kernel_rfl)) (by unfold Func.isWrapper; first | (rw [if_pos (by decide +kernel)]; kernel_rfl) | (rw [if_neg (by decide +kernel)]; exact ⟨rfl, rfl⟩))
    (fun os started H enc _ => lifted os started H enc)

/-- ████ THE STATEMENT ████ -/
theorem proved : Rows.FnInReachCountSaid :=
  over
#print axioms proved
end Go.Proofs.Qxb6609346a.fnInReachCount
