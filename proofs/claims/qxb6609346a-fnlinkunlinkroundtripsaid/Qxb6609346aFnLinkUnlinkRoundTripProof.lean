/-
  A PROOF OF 'Rows.FnLinkUnlinkRoundTripSaid' ('example.com/steady-timers/steady-timers/zzlaws_internal_queue_b1.FnLinkUnlinkRoundTrip'), WRITTEN BY PROGRAM (proof-skeleton.mjs, third state) off the guide's own print for that function. Not trusted: Lean checks it.
-/
import Derived.Test.Qxb6609346aTrip
import Derived.WalkKit
import Derived.ProofKit
import Derived.OpenShut
import Derived.ShutString
import Derived.ChangeOld
import Derived.Below
namespace Go.Proofs.Qxb6609346a.fnLinkUnlinkRoundTrip
open Go.ChangeShapes Go.WideShapes Go.ChangeAt Go.RowKit
open Go.ChangeMaps (open_string shut_string)
set_option linter.unusedVariables false

theorem own : ownKnob Try.prog.godebug = none := by kernel_rfl
theorem laidOut : laidOutB Try.prog = true := by kernel_rfl

/-- WHAT THE WALK IS TOLD OF A SLICE OF INTEGERS THAT CAME IN: it is nil; or it leads to a row of 'cap' cells, the numbers 'zs' (the first 'len' are its elements, the rest its spare room), each fitting its kind. -/
def IsRow (k : IntKind) (w : World) (a : Option Addr) (len cap : Nat) (zs : List Int) : Prop :=
  (a = none ∧ len = 0 ∧ cap = 0 ∧ zs = []) ∨
  ∃ x, a = some x ∧ len ≤ cap ∧ cap ≤ maxLen ∧ zs.length = cap ∧ (∀ i, i < zs.length → w.cell? (x.add i) = some (.int k (zs.getD i 0))) ∧ ∀ n ∈ zs, (Lit.int k n).wf = true

theorem addr_of_cell {w : World} {a : Addr} {v : Value} (h : w.cell? a = some v) : a = ⟨a.block, a.off, none⟩ := by
  obtain ⟨b, o, s⟩ := a
  cases s with
  | none => rfl
  | some s => simp [World.cell?] at h; split at h <;> simp_all
theorem addr_add (b o k : Nat) : (⟨b, o, none⟩ : Addr).add k = ⟨b, o + k, none⟩ := by unfold Addr.add; split <;> simp_all
theorem view_of {w : World} {a : Option Addr} {len cap : Nat} {zs : List Int} (h : IsRow .i64 w a len cap zs) :
    len ≤ 9223372036854775807 ∧ ∃ z : Nat → Int, IntsView w a len z ∧ ∀ i, i < len → -9223372036854775808 ≤ z i ∧ z i ≤ 9223372036854775807 := by
  rcases h with ⟨rfl, rfl, rfl, rfl⟩ | ⟨x, rfl, hl, hm, hz, hc, hw⟩
  · exact ⟨by omega, fun _ => 0, fun h => absurd h (by omega), fun i hi => by omega⟩
  · unfold maxLen at hm
    refine ⟨by omega, fun i => zs.getD i 0, fun hp => ?_, fun i hi => ?_⟩
    · have h0 := hc 0 (by omega)
      have hx := addr_of_cell (a := x) (by simpa [Addr.add] using h0)
      refine ⟨x.block, x.off, by rw [← hx], World.block_lt_of_cell? w x (by simpa [Addr.add] using h0), fun i hi => ?_⟩
      have := hc i (by omega)
      rw [hx] at this
      rw [addr_add] at this
      exact this
    · have hmem : zs.getD i 0 ∈ zs := by
        rw [List.getD_eq_getElem?_getD, List.getElem?_eq_getElem (by omega), Option.getD_some]
        exact List.getElem_mem _
      have := bounds_i64 (hw _ hmem)
      exact this

/-! ### STEP 1: THE WALK: the Go text returns true, AND WRITES NOTHING THAT WAS THERE: 'Below w.heap.size w w'' (Derived/Below.lean: '.refl', '.alloc', '.drew', '.setCell' at a new block, '.trans'). Open each 'IsRow' by 'rcases' AHEAD of 'go_enter'; part every test ahead of the walk. -/
theorem walk (a0 : Int) (a1 : Option Addr) (len1 cap1 : Nat) (z1 : List Int) (a2 : Int) (a3 : Int) (w : World) (w0 : (Lit.int .i64 a0).wf = true) (w1 : IsRow .i64 w a1 len1 cap1 z1) (w2 : (Lit.int .i32 a2).wf = true) (w3 : (Lit.int .i64 a3).wf = true) :
    Calls Try.prog 5 #[.int .i64 a0, .slice a1 len1 cap1, .int .i32 a2, .int .i64 a3] w fun e w' => e = .returned (.bool true) ∧ Below w.heap.size w w' := by
  have b0 := bounds_i64 w0
  have b2 := bounds_i32 w2
  have b3 := bounds_i64 w3
  obtain ⟨hk, z, hv, hzb⟩ := view_of w1
  have e2 : ∀ {e : Ending} {w' : World}, e = .returned (.bool true) ∧ w' = w → e = Ending.returned (.bool true) ∧ Below w.heap.size w w' := fun ⟨h1, h2⟩ => ⟨h1, by rw [h2]; exact Below.refl _ _⟩
  by_cases he : 4096 < len1 ∨ a0 < 0 ∨ 8796093022207 < a0 ∨ a2 < len1 ∨ 65536 ≤ a2 ∨ BadIn a0 a3
  · exact (trip_early a0 a2 a3 a1 len1 cap1 hk (by omega) (by omega) (by omega) (by omega) (by omega) (by omega) w he).mono fun e w' h => e2 h
  · have g : len1 ≤ 4096 ∧ 0 ≤ a0 ∧ a0 ≤ 8796093022207 ∧ (len1 : Int) ≤ a2 ∧ a2 < 65536 ∧ a0 ≤ a3 ∧ a3 - a0 < 32768 := by unfold BadIn at he; omega
    obtain ⟨g1, g2, g3, g4, g5, g6, g7⟩ := g
    by_cases hbad : ∃ j, j < len1 ∧ BadIn a0 (z j)
    · obtain ⟨j, hj, hb⟩ := hbad
      exact (trip_bad a0 a2 a3 a1 len1 cap1 z w hv hzb g1 g2 g3 g4 g5 g6 g7 j hj hb).mono fun e w' h => e2 h
    · have hz : ∀ i, i < len1 → a0 ≤ z i ∧ z i < a0 + 32768 := fun i hi => by
        have : ¬ BadIn a0 (z i) := fun h => hbad ⟨i, hi, h⟩
        unfold BadIn at this
        omega
      have hv' : IntsView w a1 len1 (fun i => (((z i).toNat : Nat) : Int)) := fun hp => by
        obtain ⟨gb, o, hao, hlt, hc⟩ := hv hp
        exact ⟨gb, o, hao, hlt, fun i hi => by rw [hc i hi]; show _ = some (Value.int .i64 (((z i).toNat : Nat) : Int)); rw [show (((z i).toNat : Nat) : Int) = z i by have := hz i hi; omega]⟩
      have := trip_main a0.toNat len1 cap1 a2.toNat a3.toNat (fun i => (z i).toNat) a1 w (by omega) g1 (by omega) (by omega) (by omega) (by omega) (fun i hi => by have := hz i hi; omega) hv' (.int .i32 0) rfl _ zero33 row33
      rw [show ((a0.toNat : Nat) : Int) = a0 by omega, show ((a2.toNat : Nat) : Int) = a2 by omega, show ((a3.toNat : Nat) : Int) = a3 by omega] at this
      exact this

/-! ### THE ROW's STEP: WRITTEN OUT: LEAVE IT -/
set_option maxRecDepth 100000 in
theorem lifted (os : Os) (started : os.Started) (H : Type) (enc : TypeId × Value → H) :
    ReturnsInHanded {} Try.checked os 5 .any (Rows.fnLinkUnlinkRoundTripSpec.pre6 enc Try.prog Try.f5 Rows.fnLinkUnlinkRoundTripRow.domain false) (Rows.fnLinkUnlinkRoundTripSpec.post enc Try.prog Try.f5 false true false false) := by
  refine returnsInHanded_of_change (C := Try.checked) own started (by kernel_rfl) Try.func5
    (ChangeSpec.witness6 (enc := enc) (C := Try.checked) false ⟨#[], #[.int .i64 0, .slice none 0 0, .int .i32 0, .int .i64 0], []⟩ 8 (by kernel_rfl) (by kernel_rfl) (by kernel_rfl) (by kernel_rfl)) ?_
  intro W base args ds gs before hval0 hW hcnd _
  have hval : ∀ (j : Nat) t v, Try.f5.params[j]? = some t → args[j]? = some v → Value.okWide Try.prog W .any base t v := hval0
  have hW' := hW
  obtain ⟨p, q, hA0, hV, rfl, hfz, hnd⟩ := hW
  have hA : DataW.TrodAll enc Try.prog W 0 (fun _ => true) true Try.f5.params.toList args.toList ds p := hA0
  rw [Try.params5] at hA hval
  obtain ⟨v0, vs0, d0, ds0, p0, q0, hargs, rfl, rfl, h0, r0⟩ := trodAll_cons hA
  obtain ⟨v1, vs1, d1, ds1, p1, q1, rfl, rfl, rfl, h1, r1⟩ := trodAll_cons r0
  obtain ⟨v2, vs2, d2, ds2, p2, q2, rfl, rfl, rfl, h2, r2⟩ := trodAll_cons r1
  obtain ⟨v3, vs3, d3, ds3, p3, q3, rfl, rfl, rfl, h3, r3⟩ := trodAll_cons r2
  obtain ⟨rfl, rfl, rfl⟩ := trodAll_nil r3
  obtain rfl : args = #[v0, v1, v2, v3] := by cases args; simp_all
  obtain ⟨rfl, rfl⟩ := trodVars_none hV
  obtain ⟨a0, rfl, rfl, rfl, w0⟩ := open_int Try.underlying2 (hval 0 2 v0 rfl rfl) h0
  obtain ⟨a1, len1, cap1, rfl⟩ := okWide_slice Try.underlying27 (hval 1 27 v1 rfl rfl)
  have k1 := h1
  have lt1 : ∀ x ∈ p1, x.block < W.heap.size := by obtain ⟨m, hm⟩ := k1; exact DataW.trod_lt m _ _ _ hm
  obtain ⟨z1, w1⟩ : ∃ zs, IsRow .i64 W a1 len1 cap1 zs := by
    obtain ⟨fuel, hf⟩ := h1
    rcases open_ints Try.underlying27 Try.underlying2 (by kernel_rfl) hf with ⟨hcs, _⟩ | ⟨x, l, c, zs, hcs, _, hl, hm, hz, _, hcell, hwz⟩
    · simp [Value.cells] at hcs
      obtain ⟨rfl, rfl, rfl⟩ := hcs
      exact ⟨[], .inl ⟨rfl, rfl, rfl, rfl⟩⟩
    · simp [Value.cells] at hcs
      obtain ⟨rfl, rfl, rfl⟩ := hcs
      exact ⟨zs, .inr ⟨_, rfl, hl, hm, by simpa using hz, hcell, hwz⟩⟩
  obtain ⟨a2, rfl, rfl, rfl, w2⟩ := open_int Try.underlying21 (hval 2 21 v2 rfl rfl) h2
  obtain ⟨a3, rfl, rfl, rfl, w3⟩ := open_int Try.underlying2 (hval 3 2 v3 rfl rfl) h3
  clear hA0 hval0
  refine (walk a0 a1 len1 cap1 z1 a2 a3 W w0 w1 w2 w3).mono fun e W' ⟨he, bel⟩ => ?_
  subst he
  exact ⟨_, rfl, _, _, _, [], _, [], hW', trodAll_mk1 (shut_bool Try.underlying4 _), (trodAll_cons_mk (shut_int Try.underlying2 w0) (trodAll_cons_mk (Below.trod laidOut (by kernel_rfl) (of_decide_eq_true (by kernel_rfl)) k1 bel lt1) (trodAll_cons_mk (shut_int Try.underlying21 w2) (trodAll_cons_mk (shut_int Try.underlying2 w3) trodAll_mk0)))), rfl, bel.frame _, fun h => by cases h⟩

theorem over : Rows.fnLinkUnlinkRoundTripRow.holds Try.pinned (OpenSpec.ofChange Rows.fnLinkUnlinkRoundTripSpec) :=
  OpenClaim.holds_of_wide 5 Try.f5 rfl rfl rfl rfl rfl rfl rfl ⟨rfl, rfl, rfl, rfl, rfl⟩ rfl rfl rfl rfl rfl (by kernel_rfl) Try.func5 (by kernel_rfl)
    (of_decide_eq_true (by kernel_rfl)) (by unfold Func.isWrapper; first | (rw [if_pos (by decide +kernel)]; kernel_rfl) | (rw [if_neg (by decide +kernel)]; exact ⟨rfl, rfl⟩))
    (fun os started H enc _ => lifted os started H enc)

/-- ████ THE STATEMENT ████ -/
theorem proved : Rows.FnLinkUnlinkRoundTripSaid := over
#print axioms proved
end Go.Proofs.Qxb6609346a.fnLinkUnlinkRoundTrip
