/-
  FnLinkScript: the row, and its tied card.
-/
import Derived.Test.Qxb6609346aDoorWalk
import Derived.Test.Qxb6609346aDoorTie
import Derived.Test.Qxb6609346aDoorCards
import Derived.WalkKit
import Derived.ProofKit
import Derived.OpenShut
import Derived.ShutString
import Derived.ChangeOld
import Derived.Below
import Derived.LaidLaws
import Derived.LaidHandle
import Derived.MakeChecks
import Derived.Lib.LaidTab
import Derived.SevenTiedAt
import Derived.JoinedOf
import Derived.ChangeSame
import Derived.ChangeVars
import Derived.Stop.Joined
namespace Go.Proofs.Qxb6609346aDoor.fnLinkScript
open Go.ChangeShapes Go.WideShapes Go.ChangeAt Go.RowKit
set_option linter.unusedVariables false

theorem own : ownKnob Tryd.prog.godebug = none := by kernel_rfl
theorem laidOut : laidOutB Tryd.prog = true := by kernel_rfl

/-- a slice of integers that came in: nil, or a row of 'cap' cells -/
def IsRow (k : IntKind) (w : World) (a : Option Addr) (len cap : Nat) (zs : List Int) : Prop :=
  (a = none ∧ len = 0 ∧ cap = 0 ∧ zs = []) ∨
  ∃ x, a = some x ∧ len ≤ cap ∧ cap ≤ maxLen ∧ zs.length = cap ∧ (∀ i, i < zs.length → w.cell? (x.add i) = some (.int k (zs.getD i 0))) ∧ ∀ n ∈ zs, (Lit.int k n).wf = true

theorem addr_of_cell {w : World} {a : Addr} {v : Value} (h : w.cell? a = some v) : a = ⟨a.block, a.off, none⟩ := by
  obtain ⟨b, o, s⟩ := a
  cases s with
  | none => rfl
  | some s => simp [World.cell?] at h; split at h <;> simp_all
theorem addr_add (b o k : Nat) : (⟨b, o, none⟩ : Addr).add k = ⟨b, o + k, none⟩ := by unfold Addr.add; split <;> simp_all
theorem view_of {kd : IntKind} {w : World} {a : Option Addr} {len cap : Nat} {zs : List Int} (h : IsRow kd w a len cap zs) :
    len ≤ 9223372036854775807 ∧ ∃ z : Nat → Int, (∀ k, k ≤ len → IntsView kd w a k z) ∧ ∀ i, i < len → (Lit.int kd (z i)).wf = true := by
  rcases h with ⟨rfl, rfl, rfl, rfl⟩ | ⟨x, rfl, hl, hm, hz, hc, hw⟩
  · exact ⟨by omega, fun _ => 0, fun k hk h => absurd h (by omega), fun i hi => by omega⟩
  · unfold maxLen at hm
    refine ⟨by omega, fun i => zs.getD i 0, fun k hk hp => ?_, fun i hi => ?_⟩
    · have h0 := hc 0 (by omega)
      have hx := addr_of_cell (a := x) (by simpa [Addr.add] using h0)
      refine ⟨x.block, x.off, by rw [← hx], World.block_lt_of_cell? w x (by simpa [Addr.add] using h0), fun i hi => ?_⟩
      have := hc i (by omega)
      rw [hx] at this
      rw [addr_add] at this
      exact this
    · have hmem : zs.getD i 0 ∈ zs := by
        rw [List.getD_eq_getElem?_getD, List.getElem?_eq_getElem (by omega), Option.getD_some]
        exact List.getElem_mem _
      exact hw _ hmem

theorem walk (a0 : Int) (a1 : Option Addr) (len1 cap1 : Nat) (z1 : List Int) (a2 : Option Addr) (len2 cap2 : Nat) (z2 : List Int) (w : World) (w0 : (Lit.int .i64 a0).wf = true) (w1 : IsRow .i32 w a1 len1 cap1 z1) (w2 : IsRow .i64 w a2 len2 cap2 z2) (h0 : 0 < w.heap.size) (hT : TabAt w) :
    Calls Tryd.prog 3 #[.int .i64 a0, .slice a1 len1 cap1, .slice a2 len2 cap2] w fun e w' => e = .returned (.bool true) ∧ Below w.heap.size w w' := by
  have b0 := bounds_i64 w0
  obtain ⟨hk1, a, hva, hwa⟩ := view_of w1
  obtain ⟨hk2, z, hvz, hwz⟩ := view_of w2
  by_cases he : 4096 < len1 ∨ 4096 < len2 ∨ a0 < 0 ∨ 8796093022207 < a0
  · exact (script_early a0 a1 a2 len1 cap1 len2 cap2 hk1 hk2 w he).mono fun e w' ⟨h1, h2⟩ => ⟨h1, by rw [h2]; exact Below.refl _ _⟩
  · obtain ⟨k, hk⟩ : ∃ k, k = min len1 len2 := ⟨_, rfl⟩
    have hzb : ∀ i, i < k → -9223372036854775808 ≤ z i ∧ z i ≤ 9223372036854775807 := fun i hi => bounds_i64 (hwz i (by omega))
    by_cases hbad : ∃ J, J < k ∧ BadAt a0 a z J
    · obtain ⟨J, hJ, hb⟩ := hbad
      refine (script_bad a0 a1 a2 len1 cap1 len2 cap2 k a z w hk (hva k (by omega)) (hvz k (by omega)) hzb (by omega) (by omega) (by omega) (by omega) J hJ hb).mono ?_
      rintro e w' ⟨h1, n, rfl⟩
      exact ⟨h1, below_drewN _ _ _⟩
    · have hg : ∀ i, i < k → 0 ≤ a i ∧ a i < 65536 ∧ a0 ≤ z i ∧ z i < a0 + 32768 := fun i hi => by
        have hn : ¬ BadAt a0 a z i := fun h => hbad ⟨i, hi, h⟩
        refine ⟨?_, ?_, ?_, ?_⟩
        · exact Int.not_lt.1 fun h => hn (Or.inl h)
        · exact Int.not_le.1 fun h => hn (Or.inr (Or.inl h))
        · exact Int.not_lt.1 fun h => hn (Or.inr (Or.inr (Or.inl (Or.inl h))))
        · have : ¬ (32768 ≤ z i - a0) := fun h => hn (Or.inr (Or.inr (Or.inl (Or.inr h))))
          omega
      have hinj : ∀ i j, i < k → j < k → i < j → a i ≠ a j := fun i j hi hj hij e => hbad ⟨j, hj, Or.inr (Or.inr (Or.inr ⟨i, hij, e⟩))⟩
      have hva' : IntsView .i32 w a1 k (fun i => (((a i).toNat : Nat) : Int)) := fun hp => by
        obtain ⟨gb, o, hao, hlt, hc⟩ := hva k (by omega) hp
        exact ⟨gb, o, hao, hlt, fun i hi => by rw [hc i hi]; show _ = some (Value.int .i32 (((a i).toNat : Nat) : Int)); rw [show (((a i).toNat : Nat) : Int) = a i by have := hg i hi; omega]⟩
      have hvz' : IntsView .i64 w a2 k (fun i => (((z i).toNat : Nat) : Int)) := fun hp => by
        obtain ⟨gb, o, hao, hlt, hc⟩ := hvz k (by omega) hp
        exact ⟨gb, o, hao, hlt, fun i hi => by rw [hc i hi]; show _ = some (Value.int .i64 (((z i).toNat : Nat) : Int)); rw [show (((z i).toNat : Nat) : Int) = z i by have := hg i hi; omega]⟩
      have hgood : Good (fun i => (a i).toNat) (fun i => (z i).toNat) k a0.toNat 65536 := ⟨fun i hi => by have := hg i hi; show (a i).toNat < 65536; omega, fun i j hi hj e => by
        have e' : (a i).toNat = (a j).toNat := e
        have g1 := hg i hi
        have g2 := hg j hj
        rcases Nat.lt_trichotomy i j with h | h | h
        · exact absurd (by omega) (hinj i j hi hj h)
        · exact h
        · exact absurd (by omega) (hinj j i hj hi h), fun i hi => by have := hg i hi; show a0.toNat ≤ (z i).toNat ∧ (z i).toNat < a0.toNat + 32768; omega⟩
      have := script_main a0.toNat len1 cap1 len2 cap2 k (fun i => (a i).toNat) (fun i => (z i).toNat) a1 a2 w hk (by omega) (by omega) (by omega) hgood hva' hvz' h0 hT (.bool false) rfl (.int .i32 0) rfl _ zero34 row34
      rw [show ((a0.toNat : Nat) : Int) = a0 by omega] at this
      exact this

/-! ### the table that the row lists -/
theorem gT : Tryd.prog.globalNamed "math/bits.deBruijn64tab" = some 0 := by kernel_rfl
theorem gTType : (Tryd.prog.globals[0]?).map (·.type) = some 65 := by kernel_rfl
theorem cells5 : Tryd.prog.cellsOf 5 = 1 := by kernel_rfl
theorem cells65 : Tryd.prog.cellsOf 65 = 64 := by kernel_rfl
def tabZ : List Int := Lib.deBruijn64tab.map fun n : Nat => (n : Int)
theorem listed : Rows.fnLinkScriptRow.laid = [("math/bits.deBruijn64tab", Lib.tabData .u8 tabZ)] := by kernel_rfl
theorem tab_of_laid {W : World} (h : laidMetH Tryd.prog Rows.fnLinkScriptRow.laid W) : 0 < W.heap.size ∧ TabAt W := by
  rw [MakeChecks.laidMetH_plain _ _ _ (by kernel_rfl), listed] at h
  have hT := Lib.tabIs_of_head gT gTType Tryd.underlying65 Tryd.underlying5 cells5 cells65 h
  have hc : TabAt W := fun j hj => by
    rw [hT.cell gT j (by rw [show tabZ.length = 64 from rfl]; exact hj)]
    have he : tabZ.getD j 0 = ((Lib.deBruijn64tab.getD j 0 : Nat) : Int) := by
      have hl : j < Lib.deBruijn64tab.length := by rw [show Lib.deBruijn64tab.length = 64 from rfl]; exact hj
      simp [tabZ, List.getD, hl]
    rw [he]
  exact ⟨World.block_lt_of_cell? W _ (hc 0 (by omega)), hc⟩

/-- the settled world, the table holding what its initialiser lays: the witness -/
noncomputable def laidWorld (os : Os) : World :=
  let w0 := World.holding Tryd.prog os ⟨#[], #[], []⟩
  { w0 with heap := w0.heap.modify 0 fun
      | .cells _ t frozen => .cells (tabZ.map fun z => Value.int .u8 z).toArray t frozen
      | o => o }
theorem laidWorld_met (os : Os) (args : Array Value) : laidMetH Tryd.prog Rows.fnLinkScriptRow.laid ((laidWorld os).forCall (fun _ _ => 0) ⟨#[], args, []⟩).memory := by
  rw [MakeChecks.laidMetH_plain _ _ _ (by kernel_rfl)]
  exact laidMet_of_run' 8 (by kernel_rfl) (by kernel_rfl)

set_option maxRecDepth 100000 in
theorem lifted (os : Os) (started : os.Started) (H : Type) (enc : TypeId × Value → H) :
    ReturnsInHanded {} Tryd.checked os 3 .any (fun w args => (Rows.fnLinkScriptSpec.pre enc Tryd.prog Tryd.f3 [] false w args ∧ laidMetH Tryd.prog Rows.fnLinkScriptRow.laid w) ∧ sizedMet enc Tryd.prog Tryd.f3 (OpenSpec.ofChange Rows.fnLinkScriptSpec) false w args)
      (Rows.fnLinkScriptSpec.post enc Tryd.prog Tryd.f3 false true false false) := by
  refine returnsInHanded_of_change_and (C := Tryd.checked) (X := fun w _ => laidMetH Tryd.prog Rows.fnLinkScriptRow.laid w) (fun _ _ _ hh h => h.of_heap hh) own started (by kernel_rfl) Tryd.func3
    (ChangeSpec.witness_at (enc := enc) (C := Tryd.checked) (os := os) (X := fun w _ => laidMetH Tryd.prog Rows.fnLinkScriptRow.laid w) false (laidWorld os) #[.int .i64 0, .slice none 0 0, .slice none 0 0] 8 rfl (by kernel_rfl) (by kernel_rfl) (by kernel_rfl) (by kernel_rfl) (by kernel_rfl) (laidWorld_met os _)) ?_
  intro W base args ds gs before hval0 hW _ _ hL _
  have hval : ∀ (j : Nat) t v, Tryd.f3.params[j]? = some t → args[j]? = some v → Value.okWide Tryd.prog W .any base t v := hval0
  have hW' := hW
  obtain ⟨p, q, hA0, hV, rfl, hfz, hnd⟩ := hW
  have hA : DataW.TrodAll enc Tryd.prog W 0 (fun _ => true) true Tryd.f3.params.toList args.toList ds p := hA0
  rw [Tryd.params3] at hA hval
  obtain ⟨v0, vs0, d0, ds0, p0, q0, hargs, rfl, rfl, h0, r0⟩ := trodAll_cons hA
  obtain ⟨v1, vs1, d1, ds1, p1, q1, rfl, rfl, rfl, h1, r1⟩ := trodAll_cons r0
  obtain ⟨v2, vs2, d2, ds2, p2, q2, rfl, rfl, rfl, h2, r2⟩ := trodAll_cons r1
  obtain ⟨rfl, rfl, rfl⟩ := trodAll_nil r2
  obtain rfl : args = #[v0, v1, v2] := by cases args; simp_all
  obtain ⟨rfl, rfl⟩ := trodVars_none hV
  obtain ⟨a0, rfl, rfl, rfl, w0⟩ := open_int Tryd.underlying2 (hval 0 2 v0 rfl rfl) h0
  obtain ⟨a1, len1, cap1, rfl⟩ := okWide_slice Tryd.underlying22 (hval 1 22 v1 rfl rfl)
  have k1 := h1
  have lt1 : ∀ x ∈ p1, x.block < W.heap.size := by obtain ⟨m, hm⟩ := k1; exact DataW.trod_lt m _ _ _ hm
  obtain ⟨z1, w1⟩ : ∃ zs, IsRow .i32 W a1 len1 cap1 zs := by
    obtain ⟨fuel, hf⟩ := h1
    rcases open_ints Tryd.underlying22 Tryd.underlying21 (by kernel_rfl) hf with ⟨hcs, _⟩ | ⟨x, l, c, zs, hcs, _, hl, hm, hz, _, hcell, hwz⟩
    · simp [Value.cells] at hcs
      obtain ⟨rfl, rfl, rfl⟩ := hcs
      exact ⟨[], .inl ⟨rfl, rfl, rfl, rfl⟩⟩
    · simp [Value.cells] at hcs
      obtain ⟨rfl, rfl, rfl⟩ := hcs
      exact ⟨zs, .inr ⟨_, rfl, hl, hm, by simpa using hz, hcell, hwz⟩⟩
  obtain ⟨a2, len2, cap2, rfl⟩ := okWide_slice Tryd.underlying23 (hval 2 23 v2 rfl rfl)
  have k2 := h2
  have lt2 : ∀ x ∈ p2, x.block < W.heap.size := by obtain ⟨m, hm⟩ := k2; exact DataW.trod_lt m _ _ _ hm
  obtain ⟨z2, w2⟩ : ∃ zs, IsRow .i64 W a2 len2 cap2 zs := by
    obtain ⟨fuel, hf⟩ := h2
    rcases open_ints Tryd.underlying23 Tryd.underlying2 (by kernel_rfl) hf with ⟨hcs, _⟩ | ⟨x, l, c, zs, hcs, _, hl, hm, hz, _, hcell, hwz⟩
    · simp [Value.cells] at hcs
      obtain ⟨rfl, rfl, rfl⟩ := hcs
      exact ⟨[], .inl ⟨rfl, rfl, rfl, rfl⟩⟩
    · simp [Value.cells] at hcs
      obtain ⟨rfl, rfl, rfl⟩ := hcs
      exact ⟨zs, .inr ⟨_, rfl, hl, hm, by simpa using hz, hcell, hwz⟩⟩
  clear hA0 hval0
  obtain ⟨hsz, hT⟩ := tab_of_laid hL
  refine (walk a0 a1 len1 cap1 z1 a2 len2 cap2 z2 W w0 w1 w2 hsz hT).mono fun e W' ⟨he, bel⟩ => ?_
  subst he
  exact ⟨_, rfl, _, _, _, [], _, [], hW', trodAll_mk1 (shut_bool Tryd.underlying4 _), (trodAll_cons_mk (shut_int Tryd.underlying2 w0) (trodAll_cons_mk (Below.trod laidOut (by kernel_rfl) (of_decide_eq_true (by kernel_rfl)) k1 bel lt1) (trodAll_cons_mk (Below.trod laidOut (by kernel_rfl) (of_decide_eq_true (by kernel_rfl)) k2 bel lt2) trodAll_mk0))), rfl, bel.frame _, fun h => by cases h⟩

theorem over : Rows.FnLinkScriptSaid :=
  OpenClaim.holds_of_wide 3 Tryd.f3 rfl rfl rfl rfl rfl rfl rfl ⟨rfl, rfl, rfl, rfl, rfl⟩ rfl rfl rfl rfl rfl (by kernel_rfl) Tryd.func3 (by kernel_rfl)
    (of_decide_eq_true (by kernel_rfl)) (by unfold Func.isWrapper; first | (rw [if_pos (by decide +kernel)]; kernel_rfl) | (rw [if_neg (by decide +kernel)]; exact ⟨rfl, rfl⟩))
    (fun os started H enc _ => lifted os started H enc)

/-- ████ THE STATEMENT ████ -/
theorem proved : Rows.FnLinkScriptCardSaid :=
  Claim7.holds_tied_plain_at .later [] [.data] true (true, "1f86cc899cf196437db53721b55894de40eddfa5b764b40af711686f74567cf4") false
    over (fun _ h => by cases h) (by kernel_rfl) (fun _ h => by cases h) fnLinkScript_row_tie rfl ⟨rfl, rfl⟩ (by kernel_rfl) rfl
    (fun f fn hf hfn => by
      obtain rfl : f = 3 := Option.some.inj ((show Tryd.prog.funcNamed "example.com/steady-timers/steady-timers/zzlaws_internal_queue_b1.FnLinkScript" = some 3 by kernel_rfl).symm.trans hf) |>.symm
      obtain rfl : fn = Tryd.f3 := (Option.some.inj (Tryd.func3.symm.trans hfn)).symm
      exact ⟨by kernel_rfl, fun j t ht => by
        rw [Tryd.params3] at ht
        have h3 : t = 2 ∨ t = 22 ∨ t = 23 := by
          rcases j with _ | _ | _ | j
          · exact Or.inl (by simpa using ht.symm)
          · exact Or.inr (Or.inl (by simpa using ht.symm))
          · exact Or.inr (Or.inr (by simpa using ht.symm))
          · simp at ht
        rcases h3 with rfl | rfl | rfl
        · exact (show Tryd.prog.wantsStandIn 2 = false by kernel_rfl)
        · exact (show Tryd.prog.wantsStandIn 22 = false by kernel_rfl)
        · exact (show Tryd.prog.wantsStandIn 23 = false by kernel_rfl)⟩)
    (by kernel_rfl)
#print axioms proved
end Go.Proofs.Qxb6609346aDoor.fnLinkScript
