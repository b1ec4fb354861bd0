/-
  A PROOF OF 'Rows.FnPaysFeesSplitsOverFeeListsSaid': the row out of the walk 'main_any'. The frame after the guide's template for slices that came in.
-/
import Derived.Test.Qxb6612167aMain
import Derived.OpenShut
import Derived.ShutString
import Derived.Deep.Slices
import Derived.Deep.Strs
namespace Go.Proofs.Qxb6612167a.fnPaysFeesSplitsOverFeeLists
open Go.ChangeShapes Go.WideShapes Go.ChangeAt Go.RowKit Go.Deep
open Go.ChangeMaps (open_string shut_string)
set_option linter.unusedVariables false

theorem own : ownKnob Try.prog.godebug = none := by kernel_rfl
theorem laidOut : laidOutB Try.prog = true := by kernel_rfl
theorem cells44 : Try.prog.cellsOf 44 = 6 := by kernel_rfl
theorem cells9 : Try.prog.cellsOf 9 = 1 := by kernel_rfl
theorem cells4 : Try.prog.cellsOf 4 = 1 := by kernel_rfl
theorem cells3 : Try.prog.cellsOf 3 = 1 := by kernel_rfl

theorem addr_of_cell {w : World} {a : Addr} {v : Value} (h : w.cell? a = some v) : a = ⟨a.block, a.off, none⟩ := by
  obtain ⟨b, o, s⟩ := a
  cases s with
  | none => rfl
  | some s => simp [World.cell?] at h; split at h <;> simp_all
theorem addr_add (b o k : Nat) : (⟨b, o, none⟩ : Addr).add k = ⟨b, o + k, none⟩ := by unfold Addr.add; split <;> simp_all
theorem lt_of_cell {w : World} {a : Addr} {v : Value} (h : w.cell? a = some v) : a.block < w.heap.size := World.block_lt_of_cell? w a h

set_option maxRecDepth 100000 in
/-- one fee: six cells -/
theorem open_fee {H : Type} {enc : TypeId × Value → H} {w : World} {base : Nat} {spare : Nat → Bool} {held : Bool} {fuel : Nat} {cs : List Value} {x : DataW H × List MemPlace}
    (h : DataW.trod enc Try.prog w base spare held fuel 44 cs = some x) :
    ∃ (N C : ByteArray) (P Q : Bool) (F T : Int), cs = [.string N, .string C, .bool P, .bool Q, .int .i64 F, .int .i64 T] := by
  obtain ⟨xs, n, _, _, hlen, hxl, hf⟩ := DataW.trod_struct Try.underlying44 h
  rw [cells44] at hlen
  match cs, hlen with
  | [v0, v1, v2, v3, v4, v5], _ =>
    have gx : ∀ i, i < 6 → ∃ y, xs[i]? = some y := fun i hi => ⟨xs[i]'(by rw [hxl]; exact hi), List.getElem?_eq_getElem _⟩
    obtain ⟨y0, e0⟩ := gx 0 (by omega)
    obtain ⟨y1, e1⟩ := gx 1 (by omega)
    obtain ⟨y2, e2⟩ := gx 2 (by omega)
    obtain ⟨y3, e3⟩ := gx 3 (by omega)
    obtain ⟨y4, e4⟩ := gx 4 (by omega)
    obtain ⟨y5, e5⟩ := gx 5 (by omega)
    have g0 : DataW.trod enc Try.prog w base spare held n 9 (([v0, v1, v2, v3, v4, v5].drop 0).take (Try.prog.cellsOf 9)) = xs[0]? := hf 0 _ rfl
    have g1 : DataW.trod enc Try.prog w base spare held n 9 (([v0, v1, v2, v3, v4, v5].drop 1).take (Try.prog.cellsOf 9)) = xs[1]? := hf 1 _ rfl
    have g2 : DataW.trod enc Try.prog w base spare held n 4 (([v0, v1, v2, v3, v4, v5].drop 2).take (Try.prog.cellsOf 4)) = xs[2]? := hf 2 _ rfl
    have g3 : DataW.trod enc Try.prog w base spare held n 4 (([v0, v1, v2, v3, v4, v5].drop 3).take (Try.prog.cellsOf 4)) = xs[3]? := hf 3 _ rfl
    have g4 : DataW.trod enc Try.prog w base spare held n 3 (([v0, v1, v2, v3, v4, v5].drop 4).take (Try.prog.cellsOf 3)) = xs[4]? := hf 4 _ rfl
    have g5 : DataW.trod enc Try.prog w base spare held n 3 (([v0, v1, v2, v3, v4, v5].drop 5).take (Try.prog.cellsOf 3)) = xs[5]? := hf 5 _ rfl
    rw [e0] at g0
    rw [e1] at g1
    rw [e2] at g2
    rw [e3] at g3
    rw [e4] at g4
    rw [e5] at g5
    rw [cells9] at g0 g1
    rw [cells4] at g2 g3
    rw [cells3] at g4 g5
    obtain ⟨N, h0, _⟩ := DataW.trod_string Try.underlying9 g0
    obtain ⟨C, h1, _⟩ := DataW.trod_string Try.underlying9 g1
    obtain ⟨P, h2, _⟩ := DataW.trod_bool Try.underlying4 g2
    obtain ⟨Q, h3, _⟩ := DataW.trod_bool Try.underlying4 g3
    obtain ⟨F, h4, _⟩ := DataW.trod_int Try.underlying3 g4
    obtain ⟨T, h5, _⟩ := DataW.trod_int Try.underlying3 g5
    simp at h0 h1 h2 h3 h4 h5
    subst h0 h1 h2 h3 h4 h5
    exact ⟨N, C, P, Q, F, T, rfl⟩

theorem open_fees {H : Type} {enc : TypeId × Value → H} {w : World} {base : Nat} {held : Bool} {fuel : Nat} {a : Option Addr} {len cap : Nat} {x : DataW H × List MemPlace}
    (h : DataW.trod enc Try.prog w base (fun _ => true) held fuel 28 [.slice a len cap] = some x) :
    len ≤ cap ∧ cap ≤ maxLen ∧ ∃ N C P Q F T, FeesView w a len N C P Q F T := by
  rcases open_slice Try.underlying28 h with ⟨hcs, _⟩ | ⟨ad, l, c, m, n, D, Pl, hcs, _, hl, hm, hmm, _, hx⟩
  · simp at hcs
    obtain ⟨rfl, rfl, rfl⟩ := hcs
    exact ⟨Nat.le_refl _, Nat.zero_le _, fun _ => default, fun _ => default, fun _ => false, fun _ => false, fun _ => 0, fun _ => 0, fun h => absurd h (by omega)⟩
  · simp at hcs
    obtain ⟨rfl, rfl, rfl⟩ := hcs
    simp at hmm
    subst hmm
    have each : ∀ i, i < len → ∃ y : ByteArray × ByteArray × Bool × Bool × Int × Int, ad = ⟨ad.block, ad.off, none⟩ ∧ ad.block < w.heap.size ∧ w.cell? ⟨ad.block, ad.off + i * 6, none⟩ = some (.string y.1) ∧ w.cell? ⟨ad.block, ad.off + i * 6 + 1, none⟩ = some (.string y.2.1) ∧
        w.cell? ⟨ad.block, ad.off + i * 6 + 2, none⟩ = some (.bool y.2.2.1) ∧ w.cell? ⟨ad.block, ad.off + i * 6 + 3, none⟩ = some (.bool y.2.2.2.1) ∧ w.cell? ⟨ad.block, ad.off + i * 6 + 4, none⟩ = some (.int .i64 y.2.2.2.2.1) ∧
        w.cell? ⟨ad.block, ad.off + i * 6 + 5, none⟩ = some (.int .i64 y.2.2.2.2.2) := by
      intro i hi
      obtain ⟨cs0, z1, z2⟩ := hx 0 (by omega)
      obtain ⟨_, _, zc⟩ := World.cells?_some z1
      obtain ⟨N0, C0, P0, Q0, F0, T0, rfl⟩ := open_fee z2
      have z := zc 0 (by rw [cells44]; omega)
      simp [Addr.add] at z
      have had := addr_of_cell z
      obtain ⟨cs', h1, h2⟩ := hx i (by omega)
      rw [cells44] at h1
      obtain ⟨_, _, hc⟩ := World.cells?_some h1
      obtain ⟨N, C, P, Q, F, T, rfl⟩ := open_fee h2
      refine ⟨(N, C, P, Q, F, T), had, lt_of_cell z, ?_⟩
      rw [had] at hc
      simp only [addr_add] at hc
      have c0 := hc 0 (by omega)
      have c1 := hc 1 (by omega)
      have c2 := hc 2 (by omega)
      have c3 := hc 3 (by omega)
      have c4 := hc 4 (by omega)
      have c5 := hc 5 (by omega)
      exact ⟨c0, c1, c2, c3, c4, c5⟩
    obtain ⟨f, hf⟩ := choose_lt each
    exact ⟨hl, hm, fun i => (f i).1, fun i => (f i).2.1, fun i => (f i).2.2.1, fun i => (f i).2.2.2.1, fun i => (f i).2.2.2.2.1, fun i => (f i).2.2.2.2.2, fun h =>
      ⟨ad.block, ad.off, by rw [← (hf 0 h).1], (hf 0 h).2.1, fun i hi => (hf i hi).2.2⟩⟩

theorem open_names {H : Type} {enc : TypeId × Value → H} {w : World} {base : Nat} {held : Bool} {fuel : Nat} {a : Option Addr} {len cap : Nat} {x : DataW H × List MemPlace}
    (h : DataW.trod enc Try.prog w base (fun _ => true) held fuel 27 [.slice a len cap] = some x) :
    len ≤ maxLen ∧ ∃ S, StrsView w a len S := by
  rcases open_strs Try.underlying27 Try.underlying9 cells9 h with ⟨hcs, _⟩ | ⟨ad, l, c, m, Sx, hcs, _, hl, hm, hmm, _, hx⟩
  · simp at hcs
    obtain ⟨rfl, rfl, rfl⟩ := hcs
    exact ⟨Nat.zero_le _, fun _ => default, fun h => absurd h (by omega)⟩
  · simp at hcs
    obtain ⟨rfl, rfl, rfl⟩ := hcs
    simp at hmm
    subst hmm
    refine ⟨by omega, Sx, fun h => ?_⟩
    have z := (hx 0 (by omega)).1
    simp [Addr.add] at z
    have had := addr_of_cell z
    refine ⟨ad.block, ad.off, by rw [← had], lt_of_cell z, fun i hi => ?_⟩
    have := (hx i (by omega)).1
    rw [had, addr_add] at this
    exact this

set_option maxRecDepth 100000 in
theorem lifted (os : Os) (started : os.Started) (H : Type) (enc : TypeId × Value → H) :
    ReturnsInHanded {} Try.checked os 4 .any (Rows.fnPaysFeesSplitsOverFeeListsSpec.pre6 enc Try.prog Try.f4 Rows.fnPaysFeesSplitsOverFeeListsRow.domain false) (Rows.fnPaysFeesSplitsOverFeeListsSpec.post enc Try.prog Try.f4 false true false false) := by
  refine returnsInHanded_of_change (C := Try.checked) own started (by kernel_rfl) Try.func4
    (ChangeSpec.witness6 (enc := enc) (C := Try.checked) false ⟨#[], #[.string ⟨#[]⟩, .int .i64 0, .string ⟨#[]⟩, .slice none 0 0, .slice none 0 0, .int .i64 0], []⟩ 8 (by kernel_rfl) (by kernel_rfl) (by kernel_rfl) (by kernel_rfl)) ?_
  intro W base args ds gs before hval0 hW hcnd _
  have hval : ∀ (j : Nat) t v, Try.f4.params[j]? = some t → args[j]? = some v → Value.okWide Try.prog W .any base t v := hval0
  have hW' := hW
  obtain ⟨p, q, hA0, hV, rfl, hfz, hnd⟩ := hW
  have hA : DataW.TrodAll enc Try.prog W 0 (fun _ => true) true Try.f4.params.toList args.toList ds p := hA0
  rw [Try.params4] at hA hval
  obtain ⟨v0, vs0, d0, ds0, p0, q0, hargs, rfl, rfl, h0, r0⟩ := trodAll_cons hA
  obtain ⟨v1, vs1, d1, ds1, p1, q1, rfl, rfl, rfl, h1, r1⟩ := trodAll_cons r0
  obtain ⟨v2, vs2, d2, ds2, p2, q2, rfl, rfl, rfl, h2, r2⟩ := trodAll_cons r1
  obtain ⟨v3, vs3, d3, ds3, p3, q3, rfl, rfl, rfl, h3, r3⟩ := trodAll_cons r2
  obtain ⟨v4, vs4, d4, ds4, p4, q4, rfl, rfl, rfl, h4, r4⟩ := trodAll_cons r3
  obtain ⟨v5, vs5, d5, ds5, p5, q5, rfl, rfl, rfl, h5, r5⟩ := trodAll_cons r4
  obtain ⟨rfl, rfl, rfl⟩ := trodAll_nil r5
  obtain rfl : args = #[v0, v1, v2, v3, v4, v5] := by cases args; simp_all
  obtain ⟨rfl, rfl⟩ := trodVars_none hV
  obtain ⟨s0, rfl, rfl, rfl, w0⟩ := open_string Try.underlying9 (hval 0 9 v0 rfl rfl) h0
  obtain ⟨a1, rfl, rfl, rfl, w1⟩ := open_int Try.underlying3 (hval 1 3 v1 rfl rfl) h1
  obtain ⟨s2, rfl, rfl, rfl, w2⟩ := open_string Try.underlying9 (hval 2 9 v2 rfl rfl) h2
  obtain ⟨a3, len3, cap3, rfl⟩ := okWide_slice Try.underlying27 (hval 3 27 v3 rfl rfl)
  obtain ⟨a4, len4, cap4, rfl⟩ := okWide_slice Try.underlying28 (hval 4 28 v4 rfl rfl)
  obtain ⟨a5, rfl, rfl, rfl, w5⟩ := open_int Try.underlying3 (hval 5 3 v5 rfl rfl) h5
  have k3 := h3
  have k4 := h4
  have lt3 : ∀ x ∈ p3, x.block < W.heap.size := by obtain ⟨m, hm⟩ := k3; exact DataW.trod_lt m _ _ _ hm
  have lt4 : ∀ x ∈ p4, x.block < W.heap.size := by obtain ⟨m, hm⟩ := k4; exact DataW.trod_lt m _ _ _ hm
  obtain ⟨hl3, S, hS⟩ : len3 ≤ maxLen ∧ ∃ S, StrsView W a3 len3 S := by
    obtain ⟨fuel, hf⟩ := h3
    exact open_names hf
  obtain ⟨hl4, hc4, N, C, P, Q, F, T, hF⟩ : len4 ≤ cap4 ∧ cap4 ≤ maxLen ∧ ∃ N C P Q F T, FeesView W a4 len4 N C P Q F T := by
    obtain ⟨fuel, hf⟩ := h4
    exact open_fees hf
  clear hA0 hval0
  refine (main_any s0 s2 a1 a5 a3 len3 cap3 S a4 len4 cap4 N C P Q F T W hS hF hl3 hl4 hc4).mono fun e W' ⟨he, bel⟩ => ?_
  subst he
  exact ⟨_, rfl, _, _, _, [], _, [], hW', trodAll_mk1 (shut_bool Try.underlying4 _), (trodAll_cons_mk (shut_string Try.underlying9 w0) (trodAll_cons_mk (shut_int Try.underlying3 w1) (trodAll_cons_mk (shut_string Try.underlying9 w2) (trodAll_cons_mk (Below.trod laidOut (by kernel_rfl) (of_decide_eq_true (by kernel_rfl)) k3 bel lt3) (trodAll_cons_mk (Below.trod laidOut (by kernel_rfl) (of_decide_eq_true (by kernel_rfl)) k4 bel lt4) (trodAll_cons_mk (shut_int Try.underlying3 w5) trodAll_mk0)))))), rfl, bel.frame _, fun h => by cases h⟩

theorem over : Rows.fnPaysFeesSplitsOverFeeListsRow.holds Try.pinned (OpenSpec.ofChange Rows.fnPaysFeesSplitsOverFeeListsSpec) :=
  OpenClaim.holds_of_wide 4 Try.f4 rfl rfl rfl rfl rfl rfl rfl ⟨rfl, rfl, rfl, rfl, rfl⟩ rfl rfl rfl rfl rfl (by kernel_rfl) Try.func4 (by kernel_rfl)
    (of_decide_eq_true (by kernel_rfl)) (by unfold Func.isWrapper; first | (rw [if_pos (by decide +kernel)]; kernel_rfl) | (rw [if_neg (by decide +kernel)]; exact ⟨rfl, rfl⟩))
    (fun os started H enc _ => lifted os started H enc)

/-- THE STATEMENT -/
theorem proved : Rows.FnPaysFeesSplitsOverFeeListsSaid := over
#print axioms proved
end Go.Proofs.Qxb6612167a.fnPaysFeesSplitsOverFeeLists
