/-
  The plain laws: what a script of links makes of heads, bitmap and links; no Go in sight.
-/
import Derived.Test.Qxb6609346aDoorLink2
namespace Go.Proofs.Qxb6609346aDoor
open Go.ChangeShapes Go.WideShapes Go.ChangeAt Go.RowKit

/-! ### words -/
theorem pow_lt (r : Nat) (hr : r < 64) : 2 ^ r < 18446744073709551616 := by
  have : 2 ^ r < 2 ^ 64 := Nat.pow_lt_pow_right (by omega) hr
  omega
theorem wrap_pow (r : Nat) (hr : r < 64) : IntKind.u64.wrap (2 ^ r) = ((2 ^ r : Nat) : Int) := by
  have hp := pow_lt r hr
  have e : (2 : Int) ^ r = ((2 ^ r : Nat) : Int) := by simp [Int.natCast_pow]
  rw [IntKind.wrap_u64, e]
  generalize (2 ^ r : Nat) = x at *
  omega
theorem orW_nat (x r : Nat) (hx : x < 18446744073709551616) (hr : r < 64) : orW (x : Int) r = ((x ||| 2 ^ r : Nat) : Int) := by
  unfold orW
  rw [wrap_pow r hr, u64_or_nat x (2 ^ r) hx (pow_lt r hr)]
theorem or_lt (x r : Nat) (hx : x < 18446744073709551616) (hr : r < 64) : x ||| 2 ^ r < 18446744073709551616 := by
  have := Nat.or_lt_two_pow (n := 64) (x := x) (y := 2 ^ r) (by omega) (Nat.pow_lt_pow_right (by omega) hr)
  omega
theorem testBit_or (x r i : Nat) : (x ||| 2 ^ r).testBit i = (x.testBit i || decide (r = i)) := by
  rw [Nat.testBit_or, Nat.testBit_two_pow]
/-! ### a script of links -/
structure CoreEq (s t : St) : Prop where
  filled : s.filled = t.filled
  H : s.H = t.H
  W : s.W = t.W
  A : s.A = t.A
  X : s.X = t.X
theorem CoreEq.refl (s : St) : CoreEq s s := ⟨rfl, rfl, rfl, rfl, rfl⟩
theorem CoreEq.link {s t : St} (h : CoreEq s t) (hb hb' id i : Nat) : CoreEq (linkSt s hb id i) (linkSt t hb' id i) := by
  unfold linkSt
  rw [h.H, h.filled, h.W, h.A, h.X]
  split <;> exact ⟨rfl, rfl, rfl, rfl, rfl⟩
theorem linkSt_hd (s : St) (hb id i : Nat) : (linkSt s hb id i).hd = some hb := by unfold linkSt; split <;> rfl

/-- k slots, those below N, have been linked -/
structure Ok (N k : Nat) (s : St) : Prop where
  head : ∀ i, s.H i = -1 ∨ ∃ g : Nat, g < N ∧ s.H i = g ∧ s.A g = -1
  inj : ∀ i j, s.H i = s.H j → s.H i ≠ -1 → i = j
  word : ∀ j, ∃ x : Nat, x < 18446744073709551616 ∧ s.W j = x ∧ ∀ r, r < 64 → (x.testBit r = true ↔ s.H (64 * j + r) ≠ -1)
  fill : 0 ≤ s.filled ∧ s.filled ≤ k
theorem ok_start (N : Nat) : Ok N 0 St0 :=
  ⟨fun i => Or.inl rfl, fun i j _ h => absurd rfl h, fun j => ⟨0, by omega, rfl, fun r _ => by simp [St0]⟩, by simp [St0]⟩
theorem CoreEq.ok {s t : St} (h : CoreEq s t) {N k : Nat} (ho : Ok N k t) : Ok N k s :=
  ⟨by rw [h.H, h.A]; exact ho.head, by rw [h.H]; exact ho.inj, by rw [h.H, h.W]; exact ho.word, by rw [h.filled]; exact ho.fill⟩

theorem ok_link {N k : Nat} {s : St} (h : Ok N k s) (hb id i : Nat) (hid : id < N) (hfresh : ∀ j, s.H j ≠ (id : Int)) : Ok N (k + 1) (linkSt s hb id i) := by
  have hne : ((id : Nat) : Int) ≠ -1 := by omega
  have hinj : ∀ a b, upd s.H i id a = upd s.H i id b → upd s.H i id a ≠ -1 → a = b := by
    intro a b e1 e2
    by_cases ha : a = i
    · by_cases hb : b = i
      · omega
      · rw [ha, upd_same, upd_other _ _ hb] at e1
        exact absurd e1.symm (hfresh b)
    · by_cases hb : b = i
      · rw [hb, upd_same, upd_other _ _ ha] at e1
        exact absurd e1 (hfresh a)
      · rw [upd_other _ _ ha, upd_other _ _ hb] at e1
        rw [upd_other _ _ ha] at e2
        exact h.inj a b e1 e2
  by_cases hi : s.H i = -1
  · have e : linkSt s hb id i = { filled := s.filled + 1, hd := some hb, H := upd s.H i id, W := upd s.W (i / 64) (orW (s.W (i / 64)) (i % 64)), A := upd s.A id (-1), X := upd s.X id (-1) } := by
      unfold linkSt; rw [if_pos hi]
    rw [e]
    refine ⟨fun a => ?_, hinj, fun j => ?_, ⟨by have := h.fill; show 0 ≤ s.filled + 1; omega, by have := h.fill; show s.filled + 1 ≤ _; omega⟩⟩
    · show upd s.H i id a = -1 ∨ ∃ g : Nat, g < N ∧ upd s.H i id a = g ∧ upd s.A id (-1) g = -1
      by_cases ha : a = i
      · rw [ha, upd_same]
        exact Or.inr ⟨id, hid, rfl, upd_same _ _ _⟩
      · rw [upd_other _ _ ha]
        rcases h.head a with h1 | ⟨g, hg, h1, h2⟩
        · exact Or.inl h1
        · refine Or.inr ⟨g, hg, h1, ?_⟩
          by_cases hgi : g = id
          · rw [hgi, upd_same]
          · rw [upd_other _ _ hgi]; exact h2
    · show ∃ x : Nat, x < 18446744073709551616 ∧ upd s.W (i / 64) (orW (s.W (i / 64)) (i % 64)) j = x ∧ ∀ r, r < 64 → (x.testBit r = true ↔ upd s.H i id (64 * j + r) ≠ -1)
      obtain ⟨x, hx, hw, hbit⟩ := h.word j
      by_cases hj : j = i / 64
      · refine ⟨x ||| 2 ^ (i % 64), or_lt x _ hx (by omega), ?_, fun r hr => ?_⟩
        · rw [← hj, upd_same, hw, orW_nat x _ hx (by omega)]
        · rw [testBit_or]
          by_cases hri : i % 64 = r
          · have : 64 * j + r = i := by omega
            rw [this, upd_same]
            simp [hri, hne]
          · rw [upd_other _ _ (by omega)]
            simp only [hri, decide_false, Bool.or_false]
            exact hbit r hr
      · refine ⟨x, hx, by rw [upd_other _ _ hj, hw], fun r hr => ?_⟩
        rw [upd_other _ _ (by omega)]
        exact hbit r hr
  · have e : linkSt s hb id i = { filled := s.filled, hd := some hb, H := upd s.H i id, W := s.W, A := upd (upd s.A id (-1)) (s.H i).toNat id, X := upd s.X id (s.H i) } := by
      unfold linkSt; rw [if_neg hi]
    rw [e]
    refine ⟨fun a => ?_, hinj, fun j => ?_, ⟨h.fill.1, by have := h.fill; show s.filled ≤ _; omega⟩⟩
    · show upd s.H i id a = -1 ∨ ∃ g : Nat, g < N ∧ upd s.H i id a = g ∧ upd (upd s.A id (-1)) (s.H i).toNat id g = -1
      obtain ⟨o, ho, ho1, ho2⟩ := (h.head i).resolve_left hi
      have hto : (s.H i).toNat = o := by omega
      rw [hto]
      by_cases ha : a = i
      · rw [ha, upd_same]
        refine Or.inr ⟨id, hid, rfl, ?_⟩
        rw [upd_other _ _ (fun e => hfresh i (by rw [ho1, e])), upd_same]
      · rw [upd_other _ _ ha]
        rcases h.head a with h1 | ⟨g, hg, h1, h2⟩
        · exact Or.inl h1
        · refine Or.inr ⟨g, hg, h1, ?_⟩
          rw [upd_other _ _ (fun e => ha (h.inj a i (by rw [h1, ho1, e]) (by rw [h1]; omega)))]
          by_cases hgi : g = id
          · rw [hgi, upd_same]
          · rw [upd_other _ _ hgi]; exact h2
    · show ∃ x : Nat, x < 18446744073709551616 ∧ s.W j = x ∧ ∀ r, r < 64 → (x.testBit r = true ↔ upd s.H i id (64 * j + r) ≠ -1)
      obtain ⟨x, hx, hw, hbit⟩ := h.word j
      refine ⟨x, hx, hw, fun r hr => ?_⟩
      rw [hbit r hr]
      by_cases hri : 64 * j + r = i
      · rw [hri, upd_same]
        exact ⟨fun _ => hne, fun _ => hi⟩
      · rw [upd_other _ _ hri]

end Go.Proofs.Qxb6609346aDoor
