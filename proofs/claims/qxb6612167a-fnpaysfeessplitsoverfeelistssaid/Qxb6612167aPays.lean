import Derived.Test.Qxb6612167aRows
import Derived.WalkKit
import Derived.ProofKit
namespace Go.Proofs.Qxb6612167a
open Go.ChangeShapes Go.WideShapes Go.ChangeAt Go.RowKit

theorem ret_bool {a b : Bool} (h : a = b) : Ending.returned (.bool a) = .returned (.bool b) := by rw [h]

set_option maxHeartbeats 400000 in
theorem paid_some (c0 c1 c2 c3 c4 c5 : Value) (q : Addr) (w : World) :
    Calls Try.prog 14 #[.agg #[c0, c1, c2, c3, c4, c5, .pointer (some q)]] w fun e w' => e = .returned (.bool true) ∧ w' = w.alloc (.cells #[c0, c1, c2, c3, c4, c5, .pointer (some q)] 51) := by
  go_enter Try.func14, Try.ntmps14
  go_wp2
  go_ret
  exact ⟨rfl, rfl⟩
set_option maxHeartbeats 400000 in
theorem paid_none (c0 c1 c2 c3 c4 c5 : Value) (w : World) :
    Calls Try.prog 14 #[.agg #[c0, c1, c2, c3, c4, c5, .pointer none]] w fun e w' => e = .returned (.bool false) ∧ w' = w.alloc (.cells #[c0, c1, c2, c3, c4, c5, .pointer none] 51) := by
  go_enter Try.func14, Try.ntmps14
  go_wp2
  go_ret
  exact ⟨rfl, rfl⟩

theorem paid_any (c0 c1 c2 c3 c4 c5 : Value) (q : Option Addr) (w : World) :
    Calls Try.prog 14 #[.agg #[c0, c1, c2, c3, c4, c5, .pointer q]] w fun e w' => e = .returned (.bool q.isSome) ∧ w' = w.alloc (.cells #[c0, c1, c2, c3, c4, c5, .pointer q] 51) := by
  cases q with
  | none => exact paid_none c0 c1 c2 c3 c4 c5 w
  | some q => exact paid_some c0 c1 c2 c3 c4 c5 q w

/-- does f hold of a number below n? -/
def anyB (n : Nat) (f : Nat → Bool) : Bool := (List.range n).any f
theorem anyB_iff (n : Nat) (f : Nat → Bool) : anyB n f = true ↔ ∃ i, i < n ∧ f i = true := by simp [anyB]

/-- n fees in a row lie at the head of block g; q i: where fee i's payment terms lie -/
def FeesAt (w : World) (g n : Nat) (q : Nat → Option Addr) : Prop :=
  g < w.heap.size ∧ ∀ i, i < n → ∃ c0 c1 c2 c3 c4 c5 : Value, w.cell? ⟨g, i * 7, none⟩ = some c0 ∧ w.cell? ⟨g, i * 7 + 1, none⟩ = some c1 ∧ w.cell? ⟨g, i * 7 + 2, none⟩ = some c2 ∧
    w.cell? ⟨g, i * 7 + 3, none⟩ = some c3 ∧ w.cell? ⟨g, i * 7 + 4, none⟩ = some c4 ∧ w.cell? ⟨g, i * 7 + 5, none⟩ = some c5 ∧ w.cell? ⟨g, i * 7 + 6, none⟩ = some (.pointer (q i))

theorem FeesAt.below {w w' : World} {g n : Nat} {q : Nat → Option Addr} (h : FeesAt w g n q) (hb : Below w.heap.size w w') : FeesAt w' g n q := by
  refine ⟨Nat.lt_of_lt_of_le h.1 hb.size, fun i hi => ?_⟩
  obtain ⟨c0, c1, c2, c3, c4, c5, h0, h1, h2, h3, h4, h5, h6⟩ := h.2 i hi
  have e : ∀ o, w'.cell? ⟨g, o, none⟩ = w.cell? ⟨g, o, none⟩ := fun o => hb.cell (p := ⟨g, o, none⟩) h.1
  exact ⟨c0, c1, c2, c3, c4, c5, by rw [e, h0], by rw [e, h1], by rw [e, h2], by rw [e, h3], by rw [e, h4], by rw [e, h5], by rw [e, h6]⟩

set_option maxHeartbeats 400000 in
theorem index_any (g n cap : Nat) (q : Nat → Option Addr) (w : World) (hn : n ≤ 16385) (hf : FeesAt w g n q) :
    Calls Try.prog 16 #[.slice (some ⟨g, 0, none⟩) n cap, .func (Fn.func 14) #[] #[]] w fun e w' => ∃ r : Int, e = .returned (.int .i64 r) ∧ (0 ≤ r ↔ anyB n (fun i => (q i).isSome) = true) ∧ Below w.heap.size w w' := by
  go_enter Try.func16, Try.ntmps16
  go_wp2
  go_loopw [8] (fun i wr => ∃ k : Nat, k ≤ n ∧ i = .int .i64 k ∧ (∀ j, j < k → (q j).isSome = false) ∧ Below w.heap.size w wr) (fun i _ => n - (intOf i).toNat)
  case atStart => exact ⟨0, by omega, rfl, fun j hj => by omega, Below.refl _ _⟩
  case round =>
    obtain ⟨k, hk, rfl, hno, hb⟩ := hrel
    by_cases hlt : k < n
    · obtain ⟨c0, c1, c2, c3, c4, c5, h0, h1, h2, h3, h4, h5, h6⟩ := (hf.below hb).2 k hlt
      have hz : w.heap.size ≤ wr.heap.size := hb.size
      have HN : Hid (∀ j, j < k → (q j).isSome = false) := hno
      clear hno hf
      cases hq : (q k).isSome with
      | true =>
        go_wp2_with (go_at_call 14; refine (paid_any c0 c1 c2 c3 c4 c5 (q k) _).mono ?_; rintro e w' ⟨rfl, rfl⟩)
        go_ret
        exact ⟨_, rfl, ⟨fun _ => (anyB_iff _ _).2 ⟨k, hlt, hq⟩, fun _ => by omega⟩, hb.alloc hz _⟩
      | false =>
        go_wp2_with (go_at_call 14; refine (paid_any c0 c1 c2 c3 c4 c5 (q k) _).mono ?_; rintro e w' ⟨rfl, rfl⟩)
        go_roundw
        case rel => exact ⟨k + 1, by omega, by go_num, fun j hj => if h : j = k then h ▸ hq else HN.out j (by omega), hb.alloc hz _⟩
        case measure => simp [intOf]; omega
    · have HN : Hid (∀ j, j < k → (q j).isSome = false) := hno
      clear hno hf
      go_wp2
      go_ret
      exact ⟨_, rfl, ⟨fun h => absurd h (by decide), fun h => by obtain ⟨i, hi, h⟩ := (anyB_iff _ _).1 h; have := HN.out i (by omega); rw [this] at h; cases h⟩, hb⟩

set_option maxHeartbeats 400000 in
theorem contains_any (g n cap : Nat) (q : Nat → Option Addr) (w : World) (hn : n ≤ 16385) (hf : FeesAt w g n q) :
    Calls Try.prog 13 #[.slice (some ⟨g, 0, none⟩) n cap, .func (Fn.func 14) #[] #[]] w fun e w' => e = .returned (.bool (anyB n (fun i => (q i).isSome))) ∧ Below w.heap.size w w' := by
  go_enter Try.func13, Try.ntmps13
  go_wp2_with (go_at_call 16; refine (index_any g n cap q _ hn hf).mono ?_; rintro e w' ⟨r, rfl, hr, hb⟩)
  go_ret
  exact ⟨ret_bool (by simp), hb⟩

set_option maxHeartbeats 400000 in
theorem pays_any (t0 t1 t2 t4 t5 t6 t7 t8 t9 t10 : Value) (g n cap : Nat) (q : Nat → Option Addr) (w : World) (hn : n ≤ 16385) (hf : FeesAt w g n q) :
    Calls Try.prog 11 #[.agg #[t0, t1, t2, .slice (some ⟨g, 0, none⟩) n cap, t4, t5, t6, t7, t8, t9, t10]] w fun e w' => e = .returned (.bool (anyB n (fun i => (q i).isSome))) ∧ Below w.heap.size w w' := by
  have hf' := hf.below ((Below.refl _ _).alloc (Nat.le_refl _) (.cells #[t0, t1, t2, .slice (some ⟨g, 0, none⟩) n cap, t4, t5, t6, t7, t8, t9, t10] 40))
  go_enter Try.func11, Try.ntmps11
  go_wp2_with (go_at_call 13; refine (contains_any g n cap q _ hn hf').mono ?_; rintro e w' ⟨rfl, hb⟩)
  go_ret
  exact ⟨rfl, ((Below.refl _ _).alloc (Nat.le_refl _) _).trans (hb.mono (by simp))⟩
end Go.Proofs.Qxb6612167a
