/-
  FnLinkUnlinkRoundTrip: the ways on which the law returns at once.
-/
import Derived.Test.Qxb6609346aPlain
namespace Go.Proofs.Qxb6609346a
open Go.ChangeShapes Go.WideShapes Go.ChangeAt Go.RowKit

set_option maxHeartbeats 400000 in
theorem bytes_any (a0 a2 a3 : Int) (ao : Option Addr) (k cap : Nat) (hk : k ≤ 9223372036854775807) (w : World) :
    Calls Try.prog 8 #[.int .i64 a0, .slice ao k cap, .int .i32 a2, .int .i64 a3] w fun e w' => e = .returned (.bool (decide (k ≤ 1048576))) ∧ w' = w := by
  by_cases h : (1048576 : Int) < k
  · go_enter Try.func8, Try.ntmps8
    go_wp2
    go_ret
    exact ⟨ret_bool (by simp; omega), rfl⟩
  · go_enter Try.func8, Try.ntmps8
    go_wp2
    go_ret
    exact ⟨ret_bool (by simp; omega), rfl⟩

/-- the numbers of a slice of k int64 -/
def IntsView (w : World) (ao : Option Addr) (k : Nat) (z : Nat → Int) : Prop :=
  0 < k → ∃ g o, ao = some ⟨g, o, none⟩ ∧ g < w.heap.size ∧ ∀ i, i < k → w.cell? ⟨g, o + i, none⟩ = some (.int .i64 (z i))

def BadIn (b z : Int) : Prop := z < b ∨ 32768 ≤ z - b

set_option maxRecDepth 10000 in
set_option maxHeartbeats 1000000 in
theorem trip_early (a0 a2 a3 : Int) (ao : Option Addr) (k cap : Nat) (hk : k ≤ 9223372036854775807) (b1 : -9223372036854775808 ≤ a0) (b2 : a0 ≤ 9223372036854775807) (b3 : -9223372036854775808 ≤ a3) (b4 : a3 ≤ 9223372036854775807) (b5 : -2147483648 ≤ a2) (b6 : a2 ≤ 2147483647) (w : World)
    (h : 4096 < k ∨ a0 < 0 ∨ 8796093022207 < a0 ∨ a2 < k ∨ 65536 ≤ a2 ∨ BadIn a0 a3) :
    Calls Try.prog 5 #[.int .i64 a0, .slice ao k cap, .int .i32 a2, .int .i64 a3] w fun e w' => e = .returned (.bool true) ∧ w' = w := by
  unfold BadIn at h
  by_cases g0 : 1048576 < k
  · have hd : decide (k ≤ 1048576) = false := by simp; omega
    go_enter Try.func5, Try.ntmps5
    go_wp2_with (go_at_call 8; refine (bytes_any a0 a2 a3 ao k cap hk _).mono ?_; rintro e w1 ⟨rfl, rfl⟩)
    go_ret
    exact ⟨rfl, rfl⟩
  have hd : decide (k ≤ 1048576) = true := by simp; omega
  by_cases g1 : (4096 : Int) < k
  · go_enter Try.func5, Try.ntmps5
    go_wp2_with (go_at_call 8; refine (bytes_any a0 a2 a3 ao k cap hk _).mono ?_; rintro e w1 ⟨rfl, rfl⟩)
    go_ret
    exact ⟨rfl, rfl⟩
  by_cases g2 : a0 < 0
  · go_enter Try.func5, Try.ntmps5
    go_wp2_with (go_at_call 8; refine (bytes_any a0 a2 a3 ao k cap hk _).mono ?_; rintro e w1 ⟨rfl, rfl⟩)
    go_ret
    exact ⟨rfl, rfl⟩
  by_cases g3 : 8796093022207 < a0
  · go_enter Try.func5, Try.ntmps5
    go_wp2_with (go_at_call 8; refine (bytes_any a0 a2 a3 ao k cap hk _).mono ?_; rintro e w1 ⟨rfl, rfl⟩)
    go_ret
    exact ⟨rfl, rfl⟩
  by_cases g4 : a2 < (k : Int)
  · go_enter Try.func5, Try.ntmps5
    go_wp2_with (go_at_call 8; refine (bytes_any a0 a2 a3 ao k cap hk _).mono ?_; rintro e w1 ⟨rfl, rfl⟩)
    go_ret
    exact ⟨rfl, rfl⟩
  by_cases g5 : 65536 ≤ a2
  · go_enter Try.func5, Try.ntmps5
    go_wp2_with (go_at_call 8; refine (bytes_any a0 a2 a3 ao k cap hk _).mono ?_; rintro e w1 ⟨rfl, rfl⟩)
    go_ret
    exact ⟨rfl, rfl⟩
  by_cases g6 : a3 < a0
  · go_enter Try.func5, Try.ntmps5
    go_wp2_with (go_at_call 8; refine (bytes_any a0 a2 a3 ao k cap hk _).mono ?_; rintro e w1 ⟨rfl, rfl⟩)
    go_ret
    exact ⟨rfl, rfl⟩
  by_cases g7 : 32768 ≤ a3 - a0
  · go_enter Try.func5, Try.ntmps5
    go_wp2_with (go_at_call 8; refine (bytes_any a0 a2 a3 ao k cap hk _).mono ?_; rintro e w1 ⟨rfl, rfl⟩)
    go_ret
    exact ⟨rfl, rfl⟩
  omega

set_option maxRecDepth 10000 in
set_option maxHeartbeats 1000000 in
theorem trip_bad (a0 a2 a3 : Int) (ao : Option Addr) (k cap : Nat) (z : Nat → Int) (w : World) (hv : IntsView w ao k z) (hz : ∀ i, i < k → -9223372036854775808 ≤ z i ∧ z i ≤ 9223372036854775807)
    (h1 : k ≤ 4096) (h2 : 0 ≤ a0) (h3 : a0 ≤ 8796093022207) (h4 : (k : Int) ≤ a2) (h5 : a2 < 65536) (h6 : a0 ≤ a3) (h7 : a3 - a0 < 32768) (j : Nat) (hj : j < k) (hbad : BadIn a0 (z j)) :
    Calls Try.prog 5 #[.int .i64 a0, .slice ao k cap, .int .i32 a2, .int .i64 a3] w fun e w' => e = .returned (.bool true) ∧ w' = w := by
  have hd : decide (k ≤ 1048576) = true := by simp; omega
  obtain ⟨g, o, rfl, hg, hc⟩ := hv (by omega)
  go_enter Try.func5, Try.ntmps5
  go_wp2_with (go_at_call 8; refine (bytes_any a0 a2 a3 _ k cap (by omega) _).mono ?_; rintro e w1 ⟨rfl, hw1⟩; subst hw1)
  go_loop [10] (fun i => ∃ m : Nat, m ≤ j ∧ i = .int .i64 m) (fun i => j + 1 - (intOf i).toNat)
  case atStart => exact ⟨0, by omega, rfl⟩
  case round =>
    obtain ⟨m, hm, rfl⟩ := hrel
    have hcm := hc m (by omega)
    obtain ⟨z1, z2⟩ := hz m (by omega)
    by_cases hb : BadIn a0 (z m)
    · by_cases hb1 : z m < a0
      · go_wp2
        go_ret
        exact ⟨rfl, rfl⟩
      · have hb2 : 32768 ≤ z m - a0 := by unfold BadIn at hb; omega
        go_wp2
        go_ret
        exact ⟨rfl, rfl⟩
    · have hmj : m < j := by
        rcases Nat.lt_or_ge m j with h | h
        · exact h
        · obtain rfl : m = j := by omega
          exact absurd hbad hb
      have hb1 : a0 ≤ z m := by unfold BadIn at hb; omega
      have hb2 : z m - a0 < 32768 := by unfold BadIn at hb; omega
      clear hbad hc hb
      go_wp2
      go_round
      case rel => exact ⟨m + 1, by omega, by go_num⟩
      case measure => simp [intOf]; omega
end Go.Proofs.Qxb6609346a
