/-
  FnLinkScript: the ways on which the law returns at once.
-/
import Derived.Test.Qxb6609346aDoorLaw
namespace Go.Proofs.Qxb6609346aDoor
open Go.ChangeShapes Go.WideShapes Go.ChangeAt Go.RowKit

set_option maxHeartbeats 400000 in
theorem bytes_any (a0 : Int) (ai az : Option Addr) (li ci ln cn : Nat) (h1 : li ≤ 9223372036854775807) (h2 : ln ≤ 9223372036854775807) (w : World) :
    Calls Tryd.prog 4 #[.int .i64 a0, .slice ai li ci, .slice az ln cn] w fun e w' => e = .returned (.bool (decide (li + ln ≤ 1048576))) ∧ w' = w := by
  by_cases g1 : (1048576 : Int) < li
  · go_enter Tryd.func4, Tryd.ntmps4
    go_wp2
    go_ret
    exact ⟨ret_bool (by simp; omega), rfl⟩
  by_cases g2 : (1048576 : Int) < ln
  · go_enter Tryd.func4, Tryd.ntmps4
    go_wp2
    go_ret
    exact ⟨ret_bool (by simp; omega), rfl⟩
  by_cases g3 : (1048576 : Int) < (li : Int) + ln
  · go_enter Tryd.func4, Tryd.ntmps4
    go_wp2
    go_ret
    exact ⟨ret_bool (by simp; omega), rfl⟩
  · go_enter Tryd.func4, Tryd.ntmps4
    go_wp2
    go_ret
    exact ⟨ret_bool (by simp; omega), rfl⟩

/-- the numbers of a slice of n integers of kind kd, of which the first k are looked at -/
def IntsView (kd : IntKind) (w : World) (ao : Option Addr) (k : Nat) (z : Nat → Int) : Prop :=
  0 < k → ∃ g o, ao = some ⟨g, o, none⟩ ∧ g < w.heap.size ∧ ∀ i, i < k → w.cell? ⟨g, o + i, none⟩ = some (.int kd (z i))

def BadIn (b z : Int) : Prop := z < b ∨ 32768 ≤ z - b

set_option maxRecDepth 10000 in
set_option maxHeartbeats 1000000 in
theorem script_early (a0 : Int) (ai az : Option Addr) (li ci ln cn : Nat) (h1 : li ≤ 9223372036854775807) (h2 : ln ≤ 9223372036854775807) (w : World)
    (h : 4096 < li ∨ 4096 < ln ∨ a0 < 0 ∨ 8796093022207 < a0) :
    Calls Tryd.prog 3 #[.int .i64 a0, .slice ai li ci, .slice az ln cn] w fun e w' => e = .returned (.bool true) ∧ w' = w := by
  by_cases g0 : 1048576 < li + ln
  · have hd : decide (li + ln ≤ 1048576) = false := by simp; omega
    go_enter Tryd.func3, Tryd.ntmps3
    go_wp2_with (go_at_call 4; refine (bytes_any a0 ai az li ci ln cn h1 h2 _).mono ?_; rintro e w1 ⟨rfl, rfl⟩)
    go_ret
    exact ⟨rfl, rfl⟩
  have hd : decide (li + ln ≤ 1048576) = true := by simp; omega
  by_cases g1 : (4096 : Int) < li
  · go_enter Tryd.func3, Tryd.ntmps3
    go_wp2_with (go_at_call 4; refine (bytes_any a0 ai az li ci ln cn h1 h2 _).mono ?_; rintro e w1 ⟨rfl, rfl⟩)
    go_ret
    exact ⟨rfl, rfl⟩
  by_cases g2 : (4096 : Int) < ln
  · go_enter Tryd.func3, Tryd.ntmps3
    go_wp2_with (go_at_call 4; refine (bytes_any a0 ai az li ci ln cn h1 h2 _).mono ?_; rintro e w1 ⟨rfl, rfl⟩)
    go_ret
    exact ⟨rfl, rfl⟩
  by_cases g3 : a0 < 0
  · go_enter Tryd.func3, Tryd.ntmps3
    go_wp2_with (go_at_call 4; refine (bytes_any a0 ai az li ci ln cn h1 h2 _).mono ?_; rintro e w1 ⟨rfl, rfl⟩)
    go_ret
    exact ⟨rfl, rfl⟩
  by_cases g4 : 8796093022207 < a0
  · go_enter Tryd.func3, Tryd.ntmps3
    go_wp2_with (go_at_call 4; refine (bytes_any a0 ai az li ci ln cn h1 h2 _).mono ?_; rintro e w1 ⟨rfl, rfl⟩)
    go_ret
    exact ⟨rfl, rfl⟩
  omega

/-- entry i of the script is refused -/
def BadAt (b : Int) (a z : Nat → Int) (i : Nat) : Prop := a i < 0 ∨ 65536 ≤ a i ∨ BadIn b (z i) ∨ ∃ j, j < i ∧ a j = a i

set_option maxRecDepth 10000 in
set_option maxHeartbeats 4000000 in
theorem script_bad (a0 : Int) (ai az : Option Addr) (li ci ln cn k : Nat) (a z : Nat → Int) (w : World) (hk : k = min li ln) (hva : IntsView .i32 w ai k a) (hvz : IntsView .i64 w az k z)
    (hzb : ∀ i, i < k → -9223372036854775808 ≤ z i ∧ z i ≤ 9223372036854775807) (h1 : li ≤ 4096) (h2 : ln ≤ 4096) (h3 : 0 ≤ a0) (h4 : a0 ≤ 8796093022207) (J : Nat) (hJ : J < k) (hbad : BadAt a0 a z J) :
    Calls Tryd.prog 3 #[.int .i64 a0, .slice ai li ci, .slice az ln cn] w fun e w' => e = .returned (.bool true) ∧ ∃ n, w' = w.drewN n := by
  have hd : decide (li + ln ≤ 1048576) = true := by simp; omega
  obtain ⟨ga, oa, rfl, hga, hca⟩ := hva (by omega)
  obtain ⟨gz, oz, rfl, hgz, hcz⟩ := hvz (by omega)
  -- the two lengths' order is decided ahead
  have main : ∀ (hord : (ln < li ∧ k = ln) ∨ (li ≤ ln ∧ k = li)), Calls Tryd.prog 3 #[.int .i64 a0, .slice (some ⟨ga, oa, none⟩) li ci, .slice (some ⟨gz, oz, none⟩) ln cn] w fun e w' => e = .returned (.bool true) ∧ ∃ n, w' = w.drewN n := by
    rintro (⟨hord, hk'⟩ | ⟨hord, hk'⟩)
    · subst hk'
      clear hk
      have hdo : decide ((k : Int) < (li : Int)) = true := by simp; omega
      have hdo' : decide (k < li) = true := by simp; omega
      go_enter Tryd.func3, Tryd.ntmps3
      go_wp2_with (go_at_call 4; refine (bytes_any a0 _ _ _ ci _ cn (by omega) (by omega) _).mono ?_; rintro e w1 ⟨rfl, hw1⟩; subst hw1)
      go_loopw [8, 9] (fun mx i wr => (∃ n, wr = w1.drewN n) ∧ ∃ m : Nat, m ≤ J ∧ i = .int .i64 m ∧ ∃ M : Int, mx = .int .i32 M) (fun _ i _ => J - (intOf i).toNat)
      case atStart => exact ⟨⟨0, rfl⟩, 0, by omega, rfl, _, rfl⟩
      case round =>
        obtain ⟨⟨nd, rfl⟩, m, hm, rfl, M, rfl⟩ := hrel
        have ca := hca m (by omega)
        have cz := hcz m (by omega)
        obtain ⟨z1, z2⟩ := hzb m (by omega)
        by_cases b1 : a m < 0
        · go_wp2
          go_ret
          exact ⟨rfl, _, rfl⟩
        by_cases b2 : 65536 ≤ a m
        · go_wp2
          go_ret
          exact ⟨rfl, _, rfl⟩
        by_cases b3 : z m < a0
        · go_wp2
          go_ret
          exact ⟨rfl, _, rfl⟩
        by_cases b4 : 32768 ≤ z m - a0
        · go_wp2
          go_ret
          exact ⟨rfl, _, rfl⟩
        by_cases b5 : ∃ j, j < m ∧ a j = a m
        · obtain ⟨jj, hjj, hjm⟩ := b5
          have HJ : Hid (a jj = a m) := hjm
          have HCA : Hid (∀ i, i < k → w1.cell? ⟨ga, oa + i, none⟩ = some (.int .i32 (a i))) := hca
          clear hjm hca hcz hzb hbad
          go_wp2
          go_loopw [10] (fun i wr => (∃ n, wr = w1.drewN n) ∧ ∃ t : Nat, t ≤ jj ∧ i = .int .i64 t) (fun i _ => jj - (intOf i).toNat)
          case atStart => exact ⟨⟨nd, rfl⟩, 0, by omega, rfl⟩
          case round =>
            obtain ⟨⟨nd', rfl⟩, t, ht, rfl⟩ := hrel
            have ct := HCA.out t (by omega)
            have hti : (t : Int) < (m : Int) := by omega
            by_cases hq : a t = a m
            · have hq' : (a t == a m) = true := by simpa using hq
              clear hq
              go_wp2
              go_quiet (fail)
              go_wp2
              go_ret
              exact ⟨rfl, _, World.drewN_drewN _ _ _⟩
            · have hq' : (a t == a m) = false := by simpa using hq
              have hlt : t < jj := by
                rcases Nat.lt_or_ge t jj with h | h
                · exact h
                · obtain rfl : t = jj := by omega
                  exact absurd HJ.out hq
              clear hq
              go_wp2
              go_quiet (fail)
              go_wp2
              go_roundw
              case measure => simp [intOf]; omega
              case rel => exact ⟨⟨_, rfl⟩, t + 1, by omega, by go_num⟩
        · have hmJ : m < J := by
            rcases Nat.lt_or_ge m J with h | h
            · exact h
            · obtain rfl : m = J := by omega
              exfalso
              rcases hbad with h | h | h | h
              · exact b1 h
              · exact b2 h
              · rcases h with h | h
                · exact b3 h
                · exact b4 h
              · exact b5 h
          have HN : Hid (∀ j, j < m → a j ≠ a m) := fun j hj e => b5 ⟨j, hj, e⟩
          have HCA : Hid (∀ i, i < k → w1.cell? ⟨ga, oa + i, none⟩ = some (.int .i32 (a i))) := hca
          clear b5 hca hcz hzb hbad
          go_wp2
          go_loopw [10] (fun i wr => (∃ n, wr = w1.drewN n) ∧ ∃ t : Nat, t ≤ m ∧ i = .int .i64 t) (fun i _ => m - (intOf i).toNat)
          case atStart => exact ⟨⟨nd, rfl⟩, 0, by omega, rfl⟩
          case round =>
            obtain ⟨⟨nd', rfl⟩, t, ht, rfl⟩ := hrel
            by_cases hlt : t < m
            · have ct := HCA.out t (by omega)
              have hti : (t : Int) < (m : Int) := by omega
              have hq' : (a t == a m) = false := by simpa using HN.out t hlt
              go_wp2
              go_quiet (fail)
              go_wp2
              go_roundw
              case measure => simp [intOf]; omega
              case rel => exact ⟨⟨_, rfl⟩, t + 1, by omega, by go_num⟩
            · obtain rfl : t = m := by omega
              by_cases hM : M < a t
              · go_wp2
                go_roundw
                case measure => simp [intOf]; omega
                case rel => exact ⟨⟨_, rfl⟩, t + 1, by omega, by go_num, _, rfl⟩
              · go_wp2
                go_roundw
                case measure => simp [intOf]; omega
                case rel => exact ⟨⟨_, rfl⟩, t + 1, by omega, by go_num, _, rfl⟩
    · subst hk'
      clear hk
      have hdo : decide ((ln : Int) < (k : Int)) = false := by simp; omega
      have hdo' : decide (ln < k) = false := by simp; omega
      go_enter Tryd.func3, Tryd.ntmps3
      go_wp2_with (go_at_call 4; refine (bytes_any a0 _ _ _ ci _ cn (by omega) (by omega) _).mono ?_; rintro e w1 ⟨rfl, hw1⟩; subst hw1)
      have HO : Hid (k ≤ ln) := hord
      clear hord hdo
      go_loopw [8, 9] (fun mx i wr => (∃ n, wr = w1.drewN n) ∧ ∃ m : Nat, m ≤ J ∧ i = .int .i64 m ∧ ∃ M : Int, mx = .int .i32 M) (fun _ i _ => J - (intOf i).toNat)
      case atStart => exact ⟨⟨0, rfl⟩, 0, by omega, rfl, _, rfl⟩
      case round =>
        obtain ⟨⟨nd, rfl⟩, m, hm, rfl, M, rfl⟩ := hrel
        have hml : (m : Int) < (ln : Int) := by have := HO.out; omega
        have ca := hca m (by omega)
        have cz := hcz m (by omega)
        obtain ⟨z1, z2⟩ := hzb m (by omega)
        by_cases b1 : a m < 0
        · go_wp2
          go_ret
          exact ⟨rfl, _, rfl⟩
        by_cases b2 : 65536 ≤ a m
        · go_wp2
          go_ret
          exact ⟨rfl, _, rfl⟩
        by_cases b3 : z m < a0
        · go_wp2
          go_ret
          exact ⟨rfl, _, rfl⟩
        by_cases b4 : 32768 ≤ z m - a0
        · go_wp2
          go_ret
          exact ⟨rfl, _, rfl⟩
        by_cases b5 : ∃ j, j < m ∧ a j = a m
        · obtain ⟨jj, hjj, hjm⟩ := b5
          have HJ : Hid (a jj = a m) := hjm
          have HCA : Hid (∀ i, i < k → w1.cell? ⟨ga, oa + i, none⟩ = some (.int .i32 (a i))) := hca
          clear hjm hca hcz hzb hbad
          go_wp2
          go_loopw [10] (fun i wr => (∃ n, wr = w1.drewN n) ∧ ∃ t : Nat, t ≤ jj ∧ i = .int .i64 t) (fun i _ => jj - (intOf i).toNat)
          case atStart => exact ⟨⟨nd, rfl⟩, 0, by omega, rfl⟩
          case round =>
            obtain ⟨⟨nd', rfl⟩, t, ht, rfl⟩ := hrel
            have ct := HCA.out t (by omega)
            have hti : (t : Int) < (m : Int) := by omega
            by_cases hq : a t = a m
            · have hq' : (a t == a m) = true := by simpa using hq
              clear hq
              go_wp2
              go_quiet (fail)
              go_wp2
              go_ret
              exact ⟨rfl, _, World.drewN_drewN _ _ _⟩
            · have hq' : (a t == a m) = false := by simpa using hq
              have hlt : t < jj := by
                rcases Nat.lt_or_ge t jj with h | h
                · exact h
                · obtain rfl : t = jj := by omega
                  exact absurd HJ.out hq
              clear hq
              go_wp2
              go_quiet (fail)
              go_wp2
              go_roundw
              case measure => simp [intOf]; omega
              case rel => exact ⟨⟨_, rfl⟩, t + 1, by omega, by go_num⟩
        · have hmJ : m < J := by
            rcases Nat.lt_or_ge m J with h | h
            · exact h
            · obtain rfl : m = J := by omega
              exfalso
              rcases hbad with h | h | h | h
              · exact b1 h
              · exact b2 h
              · rcases h with h | h
                · exact b3 h
                · exact b4 h
              · exact b5 h
          have HN : Hid (∀ j, j < m → a j ≠ a m) := fun j hj e => b5 ⟨j, hj, e⟩
          have HCA : Hid (∀ i, i < k → w1.cell? ⟨ga, oa + i, none⟩ = some (.int .i32 (a i))) := hca
          clear b5 hca hcz hzb hbad
          go_wp2
          go_loopw [10] (fun i wr => (∃ n, wr = w1.drewN n) ∧ ∃ t : Nat, t ≤ m ∧ i = .int .i64 t) (fun i _ => m - (intOf i).toNat)
          case atStart => exact ⟨⟨nd, rfl⟩, 0, by omega, rfl⟩
          case round =>
            obtain ⟨⟨nd', rfl⟩, t, ht, rfl⟩ := hrel
            by_cases hlt : t < m
            · have ct := HCA.out t (by omega)
              have hti : (t : Int) < (m : Int) := by omega
              have hq' : (a t == a m) = false := by simpa using HN.out t hlt
              go_wp2
              go_quiet (fail)
              go_wp2
              go_roundw
              case measure => simp [intOf]; omega
              case rel => exact ⟨⟨_, rfl⟩, t + 1, by omega, by go_num⟩
            · obtain rfl : t = m := by omega
              by_cases hM : M < a t
              · go_wp2
                go_roundw
                case measure => simp [intOf]; omega
                case rel => exact ⟨⟨_, rfl⟩, t + 1, by omega, by go_num, _, rfl⟩
              · go_wp2
                go_roundw
                case measure => simp [intOf]; omega
                case rel => exact ⟨⟨_, rfl⟩, t + 1, by omega, by go_num, _, rfl⟩
  exact main (by omega)
end Go.Proofs.Qxb6609346aDoor
