import Derived.Test.Qxb6612167aEmpty
import Derived.Deep.QuietTactic
import Derived.BigQuiet
namespace Go.Proofs.Qxb6612167a
open Go.ChangeShapes Go.WideShapes Go.ChangeAt Go.RowKit

/-- the strings of a slice of n strings at ao -/
def StrsView (w : World) (ao : Option Addr) (n : Nat) (S : Nat → ByteArray) : Prop :=
  0 < n → ∃ b off, ao = some ⟨b, off, none⟩ ∧ b < w.heap.size ∧ ∀ i, i < n → w.cell? ⟨b, off + i, none⟩ = some (.string (S i))
/-- the fees of a slice of n fees at ao -/
def FeesView (w : World) (ao : Option Addr) (n : Nat) (N C : Nat → ByteArray) (P Q : Nat → Bool) (F T : Nat → Int) : Prop :=
  0 < n → ∃ b off, ao = some ⟨b, off, none⟩ ∧ b < w.heap.size ∧ FeesIn w b off n N C P Q F T

/-- a bool comes back, the world is as it was -/
def Said (w : World) (e : Ending) (w' : World) : Prop := (∃ b, e = .returned (.bool b)) ∧ w' = w
/-- a bool comes back, only draws have been made; where it is true the fees are few -/
def Fits (w : World) (n : Nat) (e : Ending) (w' : World) : Prop := ∃ b, e = .returned (.bool b) ∧ (b = true → n ≤ 16384) ∧ ∃ m, w' = w.drewN m
theorem fits_no (w : World) (n m : Nat) : Fits w n (.returned (.bool false)) (w.drewN m) := ⟨false, rfl, (fun h => by cases h), m, rfl⟩
theorem fits_yes (w : World) (n m : Nat) (h : n ≤ 16384) : Fits w n (.returned (.bool true)) (w.drewN m) := ⟨true, rfl, fun _ => h, m, rfl⟩

set_option maxRecDepth 10000 in
set_option maxHeartbeats 1000000 in
theorem bytes_any (s0 s2 : ByteArray) (u kk : Int) (ca : Option Addr) (cl cc : Nat) (S : Nat → ByteArray) (ao : Option Addr) (n cap : Nat) (N C : Nat → ByteArray) (P Q : Nat → Bool) (F T : Nat → Int) (w : World)
    (hS : StrsView w ca cl S) (hF : FeesView w ao n N C P Q F T) (hcl : cl ≤ maxLen) (hn : n ≤ maxLen) :
    Calls Try.prog 8 #[.string s0, .int .i64 u, .string s2, .slice ca cl cc, .slice ao n cap, .int .i64 kk] w (Said w) := by
  unfold maxLen at hcl hn
  go_enter Try.func8, Try.ntmps8
  go_wp2
  all_goals first | (go_ret; exact (⟨⟨_, rfl⟩, rfl⟩ : Said _ _ _)) | skip
  go_loop [13, 14] (fun z i => ∃ k : Nat, k ≤ cl ∧ i = .int .i64 k ∧ ∃ zz : Int, 0 ≤ zz ∧ zz ≤ 1048576 ∧ z = .int .i64 zz) (fun _ i => cl - (intOf i).toNat)
  case atStart => exact ⟨0, by omega, rfl, _, by omega, by omega, rfl⟩
  case round =>
    obtain ⟨k, hk, rfl, zz, hz0, hz1, rfl⟩ := hrel
    by_cases hlt : k < cl
    · obtain ⟨b, off, hca, hb, hc⟩ := hS (by omega)
      subst hca
      have hck := hc k hlt
      clear hc hF hS
      go_wp2
      all_goals first | (go_ret; exact (⟨⟨_, rfl⟩, rfl⟩ : Said _ _ _)) | skip
      go_round
      case rel => exact ⟨k + 1, by omega, by go_num, _, by omega, by omega, rfl⟩
      case measure => simp [intOf]; omega
    · go_wp2
      all_goals first | (go_ret; exact (⟨⟨_, rfl⟩, rfl⟩ : Said _ _ _)) | skip
      go_loop [13, 15] (fun z i => ∃ k : Nat, k ≤ n ∧ i = .int .i64 k ∧ ∃ zz : Int, 0 ≤ zz ∧ zz ≤ 1048576 ∧ z = .int .i64 zz) (fun _ i => n - (intOf i).toNat)
      case atStart => exact ⟨0, by omega, rfl, _, by omega, by omega, rfl⟩
      case round =>
        obtain ⟨j, hj, rfl, yy, hy0, hy1, rfl⟩ := hrel
        by_cases hlj : j < n
        · obtain ⟨b, off, hao, hb, hc⟩ := hF (by omega)
          subst hao
          obtain ⟨h0, h1, _⟩ := hc j hlj
          clear hc hF hS
          go_wp2
          all_goals first | (go_ret; exact (⟨⟨_, rfl⟩, rfl⟩ : Said _ _ _)) | skip
          go_round
          case rel => exact ⟨j + 1, by omega, by go_num, _, by omega, by omega, rfl⟩
          case measure => simp [intOf]; omega
        · go_wp2
          all_goals (go_ret; exact (⟨⟨_, rfl⟩, rfl⟩ : Said _ _ _))

set_option maxRecDepth 10000 in
set_option maxHeartbeats 1000000 in
theorem fits_any (s0 s2 : ByteArray) (ca : Option Addr) (cl cc : Nat) (S : Nat → ByteArray) (ao : Option Addr) (n cap : Nat) (N C : Nat → ByteArray) (P Q : Nat → Bool) (F T : Nat → Int) (w : World)
    (hS : StrsView w ca cl S) (hF : FeesView w ao n N C P Q F T) (hcl : cl ≤ maxLen) (hn : n ≤ maxLen) :
    Calls Try.prog 9 #[.string s0, .string s2, .slice ca cl cc, .slice ao n cap] w (Fits w n) := by
  unfold maxLen at hcl hn
  by_cases g0 : 65536 < (s0.size : Int)
  · go_enter Try.func9, Try.ntmps9
    go_wp2
    go_ret
    exact fits_no w n 0
  by_cases g1 : 65536 < (s2.size : Int)
  · go_enter Try.func9, Try.ntmps9
    go_wp2
    go_ret
    exact fits_no w n 0
  by_cases g2 : 65536 < (cl : Int)
  · go_enter Try.func9, Try.ntmps9
    go_wp2
    go_ret
    exact fits_no w n 0
  by_cases g3 : 16384 < (n : Int)
  · go_enter Try.func9, Try.ntmps9
    go_wp2
    go_ret
    exact fits_no w n 0
  have hn' : n ≤ 16384 := by omega
  go_enter Try.func9, Try.ntmps9
  go_wp2
  all_goals first | (go_ret; exact fits_no w n 0) | skip
  go_loop [9, 10] (fun z i => ∃ k : Nat, k ≤ cl ∧ i = .int .i64 k ∧ ∃ zz : Int, 0 ≤ zz ∧ zz ≤ 1048576 ∧ z = .int .i64 zz) (fun _ i => cl - (intOf i).toNat)
  case atStart => exact ⟨0, by omega, rfl, _, by omega, by omega, rfl⟩
  case round =>
    obtain ⟨k, hk, rfl, zz, hz0, hz1, rfl⟩ := hrel
    by_cases hlt : k < cl
    · obtain ⟨b, off, hca, hb, hc⟩ := hS (by omega)
      subst hca
      have hck := hc k hlt
      clear hc hF hS
      go_wp2
      all_goals first | (go_ret; exact fits_no w n 0) | skip
      go_round
      case rel => exact ⟨k + 1, by omega, by go_num, _, by omega, by omega, rfl⟩
      case measure => simp [intOf]; omega
    · go_wp2
      go_loopw [9, 11] (fun z i wr => (∃ m, wr = w.drewN m) ∧ ∃ k : Nat, k ≤ n ∧ i = .int .i64 k ∧ ∃ zz : Int, 0 ≤ zz ∧ zz ≤ 1048576 ∧ z = .int .i64 zz) (fun _ i _ => n - (intOf i).toNat)
      case atStart => exact ⟨⟨0, rfl⟩, 0, by omega, rfl, _, by omega, by omega, rfl⟩
      case round =>
        obtain ⟨⟨m, rfl⟩, j, hj, rfl, yy, hy0, hy1, rfl⟩ := hrel
        by_cases hlj : j < n
        · obtain ⟨b, off, hao, hb, hc⟩ := hF (by omega)
          subst hao
          obtain ⟨h0, h1, _⟩ := hc j hlj
          clear hc hF hS
          by_cases t0 : 1048576 < ((N j).size : Int)
          · go_wp2
            go_ret
            exact fits_no w n m
          by_cases t1 : 1048576 < ((C j).size : Int)
          · go_wp2
            go_ret
            exact fits_no w n m
          go_wp2
          go_quiet (fail)
          go_wp2
          · go_ret
            exact fits_no w n _
          · go_roundw
            case rel => exact ⟨⟨_, rfl⟩, j + 1, by omega, by go_num, _, by omega, by omega, rfl⟩
            case measure => simp [intOf]; omega
        · go_wp2
          go_ret
          exact fits_yes w n m hn'
end Go.Proofs.Qxb6612167a
