/-
  The callees of the two laws on isLetter, and the plain facts on bytes.
-/
import Derived.Test.Qxb6612179aRows
import Derived.WalkKit
import Derived.ProofKit
namespace Go.Proofs.Qxb6612179a
open Go.ChangeShapes Go.WideShapes Go.ChangeAt Go.RowKit

theorem ret_bool {a b : Bool} (h : a = b) : Ending.returned (.bool a) = .returned (.bool b) := by rw [h]
def letB (c : Int) : Bool := decide ((97 ≤ c ∧ c ≤ 122) ∨ (65 ≤ c ∧ c ≤ 90))

set_option maxHeartbeats 400000 in
theorem letter_any (c : Int) (h0 : 0 ≤ c) (h1 : c ≤ 255) (w : World) :
    Calls Try.prog 24 #[.int .u8 c] w fun e w' => e = .returned (.bool (letB c)) ∧ w' = w := by
  rcases (show c < 65 ∨ (65 ≤ c ∧ c ≤ 90) ∨ (90 < c ∧ c < 97) ∨ (97 ≤ c ∧ c ≤ 122) ∨ 122 < c by omega) with h | ⟨h, h'⟩ | ⟨h, h'⟩ | ⟨h, h'⟩ | h
  all_goals
    go_enter Try.func24, Try.ntmps24
    go_wp2
    go_ret
    exact ⟨ret_bool (by rw [Bool.eq_iff_iff]; simp [letB]; omega), rfl⟩

set_option maxHeartbeats 400000 in
theorem zzletter_any (c : Int) (h0 : 0 ≤ c) (h1 : c ≤ 255) (w : World) :
    Calls Try.prog 13 #[.int .u8 c] w fun e w' => e = .returned (.bool (letB c)) ∧ w' = w := by
  go_enter Try.func13, Try.ntmps13
  go_wp2_with (go_at_call 24; refine (letter_any c h0 h1 _).mono ?_; rintro e w' ⟨rfl, rfl⟩)
  go_ret
  exact ⟨rfl, rfl⟩

theorem fold_all : ∀ k : Fin 256, (letB (k.val : Int) == decide ((bits BinOp.or IntKind.u8 (k.val : Int) 32 - 97) % 256 < 26)) = true := by decide +kernel
theorem flip_all : ∀ k : Fin 256, (0 ≤ bits BinOp.xor IntKind.u8 (k.val : Int) 32 ∧ bits BinOp.xor IntKind.u8 (k.val : Int) 32 ≤ 255) ∧ letB (bits BinOp.xor IntKind.u8 (k.val : Int) 32) = letB (k.val : Int) := by decide +kernel
theorem by_byte {p : Int → Prop} (h : ∀ k : Fin 256, p (k.val : Int)) (c : Int) (h0 : 0 ≤ c) (h1 : c ≤ 255) : p c := by
  have := h ⟨c.toNat, by omega⟩
  have e : ((c.toNat : Nat) : Int) = c := by omega
  rwa [e] at this
theorem fold_law (c : Int) (h0 : 0 ≤ c) (h1 : c ≤ 255) : (letB c == decide ((bits BinOp.or IntKind.u8 c 32 - 97) % 256 < 26)) = true :=
  by_byte (p := fun c => (letB c == decide ((bits BinOp.or IntKind.u8 c 32 - 97) % 256 < 26)) = true) fold_all c h0 h1
theorem flip_law (c : Int) (h0 : 0 ≤ c) (h1 : c ≤ 255) : (0 ≤ bits BinOp.xor IntKind.u8 c 32 ∧ bits BinOp.xor IntKind.u8 c 32 ≤ 255) ∧ letB (bits BinOp.xor IntKind.u8 c 32) = letB c :=
  by_byte (p := fun c => (0 ≤ bits BinOp.xor IntKind.u8 c 32 ∧ bits BinOp.xor IntKind.u8 c 32 ≤ 255) ∧ letB (bits BinOp.xor IntKind.u8 c 32) = letB c) flip_all c h0 h1


/-- the alphabet's k-th letter -/
def alphN (k : Nat) : Int := if k < 26 then 65 + k else 71 + k
theorem alph_size : (ByteArray.mk #[65, 66, 67, 68, 69, 70, 71, 72, 73, 74, 75, 76, 77, 78, 79, 80, 81, 82, 83, 84, 85, 86, 87, 88, 89, 90, 97, 98, 99, 100, 101, 102, 103, 104, 105, 106, 107, 108, 109, 110, 111, 112, 113, 114, 115, 116, 117, 118, 119, 120, 121, 122]).size = 52 := by decide +kernel
theorem alph_all : ∀ k : Fin 52, (((ByteArray.mk #[65, 66, 67, 68, 69, 70, 71, 72, 73, 74, 75, 76, 77, 78, 79, 80, 81, 82, 83, 84, 85, 86, 87, 88, 89, 90, 97, 98, 99, 100, 101, 102, 103, 104, 105, 106, 107, 108, 109, 110, 111, 112, 113, 114, 115, 116, 117, 118, 119, 120, 121, 122])[k.val]'(by rw [alph_size]; exact k.isLt)).toNat : Int) = alphN k.val := by decide +kernel
theorem alph_at (k : Nat) (hk : k < 52) (h : k < (ByteArray.mk #[65, 66, 67, 68, 69, 70, 71, 72, 73, 74, 75, 76, 77, 78, 79, 80, 81, 82, 83, 84, 85, 86, 87, 88, 89, 90, 97, 98, 99, 100, 101, 102, 103, 104, 105, 106, 107, 108, 109, 110, 111, 112, 113, 114, 115, 116, 117, 118, 119, 120, 121, 122]).size) : (((ByteArray.mk #[65, 66, 67, 68, 69, 70, 71, 72, 73, 74, 75, 76, 77, 78, 79, 80, 81, 82, 83, 84, 85, 86, 87, 88, 89, 90, 97, 98, 99, 100, 101, 102, 103, 104, 105, 106, 107, 108, 109, 110, 111, 112, 113, 114, 115, 116, 117, 118, 119, 120, 121, 122])[k]'h).toNat : Int) = alphN k := alph_all ⟨k, hk⟩
/-- is c one of the alphabet's first k letters? -/
def lst (c : Int) : Nat → Bool
  | 0 => false
  | k + 1 => lst c k || alphN k == c
theorem lst_all : ∀ k : Fin 256, lst (k.val : Int) 52 = letB (k.val : Int) := by decide +kernel
theorem lst_law (c : Int) (h0 : 0 ≤ c) (h1 : c ≤ 255) : lst c 52 = letB c := by_byte (p := fun c => lst c 52 = letB c) lst_all c h0 h1
theorem lst_hit {c : Int} {k : Nat} (h : (alphN k == c) = true) : true = lst c (k + 1) := by simp only [lst, h, Bool.or_true]
theorem lst_miss {c : Int} {k : Nat} (h : (alphN k == c) = false) : lst c k = lst c (k + 1) := by simp only [lst, h, Bool.or_false]
end Go.Proofs.Qxb6612179a
