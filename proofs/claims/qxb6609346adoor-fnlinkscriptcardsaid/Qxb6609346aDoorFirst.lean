/-
  first: TrailingZeros64, the search over the bitmap, and that it finds the least filled bucket.
-/
import Derived.Test.Qxb6609346aDoorScript
import Derived.Test.Qxb6609346aDoorFar
import Derived.Lib.TrailingZeros
import Derived.Deep.LoopGhost
namespace Go.Proofs.Qxb6609346aDoor
open Go.ChangeShapes Go.WideShapes Go.ChangeAt Go.RowKit

theorem mask_int (n : Int) : bits .and .i64 n 32767 = n % 32768 := by
  show IntKind.i64.wrap ((BitVec.ofInt 64 n &&& BitVec.ofInt 64 32767).toNat : Int) = _
  have e2 : (BitVec.ofInt 64 (32767 : Int)).toNat = 32767 := by decide
  rw [BitVec.toNat_and, e2, show ((BitVec.ofInt 64 n).toNat &&& 32767) = (BitVec.ofInt 64 n).toNat % 32768 from Nat.and_two_pow_sub_one_eq_mod _ 15, BitVec.toNat_ofInt, IntKind.wrap_i64]
  omega

set_option maxHeartbeats 400000 in
theorem index_int (n : Int) (w : World) :
    Calls Tryd.prog 16 #[.int .i64 n] w fun e w' => e = .returned (.int .i64 (n % 32768)) ∧ w' = w := by
  have hb := mask_int n
  go_enter Tryd.func16, Tryd.ntmps16
  go_wp2
  go_ret
  exact ⟨rfl, rfl⟩

/-- the table in its variable -/
def TabAt (w : World) : Prop := ∀ j, j < 64 → w.cell? ⟨0, j, none⟩ = some (.int .u8 (Lib.deBruijn64tab.getD j 0))

set_option maxHeartbeats 1000000 in
theorem tz_core (x k idx : Nat) (w : World) (hx0 : ((x : Int) == 0) = false)
    (key : IntKind.u64.wrap (bits BinOp.and IntKind.u64 (x : Int) (IntKind.u64.wrap (-(x : Int))) * 285870213051353865) / 288230376151711744 = (idx : Int))
    (hi : idx < 64) (hk : k < 64) (hcell : w.cell? ⟨0, idx, none⟩ = some (.int .u8 k)) :
    Calls Tryd.prog 17 #[.int .u64 x] w fun e w' => e = .returned (.int .i64 k) ∧ w' = w := by
  go_enter Tryd.func17, Tryd.ntmps17
  go_wp2_with (simp only [key])
  go_ret
  exact ⟨rfl, rfl⟩
theorem tz_key (x a : Nat) (hx : x < 18446744073709551616) (hx0 : x ≠ 0) (hlow : x &&& (18446744073709551616 - x) = a) :
    IntKind.u64.wrap (bits BinOp.and IntKind.u64 (x : Int) (IntKind.u64.wrap (-(x : Int))) * 285870213051353865) / 288230376151711744 = ((a * 285870213051353865 % 18446744073709551616 / 288230376151711744 : Nat) : Int) := by
  have e1 : IntKind.u64.wrap (-(x : Int)) = ((18446744073709551616 - x : Nat) : Int) := by rw [IntKind.wrap_u64]; omega
  rw [e1, bits_and_u64_nat x _ hx (by omega), hlow, IntKind.wrap_u64]
  omega
theorem tz_any (x : Nat) (hx : x < 18446744073709551616) (hx0 : x ≠ 0) (w : World) (hT : TabAt w) :
    Calls Tryd.prog 17 #[.int .u64 x] w fun e w' => e = .returned (.int .i64 (Lib.ctz 64 x)) ∧ w' = w := by
  obtain ⟨hlow, hk⟩ := Lib.lowest_bit 64 x hx0 (by omega)
  obtain ⟨hi, htab⟩ := Lib.deBruijn64_at _ hk
  refine tz_core x _ _ w (by simp; omega) (tz_key x _ hx hx0 (by rw [← hlow])) hi hk ?_
  rw [hT _ hi, htab]

/-- the word that the search looks at in its d-th step, from bucket b's word on -/
def wd (x : Nat → Nat) (b d : Nat) : Nat := if d = 0 then x (b % 32768 / 64) / 2 ^ (b % 64) * 2 ^ (b % 64) else x ((b % 32768 / 64 + d) % 512)
theorem wd_lt (x : Nat → Nat) (hx : ∀ j, x j < 18446744073709551616) (b d : Nat) : wd x b d < 18446744073709551616 := by
  unfold wd
  split
  · exact Nat.lt_of_le_of_lt (Nat.div_mul_le_self _ _) (hx _)
  · exact hx _
theorem wd_zero (x : Nat → Nat) (hx : ∀ j, x j < 18446744073709551616) (b : Nat) : IntKind.u64.wrap ((x (b % 32768 / 64) : Int) / 2 ^ (b % 64) * 2 ^ (b % 64)) = ((wd x b 0 : Nat) : Int) := by
  have h := wd_lt x hx b 0
  have e : (x (b % 32768 / 64) : Int) / 2 ^ (b % 64) * 2 ^ (b % 64) = ((wd x b 0 : Nat) : Int) := by simp [wd]
  rw [e, IntKind.wrap_u64]
  omega
theorem wd_succ (x : Nat → Nat) (b d : Nat) : wd x b (d + 1) = x ((b % 32768 / 64 + (d + 1)) % 512) := by simp [wd]

set_option maxRecDepth 10000 in
set_option maxHeartbeats 1000000 in
theorem first_walk (q b : Nat) (hb : b ≤ 8796093022207) (fl : Int) (hf : (fl == 0) = false) (x : Nat → Nat) (hx : ∀ j, x j < 18446744073709551616) (w : World) (hT : TabAt w)
    (c5 : w.cell? ⟨q, 5, none⟩ = some (.int .i64 b)) (c6 : w.cell? ⟨q, 6, none⟩ = some (.int .i64 fl)) (c8 : ∀ j, j < 512 → w.cell? ⟨q, 8 + j, none⟩ = some (.int .u64 (x j)))
    (D : Nat) (hD : D ≤ 512) (hne : wd x b D ≠ 0) (hz : ∀ d, d < D → wd x b d = 0) :
    Calls Tryd.prog 15 #[.pointer (some ⟨q, 5, none⟩)] w fun e w' => (∃ v : Int, e = .returned (.tuple #[.int .i64 v, .bool true]) ∧ v = (b : Int) + (((((b % 32768 / 64 + D) % 512 * 64 + Lib.ctz 64 (wd x b D) : Nat) : Int) - (b : Int)) % 32768)) ∧ ∃ k, w' = w.drewN k := by
  have c80 := c8 (b % 32768 / 64) (by omega)
  have HX := wd_zero x hx b
  have HT : Hid (TabAt w) := hT
  have HZ : Hid (∀ d, d < D → wd x b d = 0) := hz
  have H8 : Hid (∀ j, j < 512 → w.cell? ⟨q, 8 + j, none⟩ = some (.int .u64 (x j))) := c8
  clear hT hz c8
  go_enter Tryd.func15, Tryd.ntmps15
  go_wp2_with (go_at_call 16; refine (index_any b (by omega) _).mono ?_; rintro e w1 ⟨rfl, hw1⟩; subst hw1)
  clear HX c80
  go_loopg [5, 6] D (fun gk i v wr => wr = w1 ∧ ∃ d j : Nat, d + gk = D ∧ j = (b % 32768 / 64 + d) % 512 ∧ i = .int .i64 j ∧ v = .int .u64 (wd x b d))
  case atStart => exact ⟨rfl, 0, b % 32768 / 64, by omega, by omega, by go_num, by rw [wd_zero x hx b]⟩
  case round =>
    obtain ⟨rfl, d, j, hd, hjd, rfl, rfl⟩ := hrel
    have HJ : Hid (j = (b % 32768 / 64 + d) % 512) := hjd
    have hj : j < 512 := by rw [hjd]; exact Nat.mod_lt _ (by omega)
    clear hjd
    by_cases hlt : d < D
    · have hw0 : wd x b d = 0 := HZ.out d hlt
      have hw0' : (((wd x b d : Nat) : Int) == 0) = true := by rw [hw0]; rfl
      have c8 := H8.out ((j + 1) % 512) (by omega)
      have ews : Hid (wd x b (d + 1) = x ((j + 1) % 512)) := by
        have := wd_succ x b d
        rw [show (b % 32768 / 64 + (d + 1)) % 512 = (j + 1) % 512 by have := HJ.out; omega] at this
        exact this
      clear hw0
      go_wp2
      go_roundg (gk - 1)
      case measure => omega
      case rel => exact ⟨rfl, d + 1, (j + 1) % 512, by omega, by have := HJ.out; omega, by go_num, by rw [ews.out]⟩
    · obtain rfl : d = D := by omega
      have hw0' : (((wd x b d : Nat) : Int) == 0) = false := by simp; omega
      have hwl := wd_lt x hx b d
      have HK : Hid (Calls Tryd.prog 17 #[.int .u64 (wd x b d)] wr fun e w' => e = .returned (.int .i64 (Lib.ctz 64 (wd x b d))) ∧ w' = wr) := tz_any _ hwl hne wr HT.out
      have hct : Lib.ctz 64 (wd x b d) < 64 := (Lib.lowest_bit 64 _ hne (by omega)).2
      generalize hc : Lib.ctz 64 (wd x b d) = c at *
      have HC : Hid (Lib.ctz 64 (wd x b d) = c) := hc
      clear hc hwl hne
      go_wp2_with (go_at_call 17; refine HK.out.mono ?_; rintro e w2 ⟨rfl, hw2⟩; subst hw2)
      go_quiet ((go_at_call 16; exact Calls.quiet_of_same (index_int _ _)))
      go_wp2
      go_ret2
      exact ⟨⟨_, rfl, by rw [HC.out]; have := HJ.out; omega⟩, _, rfl⟩

/-! ### The plain law of the search -/
theorem ctz_bit (x : Nat) (hx : x < 18446744073709551616) (h0 : x ≠ 0) : x.testBit (Lib.ctz 64 x) = true ∧ ∀ r, r < Lib.ctz 64 x → x.testBit r = false := by
  unfold Lib.ctz
  rw [if_neg h0]
  obtain ⟨m, hm, _⟩ := Lib.ctzFrom_spec 64 x (by omega) (by omega)
  generalize Lib.ctzFrom 64 x = c at *
  rw [hm, Nat.mul_comm]
  refine ⟨?_, fun r hr => ?_⟩
  · rw [Nat.testBit_mul_two_pow]
    simp [Nat.testBit_zero]
  · rw [Nat.testBit_mul_two_pow]
    simp
    intro h
    omega
theorem wd0_bit (x : Nat → Nat) (b r : Nat) : (wd x b 0).testBit r = (decide (b % 64 ≤ r) && (x (b % 32768 / 64)).testBit r) := by
  simp only [wd, if_true]
  rw [Nat.testBit_mul_two_pow]
  by_cases h : b % 64 ≤ r
  · rw [Nat.testBit_div_two_pow]
    simp only [h, decide_true, Bool.true_and]
    rw [show r - b % 64 + b % 64 = r by omega]
  · simp [h]
theorem least_of {p : Nat → Prop} : ∀ n, p n → ∃ d, d ≤ n ∧ p d ∧ ∀ e, e < d → ¬ p e
  | 0, h => ⟨0, Nat.le_refl _, h, fun e he => by omega⟩
  | n + 1, h => by
    by_cases hp : ∃ m, m ≤ n ∧ p m
    · obtain ⟨m, hm, hpm⟩ := hp
      obtain ⟨d, hd, hpd, hmin⟩ := least_of m hpm
      exact ⟨d, by omega, hpd, hmin⟩
    · exact ⟨n + 1, Nat.le_refl _, h, fun e he hpe => hp ⟨e, by omega, hpe⟩⟩

/-- the words of the bitmap say which indices hold a timer -/
def WOk (s : St) : Prop := ∀ j, ∃ x : Nat, x < 18446744073709551616 ∧ s.W j = x ∧ ∀ r, r < 64 → (x.testBit r = true ↔ s.H (64 * j + r) ≠ -1)

theorem search_law (x : Nat → Nat) (hx : ∀ j, x j < 18446744073709551616) (Hp : Nat → Prop) (hbit : ∀ j, j < 512 → ∀ r, r < 64 → ((x j).testBit r = true ↔ Hp (64 * j + r))) (b : Nat) (hex : ∃ p, p < 32768 ∧ Hp p) :
    ∃ D, D ≤ 512 ∧ wd x b D ≠ 0 ∧ (∀ d, d < D → wd x b d = 0) ∧ ∃ off, off < 32768 ∧ Hp ((b + off) % 32768) ∧ (∀ o, o < off → ¬ Hp ((b + o) % 32768)) ∧
      (b : Int) + (((((b % 32768 / 64 + D) % 512 * 64 + Lib.ctz 64 (wd x b D) : Nat) : Int) - (b : Int)) % 32768) = ((b + off : Nat) : Int) := by
  have wbit : ∀ e rr, rr < 64 → (e = 0 → b % 64 ≤ rr) → ((wd x b e).testBit rr = true ↔ Hp (64 * ((b % 32768 / 64 + e) % 512) + rr)) := by
    intro e rr hrr he
    by_cases h0 : e = 0
    · subst h0
      rw [wd0_bit]
      simp only [he rfl, decide_true, Bool.true_and]
      rw [hbit _ (by omega) rr hrr, show (b % 32768 / 64 + 0) % 512 = b % 32768 / 64 by omega]
    · have : wd x b e = x ((b % 32768 / 64 + e) % 512) := by simp [wd, h0]
      rw [this, hbit _ (by omega) rr hrr]
  have hne : ∃ n, n ≤ 512 ∧ wd x b n ≠ 0 := by
    obtain ⟨p, hp, hHp⟩ := hex
    by_cases hc : p / 64 = b % 32768 / 64 ∧ b % 64 ≤ p % 64
    · refine ⟨0, by omega, fun h => ?_⟩
      have := (wbit 0 (p % 64) (by omega) (fun _ => hc.2)).2 (by rw [show 64 * ((b % 32768 / 64 + 0) % 512) + p % 64 = p by omega]; exact hHp)
      rw [h] at this
      simp at this
    · have hq : ∃ e, 0 < e ∧ e ≤ 512 ∧ (b % 32768 / 64 + e) % 512 = p / 64 := by
        by_cases h1 : b % 32768 / 64 < p / 64
        · exact ⟨p / 64 - b % 32768 / 64, by omega, by omega, by omega⟩
        · exact ⟨p / 64 + 512 - b % 32768 / 64, by omega, by omega, by omega⟩
      obtain ⟨e, he0, he1, he2⟩ := hq
      refine ⟨e, he1, fun h => ?_⟩
      have := (wbit e (p % 64) (by omega) (fun h => by omega)).2 (by rw [he2, show 64 * (p / 64) + p % 64 = p by omega]; exact hHp)
      rw [h] at this
      simp at this
  obtain ⟨n, hn, hw⟩ := hne
  obtain ⟨D, hD, hDne, hmin⟩ := least_of (p := fun d => wd x b d ≠ 0) n hw
  have hz : ∀ d, d < D → wd x b d = 0 := fun d hd => by
    have := hmin d hd
    omega
  have hDl := wd_lt x hx b D
  obtain ⟨hc1, hc2⟩ := ctz_bit (wd x b D) hDl hDne
  have hc64 : Lib.ctz 64 (wd x b D) < 64 := (Lib.lowest_bit 64 _ hDne (by omega)).2
  refine ⟨D, by omega, hDne, hz, ?_⟩
  generalize Lib.ctz 64 (wd x b D) = c at *
  have hge : D = 0 → b % 64 ≤ c := by
    rintro rfl
    rw [wd0_bit] at hc1
    simp at hc1
    exact hc1.1
  have hlt : 64 * D + c - b % 64 < 32768 := by
    by_cases h : D = 512
    · have : c < b % 64 := by
        rcases Nat.lt_or_ge c (b % 64) with h1 | h1
        · exact h1
        · exfalso
          have h2 := (wbit D c hc64 (fun h => by omega)).1 hc1
          have h3 := (wbit 0 c hc64 (fun _ => h1)).2 (by rw [show (b % 32768 / 64 + 0) % 512 = (b % 32768 / 64 + D) % 512 by omega]; exact h2)
          rw [hz 0 (by omega)] at h3
          simp at h3
      omega
    · omega
  refine ⟨64 * D + c - b % 64, hlt, ?_, fun o ho hHo => ?_, ?_⟩
  · have := (wbit D c hc64 hge).1 hc1
    rw [show 64 * ((b % 32768 / 64 + D) % 512) + c = (b + (64 * D + c - b % 64)) % 32768 by omega] at this
    exact this
  · have e1 : 64 * ((b % 32768 / 64 + (b % 64 + o) / 64) % 512) + (b % 64 + o) % 64 = (b + o) % 32768 := by omega
    have h2 := (wbit ((b % 64 + o) / 64) ((b % 64 + o) % 64) (by omega) (fun h => by omega)).2 (by rw [e1]; exact hHo)
    by_cases h3 : (b % 64 + o) / 64 < D
    · rw [hz _ h3] at h2
      simp at h2
    · have h4 : (b % 64 + o) / 64 = D := by omega
      rw [h4, hc2 _ (by omega)] at h2
      cases h2
  · omega

theorem Rep.first {B : Nat} {w : World} {L : Lay} {b : Nat} {s : St} (h : Rep B w L b s) (hb : b ≤ 8796093022207) (hw : WOk s) (hT : TabAt w) (hf : s.filled ≠ 0) (hex : ∃ p, p < 32768 ∧ s.H p ≠ -1) :
    Calls Tryd.prog 15 #[.pointer (some ⟨L.q, 5, none⟩)] w fun e w' => (∃ off : Nat, off < 32768 ∧ e = .returned (.tuple #[.int .i64 ((b + off : Nat) : Int), .bool true]) ∧ s.H ((b + off) % 32768) ≠ -1 ∧ ∀ o, o < off → s.H ((b + o) % 32768) = -1) ∧ ∃ k, w' = w.drewN k := by
  obtain ⟨x, hx⟩ : ∃ x : Nat → Nat, ∀ j, x j < 18446744073709551616 ∧ s.W j = x j ∧ ∀ r, r < 64 → ((x j).testBit r = true ↔ s.H (64 * j + r) ≠ -1) :=
    ⟨fun j => Classical.choose (hw j), fun j => Classical.choose_spec (hw j)⟩
  obtain ⟨D, hD, hne, hz, off, hoff, h1, h2, h3⟩ := search_law x (fun j => (hx j).1) (fun p => s.H p ≠ -1) (fun j _ r hr => (hx j).2.2 r hr) b hex
  obtain ⟨J, hr, _, h5, _⟩ := h.row
  refine (first_walk L.q b hb s.filled (by simpa using hf) x (fun j => (hx j).1) w hT (by rw [hr.cell (by omega), h5]) h.filledC (fun j hj => by rw [h.wordC j hj, (hx j).2.1]) D hD hne hz).mono ?_
  rintro e w' ⟨⟨v, rfl, hv⟩, hk⟩
  refine ⟨⟨off, hoff, by rw [hv, h3], h1, fun o ho => ?_⟩, hk⟩
  have := h2 o ho
  omega
set_option maxHeartbeats 400000 in
theorem first_empty (q : Nat) (w : World) (c6 : w.cell? ⟨q, 6, none⟩ = some (.int .i64 0)) :
    Calls Tryd.prog 15 #[.pointer (some ⟨q, 5, none⟩)] w fun e w' => e = .returned (.tuple #[.int .i64 0, .bool false]) ∧ w' = w := by
  go_enter Tryd.func15, Tryd.ntmps15
  go_wp2
  go_ret2
  exact ⟨rfl, rfl⟩
set_option maxHeartbeats 400000 in
theorem zzfirst_walk (q : Nat) (w : World) (Q : Ending → World → Prop) (v : Int) (ok : Bool) (h : Calls Tryd.prog 15 #[.pointer (some ⟨q, 5, none⟩)] w fun e w' => e = .returned (.tuple #[.int .i64 v, .bool ok]) ∧ Q e w') :
    Calls Tryd.prog 11 #[.pointer (some ⟨q, 0, none⟩)] w fun e w' => e = .returned (.tuple #[.int .i64 v, .bool ok]) ∧ Q e w' := by
  have H : Hid (Calls Tryd.prog 15 #[.pointer (some ⟨q, 5, none⟩)] w fun e w' => e = .returned (.tuple #[.int .i64 v, .bool ok]) ∧ Q e w') := h
  clear h
  go_enter Tryd.func11, Tryd.ntmps11
  go_wp2_with (go_at_call 15; refine H.out.mono ?_; rintro e w1 ⟨rfl, hQ⟩)
  go_ret2
  exact ⟨rfl, hQ⟩
set_option maxHeartbeats 400000 in
theorem zzfirst_some (q : Nat) (w : World) (R : Int → Prop) (h : Calls Tryd.prog 15 #[.pointer (some ⟨q, 5, none⟩)] w fun e w' => (∃ v : Int, e = .returned (.tuple #[.int .i64 v, .bool true]) ∧ R v) ∧ ∃ k, w' = w.drewN k) :
    Calls Tryd.prog 11 #[.pointer (some ⟨q, 0, none⟩)] w fun e w' => (∃ v : Int, e = .returned (.tuple #[.int .i64 v, .bool true]) ∧ R v) ∧ ∃ k, w' = w.drewN k := by
  have H : Hid (Calls Tryd.prog 15 #[.pointer (some ⟨q, 5, none⟩)] w fun e w' => (∃ v : Int, e = .returned (.tuple #[.int .i64 v, .bool true]) ∧ R v) ∧ ∃ k, w' = w.drewN k) := h
  clear h
  go_enter Tryd.func11, Tryd.ntmps11
  go_wp2_with (go_at_call 15; refine H.out.mono ?_; rintro e w1 ⟨⟨v, rfl, hR⟩, k, rfl⟩)
  go_ret2
  exact ⟨⟨v, rfl, hR⟩, k, rfl⟩
theorem Rep.zzfirst {B : Nat} {w : World} {L : Lay} {b : Nat} {s : St} (h : Rep B w L b s) (hb : b ≤ 8796093022207) (hw : WOk s) (hT : TabAt w) (hf : s.filled ≠ 0) (hex : ∃ p, p < 32768 ∧ s.H p ≠ -1) :
    Calls Tryd.prog 11 #[.pointer (some ⟨L.q, 0, none⟩)] w fun e w' => (∃ v : Int, e = .returned (.tuple #[.int .i64 v, .bool true]) ∧ ∃ off : Nat, off < 32768 ∧ v = ((b + off : Nat) : Int) ∧ s.H ((b + off) % 32768) ≠ -1 ∧ ∀ o, o < off → s.H ((b + o) % 32768) = -1) ∧ ∃ k, w' = w.drewN k :=
  zzfirst_some L.q w _ ((h.first hb hw hT hf hex).mono fun _ _ ⟨⟨off, h1, h2, h3, h4⟩, hk⟩ => ⟨⟨_, h2, off, h1, rfl, h3, h4⟩, hk⟩)
theorem Rep.zzfirst0 {B : Nat} {w : World} {L : Lay} {b : Nat} {s : St} (h : Rep B w L b s) (hf : s.filled = 0) :
    Calls Tryd.prog 11 #[.pointer (some ⟨L.q, 0, none⟩)] w fun e w' => e = .returned (.tuple #[.int .i64 0, .bool false]) ∧ w' = w :=
  zzfirst_walk L.q w (fun _ w' => w' = w) 0 false (first_empty L.q w (by rw [h.filledC, hf]))
end Go.Proofs.Qxb6609346aDoor
