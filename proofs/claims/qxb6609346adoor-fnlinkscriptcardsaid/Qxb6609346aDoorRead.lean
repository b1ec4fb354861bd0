/-
  The readers: index, slot, head, and the four thin callers that read.
-/
import Derived.Test.Qxb6609346aDoorNew
import Derived.Deep.QuietTactic
import Derived.BigQuiet
import Derived.Lib.SliceRun
namespace Go.Proofs.Qxb6609346aDoor
open Go.ChangeShapes Go.WideShapes Go.ChangeAt Go.RowKit

theorem and_i64 (a b : Nat) (ha : a < 9223372036854775808) (hb : b < 9223372036854775808) : bits .and .i64 (a : Int) (b : Int) = ((a &&& b : Nat) : Int) := by
  have hx : a &&& b < 2 ^ 63 := Nat.and_lt_two_pow _ (by omega)
  show IntKind.i64.wrap ((BitVec.ofInt 64 (a : Int) &&& BitVec.ofInt 64 (b : Int)).toNat : Int) = _
  rw [BitVec.toNat_and, ofInt_u64 a (by omega), ofInt_u64 b (by omega), IntKind.wrap_i64]
  omega
theorem and_i32 (a b : Nat) (ha : a < 2147483648) (hb : b < 2147483648) : bits .and .i32 (a : Int) (b : Int) = ((a &&& b : Nat) : Int) := by
  have hx : a &&& b < 2 ^ 31 := Nat.and_lt_two_pow _ (by omega)
  show IntKind.i32.wrap ((BitVec.ofInt 32 (a : Int) &&& BitVec.ofInt 32 (b : Int)).toNat : Int) = _
  rw [BitVec.toNat_and, ofInt_u32 a (by omega), ofInt_u32 b (by omega), IntKind.wrap_i32]
  omega
theorem mask_i64 (n : Nat) (h : n ≤ 35184372088832) : bits .and .i64 (n : Int) 32767 = ((n % 32768 : Nat) : Int) := by
  have := and_i64 n 32767 (by omega) (by omega)
  rw [show n &&& 32767 = n % 32768 from Nat.and_two_pow_sub_one_eq_mod n 15] at this
  exact this
theorem mask_i32 (n : Nat) (h : n < 65536) : bits .and .i32 (n : Int) 1023 = ((n % 1024 : Nat) : Int) := by
  have := and_i32 n 1023 (by omega) (by omega)
  rw [show n &&& 1023 = n % 1024 from Nat.and_two_pow_sub_one_eq_mod n 10] at this
  exact this

set_option maxHeartbeats 400000 in
theorem index_any (n : Nat) (h : n ≤ 35184372088832) (w : World) :
    Calls Tryd.prog 16 #[.int .i64 n] w fun e w' => e = .returned (.int .i64 ((n % 32768 : Nat) : Int)) ∧ w' = w := by
  have hb := mask_i64 n h
  go_enter Tryd.func16, Tryd.ntmps16
  go_wp2
  go_ret
  exact ⟨rfl, rfl⟩

set_option maxHeartbeats 400000 in
theorem slot_walk (q cb m cc : Nat) (id : Nat) (kb : Nat) (hm : m ≤ 64) (hid : id < 1024 * m) (w : World) (h0 : w.cell? ⟨q, 0, none⟩ = some (.slice (some ⟨cb, 0, none⟩) m cc))
    (h1 : w.cell? ⟨cb, id / 1024, none⟩ = some (.pointer (some ⟨kb, 0, none⟩))) :
    Calls Tryd.prog 13 #[.pointer (some ⟨q, 0, none⟩), .int .i32 id] w fun e w' => e = .returned (.pointer (some ⟨kb, 1024 + id % 1024 * 4, none⟩)) ∧ w' = w := by
  have hb := mask_i32 id (by omega)
  go_enter Tryd.func13, Tryd.ntmps13
  go_wp2
  go_ret
  exact ⟨rfl, rfl⟩

section
variable {B : Nat} {w : World} {L : Lay} {base : Int} {s : St}
theorem Rep.slot (h : Rep B w L base s) (id : Nat) (hm : L.m ≤ 64) (hid : id < 1024 * L.m) :
    Calls Tryd.prog 13 #[.pointer (some ⟨L.q, 0, none⟩), .int .i32 id] w fun e w' => e = .returned (.pointer (some ⟨L.K (id / 1024), 1024 + id % 1024 * 4, none⟩)) ∧ w' = w := by
  obtain ⟨J, hr, h0, _⟩ := h.row
  obtain ⟨hle, J2, hr2, h2⟩ := h.slab (by omega)
  refine slot_walk L.q L.cb L.m L.cc id _ hm hid w ?_ ?_
  · rw [hr.cell (by omega), h0 (by omega)]
  · rw [hr2.cell (by omega), h2 _ (by omega)]
theorem Rep.filledC (h : Rep B w L base s) : w.cell? ⟨L.q, 6, none⟩ = some (.int .i64 s.filled) := by
  obtain ⟨J, hr, _, _, h6, _⟩ := h.row
  rw [hr.cell (by omega), h6]
theorem Rep.headsC (h : Rep B w L base s) : w.cell? ⟨L.q, 7, none⟩ = some (headsV s.hd) := by
  obtain ⟨J, hr, _, _, _, h7, _⟩ := h.row
  rw [hr.cell (by omega), h7]
theorem Rep.wordC (h : Rep B w L base s) (j : Nat) (hj : j < 512) : w.cell? ⟨L.q, 8 + j, none⟩ = some (.int .u64 (s.W j)) := by
  obtain ⟨J, hr, _, _, _, _, h8⟩ := h.row
  rw [hr.cell (by omega), h8 j hj]
theorem Rep.qF (h : Rep B w L base s) (o : Nat) : w.frozen? ⟨L.q, o, none⟩ = false := by
  obtain ⟨J, hr, _⟩ := h.row
  exact hr.frozen o
theorem Rep.atC (h : Rep B w L base s) (id : Nat) (hid : id < 1024 * L.m) : w.cell? ⟨L.K (id / 1024), 1024 + id % 1024 * 4 + 2, none⟩ = some (.int .i32 (s.A id)) := by
  obtain ⟨D, hr, h1⟩ := h.chunk (id / 1024) (by omega)
  rw [hr.cell (by omega), (h1 (id % 1024) (by omega)).1, show 1024 * (id / 1024) + id % 1024 = id by omega]
theorem Rep.nextC (h : Rep B w L base s) (id : Nat) (hid : id < 1024 * L.m) : w.cell? ⟨L.K (id / 1024), 1024 + id % 1024 * 4 + 3, none⟩ = some (.int .i32 (s.X id)) := by
  obtain ⟨D, hr, h1⟩ := h.chunk (id / 1024) (by omega)
  rw [hr.cell (by omega), (h1 (id % 1024) (by omega)).2, show 1024 * (id / 1024) + id % 1024 = id by omega]
theorem Rep.kF (h : Rep B w L base s) (id o : Nat) (hid : id < 1024 * L.m) : w.frozen? ⟨L.K (id / 1024), o, none⟩ = false := by
  obtain ⟨D, hr, h1⟩ := h.chunk (id / 1024) (by omega)
  exact hr.frozen o
theorem Rep.headC (h : Rep B w L base s) {hb : Nat} (hh : s.hd = some hb) (i : Nat) (hi : i < 32768) : w.cell? ⟨hb, i, none⟩ = some (.int .i32 (s.H i)) := (h.heads hb hh).1.cell hi
theorem Rep.hF (h : Rep B w L base s) {hb : Nat} (hh : s.hd = some hb) (o : Nat) : w.frozen? ⟨hb, o, none⟩ = false := (h.heads hb hh).1.frozen o
/-- whatever turns nothing of the queue's own -/
theorem Rep.keep (h : Rep B w L base s) {w' : World} (hsame : ∀ b, b < w.heap.size → B ≤ b → w'.heap[b]? = w.heap[b]?) (hcb : 0 < L.m → B ≤ L.cb) : Rep B w' L base s := by
  obtain ⟨J, hr, h0, h5, h6, h7, h8⟩ := h.row
  refine ⟨⟨J, hr.of_block (hsame _ hr.lt h.geq), h0, h5, h6, h7, h8⟩, fun hm => ?_, fun j hj => ?_, h.inj, fun hb hh => ?_, h.noHeads, h.geq, h.gek⟩
  · obtain ⟨hle, J2, hr2, h2⟩ := h.slab hm
    exact ⟨hle, J2, hr2.of_block (hsame _ hr2.lt (hcb hm)), h2⟩
  · obtain ⟨D, hrd, hd⟩ := h.chunk j hj
    exact ⟨D, hrd.of_block (hsame _ hrd.lt (h.gek j hj)), hd⟩
  · obtain ⟨h1, h2⟩ := h.heads hb hh
    exact ⟨h1.of_block (hsame _ h1.lt h2), h2⟩
theorem Rep.drew (h : Rep B w L base s) : Rep B w.drew L base s := ⟨h.row, h.slab, h.chunk, h.inj, h.heads, h.noHeads, h.geq, h.gek⟩
theorem Rep.drewN (h : Rep B w L base s) (n : Nat) : Rep B (w.drewN n) L base s := by
  induction n with
  | zero => exact h
  | succ n ih => exact ih.drew
/-- new blocks and stores into blocks that are none of the queue's -/
theorem Rep.alloc (h : Rep B w L base s) (o : Obj) : Rep B (w.alloc o) L base s := by
  obtain ⟨J, hr, h0, h5, h6, h7, h8⟩ := h.row
  refine ⟨⟨J, hr.alloc o, h0, h5, h6, h7, h8⟩, fun hm => ?_, fun j hj => ?_, h.inj, fun hb hh => ?_, h.noHeads, h.geq, h.gek⟩
  · obtain ⟨hle, J2, hr2, h2⟩ := h.slab hm
    exact ⟨hle, J2, hr2.alloc o, h2⟩
  · obtain ⟨D, hrd, hd⟩ := h.chunk j hj
    exact ⟨D, hrd.alloc o, hd⟩
  · obtain ⟨h1, h2⟩ := h.heads hb hh
    exact ⟨h1.alloc o, h2⟩
theorem Rep.hd_lt (h : Rep B w L base s) {hb : Nat} (hh : s.hd = some hb) : hb < w.heap.size := (h.heads hb hh).1.lt
theorem Rep.q_lt (h : Rep B w L base s) : L.q < w.heap.size := by
  obtain ⟨J, hr, _⟩ := h.row
  exact hr.lt
end

set_option maxHeartbeats 400000 in
theorem head_nil (q : Nat) (n : Nat) (w : World) (h0 : w.cell? ⟨q, 7, none⟩ = some (.slice none 0 0)) :
    Calls Tryd.prog 14 #[.pointer (some ⟨q, 5, none⟩), .int .i64 n] w fun e w' => e = .returned (.int .i32 (-1)) ∧ ∃ k, w' = w.drewN k := by
  have hnil := fun (w : World) (a : Option Addr) (n c : Nat) => Lib.run_eql_slice_nil (P := Tryd.prog) w 22 21 a n c 0 0 Tryd.underlying22
  go_enter Tryd.func14, Tryd.ntmps14
  go_wp2
  go_ret
  exact ⟨rfl, 0, rfl⟩
set_option maxHeartbeats 400000 in
theorem head_some (q hb : Nat) (n : Nat) (hn : n ≤ 35184372088832) (v : Int) (w : World) (h0 : w.cell? ⟨q, 7, none⟩ = some (.slice (some ⟨hb, 0, none⟩) 32768 32768)) (h1 : w.cell? ⟨hb, n % 32768, none⟩ = some (.int .i32 v)) :
    Calls Tryd.prog 14 #[.pointer (some ⟨q, 5, none⟩), .int .i64 n] w fun e w' => e = .returned (.int .i32 v) ∧ ∃ k, w' = w.drewN k := by
  have hnil := fun (w : World) (a : Option Addr) (n c : Nat) => Lib.run_eql_slice_nil (P := Tryd.prog) w 22 21 a n c 0 0 Tryd.underlying22
  have hm : ((n % 32768 : Nat) : Int) < 32768 := by omega
  go_enter Tryd.func14, Tryd.ntmps14
  go_wp2
  go_quiet ((go_at_call 16; exact Calls.quiet_of_same (index_any n hn _)))
  go_wp2
  go_ret
  exact ⟨rfl, _, rfl⟩

theorem Rep.head {B : Nat} {w : World} {L : Lay} {base : Int} {s : St} (h : Rep B w L base s) (n : Nat) (hn : n ≤ 35184372088832) :
    Calls Tryd.prog 14 #[.pointer (some ⟨L.q, 5, none⟩), .int .i64 n] w fun e w' => e = .returned (.int .i32 (s.H (n % 32768))) ∧ ∃ k, w' = w.drewN k := by
  have hc := h.headsC
  cases hh : s.hd with
  | none =>
    rw [hh] at hc
    rw [h.noHeads hh _ (by omega)]
    exact head_nil L.q n w hc
  | some hb =>
    rw [hh] at hc
    exact head_some L.q hb n hn _ w hc (h.headC hh _ (by omega))

set_option maxHeartbeats 400000 in
theorem zzhead_walk (q n : Nat) (v : Int) (w : World) (h : Calls Tryd.prog 14 #[.pointer (some ⟨q, 5, none⟩), .int .i64 n] w fun e w' => e = .returned (.int .i32 v) ∧ ∃ k, w' = w.drewN k) :
    Calls Tryd.prog 8 #[.pointer (some ⟨q, 0, none⟩), .int .i64 n] w fun e w' => e = .returned (.int .i32 v) ∧ ∃ k, w' = w.drewN k := by
  have H : Hid (Calls Tryd.prog 14 #[.pointer (some ⟨q, 5, none⟩), .int .i64 n] w fun e w' => e = .returned (.int .i32 v) ∧ ∃ k, w' = w.drewN k) := h
  clear h
  go_enter Tryd.func8, Tryd.ntmps8
  go_wp2_with (go_at_call 14; refine H.out.mono ?_; rintro e w' ⟨rfl, k, rfl⟩)
  go_ret
  exact ⟨rfl, k, rfl⟩
theorem Rep.zzhead {B : Nat} {w : World} {L : Lay} {base : Int} {s : St} (h : Rep B w L base s) (n : Nat) (hn : n ≤ 35184372088832) :
    Calls Tryd.prog 8 #[.pointer (some ⟨L.q, 0, none⟩), .int .i64 n] w fun e w' => e = .returned (.int .i32 (s.H (n % 32768))) ∧ ∃ k, w' = w.drewN k :=
  zzhead_walk _ _ _ _ (h.head n hn)

set_option maxHeartbeats 400000 in
theorem zzfilled_walk (q : Nat) (v : Int) (w : World) (h : w.cell? ⟨q, 6, none⟩ = some (.int .i64 v)) :
    Calls Tryd.prog 9 #[.pointer (some ⟨q, 0, none⟩)] w fun e w' => e = .returned (.int .i64 v) ∧ w' = w := by
  go_enter Tryd.func9, Tryd.ntmps9
  go_wp2
  go_ret
  exact ⟨rfl, rfl⟩
theorem Rep.zzfilled {B : Nat} {w : World} {L : Lay} {base : Int} {s : St} (h : Rep B w L base s) :
    Calls Tryd.prog 9 #[.pointer (some ⟨L.q, 0, none⟩)] w fun e w' => e = .returned (.int .i64 s.filled) ∧ w' = w := zzfilled_walk _ _ _ h.filledC

set_option maxHeartbeats 400000 in
theorem zzword_walk (q j : Nat) (v : Int) (hj : j < 512) (w : World) (h : w.cell? ⟨q, 8 + j, none⟩ = some (.int .u64 v)) :
    Calls Tryd.prog 10 #[.pointer (some ⟨q, 0, none⟩), .int .i64 j] w fun e w' => e = .returned (.int .u64 v) ∧ w' = w := by
  go_enter Tryd.func10, Tryd.ntmps10
  go_wp2
  go_ret
  exact ⟨rfl, rfl⟩
theorem Rep.zzword {B : Nat} {w : World} {L : Lay} {base : Int} {s : St} (h : Rep B w L base s) (j : Nat) (hj : j < 512) :
    Calls Tryd.prog 10 #[.pointer (some ⟨L.q, 0, none⟩), .int .i64 j] w fun e w' => e = .returned (.int .u64 (s.W j)) ∧ w' = w := zzword_walk _ _ _ hj _ (h.wordC j hj)

set_option maxHeartbeats 400000 in
theorem zzlinks_walk (q id kb o : Nat) (a x : Int) (w : World) (hs : Calls Tryd.prog 13 #[.pointer (some ⟨q, 0, none⟩), .int .i32 id] w fun e w' => e = .returned (.pointer (some ⟨kb, o, none⟩)) ∧ w' = w)
    (h2 : w.cell? ⟨kb, o + 2, none⟩ = some (.int .i32 a)) (h3 : w.cell? ⟨kb, o + 3, none⟩ = some (.int .i32 x)) :
    Calls Tryd.prog 7 #[.pointer (some ⟨q, 0, none⟩), .int .i32 id] w fun e w' => e = .returned (.tuple #[.int .i32 a, .int .i32 x]) ∧ ∃ k, w' = w.drewN k := by
  have H : Hid (Calls Tryd.prog 13 #[.pointer (some ⟨q, 0, none⟩), .int .i32 id] w fun e w' => e = .returned (.pointer (some ⟨kb, o, none⟩)) ∧ w' = w) := hs
  clear hs
  go_enter Tryd.func7, Tryd.ntmps7
  go_wp2_with (go_at_call 13; refine H.out.mono ?_; rintro e w1 ⟨rfl, hw1⟩; subst hw1)
  go_quiet (fail)
  go_wp2
  go_ret2
  exact ⟨rfl, _, rfl⟩
theorem Rep.zzlinks {B : Nat} {w : World} {L : Lay} {base : Int} {s : St} (h : Rep B w L base s) (id : Nat) (hm : L.m ≤ 64) (hid : id < 1024 * L.m) :
    Calls Tryd.prog 7 #[.pointer (some ⟨L.q, 0, none⟩), .int .i32 id] w fun e w' => e = .returned (.tuple #[.int .i32 (s.A id), .int .i32 (s.X id)]) ∧ ∃ k, w' = w.drewN k :=
  zzlinks_walk _ _ _ _ _ _ _ (h.slot id hm hid) (h.atC id hid) (h.nextC id hid)
end Go.Proofs.Qxb6609346aDoor
