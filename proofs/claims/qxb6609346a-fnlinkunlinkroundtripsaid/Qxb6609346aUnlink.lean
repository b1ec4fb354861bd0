/-
  unlink, where the slot is its list's first.
-/
import Derived.Test.Qxb6609346aLink2
namespace Go.Proofs.Qxb6609346a
set_option linter.unusedVariables false
open Go.ChangeShapes Go.WideShapes Go.ChangeAt Go.RowKit

/-- a word with bit r cleared -/
def clrW (x : Int) (r : Nat) : Int := bits BinOp.andNot IntKind.u64 x (IntKind.u64.wrap (2 ^ r))

set_option maxRecDepth 10000 in
set_option maxHeartbeats 1000000 in
theorem unlink_none (q hb kb o id n : Nat) (hn : n ≤ 35184372088832) (fl wd : Int) (f1 : 0 ≤ fl) (f2 : fl ≤ 32768) (v : Int) (w : World)
    (hs : Calls Try.prog 18 #[.pointer (some ⟨q, 0, none⟩), .int .i32 id] w fun e w' => e = .returned (.pointer (some ⟨kb, o, none⟩)) ∧ w' = w)
    (hq1 : q ≠ kb) (hq2 : q ≠ hb) (hq3 : kb ≠ hb)
    (c6 : w.cell? ⟨q, 6, none⟩ = some (.int .i64 fl)) (c7 : w.cell? ⟨q, 7, none⟩ = some (.slice (some ⟨hb, 0, none⟩) 32768 32768)) (c8 : w.cell? ⟨q, 8 + n % 32768 / 64, none⟩ = some (.int .u64 wd))
    (fq : ∀ o, w.frozen? ⟨q, o, none⟩ = false) (fh : ∀ o, w.frozen? ⟨hb, o, none⟩ = false)
    (ca : w.cell? ⟨kb, o + 2, none⟩ = some (.int .i32 (-1))) (cx : w.cell? ⟨kb, o + 3, none⟩ = some (.int .i32 (-1))) (ch : w.cell? ⟨hb, n % 32768, none⟩ = some (.int .i32 v)) :
    Calls Try.prog 19 #[.pointer (some ⟨q, 5, none⟩), .pointer (some ⟨q, 0, none⟩), .int .i32 id, .int .i64 n] w fun e w' => e = .returned (.tuple #[]) ∧
      w' = (((w.setCell ⟨hb, n % 32768, none⟩ (.int .i32 (-1))).setCell ⟨q, 8 + n % 32768 / 64, none⟩ (.int .u64 (clrW wd (n % 64)))).setCell ⟨q, 6, none⟩ (.int .i64 (fl - 1))).drew.drew := by
  have hm : ((n % 32768 : Nat) : Int) < 32768 := by omega
  have HS : Hid (Calls Try.prog 18 #[.pointer (some ⟨q, 0, none⟩), .int .i32 id] w fun e w' => e = .returned (.pointer (some ⟨kb, o, none⟩)) ∧ w' = w) := hs
  clear hs
  go_enter Try.func19, Try.ntmps19
  go_wp2_with (first | (go_at_call 22; refine (index_any n hn _).mono ?_; rintro e w1 ⟨rfl, rfl⟩) | (go_at_call 18; refine HS.out.mono ?_; rintro e w1 ⟨rfl, rfl⟩))
  go_region
  go_wp2
  go_region
  go_wp2
  go_end0
  exact ⟨rfl, rfl⟩

set_option maxRecDepth 10000 in
set_option maxHeartbeats 1000000 in
theorem unlink_far (q hb kb o kb' o' id n h : Nat) (hn : n ≤ 35184372088832) (a' v : Int) (w : World)
    (hs : Calls Try.prog 18 #[.pointer (some ⟨q, 0, none⟩), .int .i32 id] w fun e w' => e = .returned (.pointer (some ⟨kb, o, none⟩)) ∧ w' = w)
    (hs' : Calls Try.prog 18 #[.pointer (some ⟨q, 0, none⟩), .int .i32 h] w.drew fun e w' => e = .returned (.pointer (some ⟨kb', o', none⟩)) ∧ w' = w.drew)
    (hq1 : q ≠ kb) (hq2 : q ≠ hb) (hq3 : kb ≠ hb) (hq4 : q ≠ kb') (hq5 : kb' ≠ hb) (hq6 : kb' ≠ kb)
    (c7 : w.cell? ⟨q, 7, none⟩ = some (.slice (some ⟨hb, 0, none⟩) 32768 32768))
    (fh : ∀ o, w.frozen? ⟨hb, o, none⟩ = false) (fk' : ∀ o, w.frozen? ⟨kb', o, none⟩ = false)
    (ca : w.cell? ⟨kb, o + 2, none⟩ = some (.int .i32 (-1))) (cx : w.cell? ⟨kb, o + 3, none⟩ = some (.int .i32 h)) (ca' : w.cell? ⟨kb', o' + 2, none⟩ = some (.int .i32 a')) (ch : w.cell? ⟨hb, n % 32768, none⟩ = some (.int .i32 v)) :
    Calls Try.prog 19 #[.pointer (some ⟨q, 5, none⟩), .pointer (some ⟨q, 0, none⟩), .int .i32 id, .int .i64 n] w fun e w' => e = .returned (.tuple #[]) ∧
      w' = ((w.setCell ⟨kb', o' + 2, none⟩ (.int .i32 (-1))).setCell ⟨hb, n % 32768, none⟩ (.int .i32 h)).drew.drew := by
  have hm : ((n % 32768 : Nat) : Int) < 32768 := by omega
  have hh : ((h : Int) == -1) = false := by simp
  have hh2 : ((h : Int) != -1) = true := by simp
  have HS : Hid (Calls Try.prog 18 #[.pointer (some ⟨q, 0, none⟩), .int .i32 id] w fun e w' => e = .returned (.pointer (some ⟨kb, o, none⟩)) ∧ w' = w) := hs
  clear hs
  have HS' : Hid (Calls Try.prog 18 #[.pointer (some ⟨q, 0, none⟩), .int .i32 h] w.drew fun e w' => e = .returned (.pointer (some ⟨kb', o', none⟩)) ∧ w' = w.drew) := hs'
  clear hs'
  go_enter Try.func19, Try.ntmps19
  go_wp2_with fail
  refine HS.out.mono ?_
  rintro e w2 ⟨rfl, rfl⟩
  go_wp2_with fail
  go_region_with (go_at_call 18; refine HS'.out.mono ?_; rintro e w3 ⟨rfl, hw3⟩; subst hw3)
  all_goals
    go_wp2_with (go_at_call 22; refine (index_any n hn _).mono ?_; rintro e w4 ⟨rfl, hw4⟩; subst hw4)
    go_region
    go_wp2
    go_end0
    exact ⟨rfl, rfl⟩

set_option maxRecDepth 10000 in
set_option maxHeartbeats 1000000 in
theorem unlink_near (q hb kb o o' id n h : Nat) (hn : n ≤ 35184372088832) (a' v : Int) (w : World)
    (hs : Calls Try.prog 18 #[.pointer (some ⟨q, 0, none⟩), .int .i32 id] w fun e w' => e = .returned (.pointer (some ⟨kb, o, none⟩)) ∧ w' = w)
    (hs' : Calls Try.prog 18 #[.pointer (some ⟨q, 0, none⟩), .int .i32 h] w.drew fun e w' => e = .returned (.pointer (some ⟨kb, o', none⟩)) ∧ w' = w.drew)
    (hq1 : q ≠ kb) (hq2 : q ≠ hb) (hq3 : kb ≠ hb) (ho : o + 4 ≤ o' ∨ o' + 4 ≤ o)
    (c7 : w.cell? ⟨q, 7, none⟩ = some (.slice (some ⟨hb, 0, none⟩) 32768 32768))
    (fh : ∀ o, w.frozen? ⟨hb, o, none⟩ = false) (fk' : ∀ o, w.frozen? ⟨kb, o, none⟩ = false)
    (ca : w.cell? ⟨kb, o + 2, none⟩ = some (.int .i32 (-1))) (cx : w.cell? ⟨kb, o + 3, none⟩ = some (.int .i32 h)) (ca' : w.cell? ⟨kb, o' + 2, none⟩ = some (.int .i32 a')) (ch : w.cell? ⟨hb, n % 32768, none⟩ = some (.int .i32 v)) :
    Calls Try.prog 19 #[.pointer (some ⟨q, 5, none⟩), .pointer (some ⟨q, 0, none⟩), .int .i32 id, .int .i64 n] w fun e w' => e = .returned (.tuple #[]) ∧
      w' = ((w.setCell ⟨kb, o' + 2, none⟩ (.int .i32 (-1))).setCell ⟨hb, n % 32768, none⟩ (.int .i32 h)).drew.drew := by
  have hm : ((n % 32768 : Nat) : Int) < 32768 := by omega
  have hh : ((h : Int) == -1) = false := by simp
  have hh2 : ((h : Int) != -1) = true := by simp
  have HS : Hid (Calls Try.prog 18 #[.pointer (some ⟨q, 0, none⟩), .int .i32 id] w fun e w' => e = .returned (.pointer (some ⟨kb, o, none⟩)) ∧ w' = w) := hs
  clear hs
  have HS' : Hid (Calls Try.prog 18 #[.pointer (some ⟨q, 0, none⟩), .int .i32 h] w.drew fun e w' => e = .returned (.pointer (some ⟨kb, o', none⟩)) ∧ w' = w.drew) := hs'
  clear hs'
  go_enter Try.func19, Try.ntmps19
  go_wp2_with fail
  refine HS.out.mono ?_
  rintro e w2 ⟨rfl, rfl⟩
  go_wp2_with fail
  go_region_with (go_at_call 18; refine HS'.out.mono ?_; rintro e w3 ⟨rfl, hw3⟩; subst hw3)
  all_goals
    go_wp2_with (go_at_call 22; refine (index_any n hn _).mono ?_; rintro e w4 ⟨rfl, hw4⟩; subst hw4)
    go_region
    go_wp2
    go_end0
    exact ⟨rfl, rfl⟩


/-- what unlink makes of the queue where slot id is the first of the list at index i -/
def unlinkSt (s : St) (id i : Nat) : St :=
  if s.X id = -1 then { s with filled := s.filled - 1, H := upd s.H i (-1), W := upd s.W (i / 64) (clrW (s.W (i / 64)) (i % 64)) }
  else { s with H := upd s.H i (s.X id), A := upd s.A (s.X id).toNat (-1) }

theorem Rep.unlink {B : Nat} {w : World} {L : Lay} {base : Int} {s : St} (h : Rep B w L base s) (hm : L.m ≤ 64) (id n : Nat) (hid : id < 1024 * L.m) (hn : n ≤ 35184372088832) (f1 : 0 ≤ s.filled) (f2 : s.filled ≤ 32768)
    {hb : Nat} (hh : s.hd = some hb) (hat : s.A id = -1) (hnx : s.X id = -1 ∨ ∃ g : Nat, s.X id = g ∧ g < 1024 * L.m ∧ g ≠ id) :
    Calls Try.prog 19 #[.pointer (some ⟨L.q, 5, none⟩), .pointer (some ⟨L.q, 0, none⟩), .int .i32 id, .int .i64 n] w fun e w' => e = .returned (.tuple #[]) ∧ Rep B w' L base (unlinkSt s id (n % 32768)) ∧ Below B w w' ∧ Frame L s w w' := by
  have e64 : n % 32768 % 64 = n % 64 := by omega
  have hkq := h.k_ne_q (id / 1024) (by omega)
  have hq2 := h.h_ne_q hh
  have hkh := h.k_ne_h hh (id / 1024) (by omega)
  have hBh := (h.heads hb hh).2
  have c7 : w.cell? ⟨L.q, 7, none⟩ = some (.slice (some ⟨hb, 0, none⟩) 32768 32768) := by rw [h.headsC, hh]; rfl
  have ca : w.cell? ⟨L.K (id / 1024), 1024 + id % 1024 * 4 + 2, none⟩ = some (.int .i32 (-1)) := by rw [h.atC id hid, hat]
  rcases hnx with hx | ⟨g, hx, hg, hne⟩
  · refine (unlink_none L.q hb (L.K (id / 1024)) (1024 + id % 1024 * 4) id n hn s.filled (s.W (n % 32768 / 64)) f1 f2 _ w (h.slot id hm hid) hkq hq2 hkh h.filledC c7 (h.wordC _ (by omega)) h.qF (h.hF hh) ca (by rw [h.nextC id hid, hx]) (h.headC hh _ (by omega))).mono ?_
    rintro e w' ⟨rfl, rfl⟩
    have R := (((h.setHead hh (n % 32768) (-1)).setWord (n % 32768 / 64) (clrW (s.W (n % 32768 / 64)) (n % 64))).setFilled (s.filled - 1)).drew.drew
    refine ⟨rfl, ?_, ((below_q (below_q (below_q (Below.refl B w) hBh _ _) h.geq _ _) h.geq _ _).drew).drew, fun b k1 k2 k3 k4 => by
      rw [heap_drew, heap_drew, Below.heap_setCell _ _ _ _ k2, Below.heap_setCell _ _ _ _ k2, Below.heap_setCell _ _ _ _ (k4 _ hh)]⟩
    unfold unlinkSt
    rw [if_pos hx, e64]
    exact R
  · have hKg : B ≤ L.K (g / 1024) := h.gek _ (by omega)
    have cx : w.cell? ⟨L.K (id / 1024), 1024 + id % 1024 * 4 + 3, none⟩ = some (.int .i32 g) := by rw [h.nextC id hid, hx]
    have hs' := h.drew.slot g hm hg
    have R := (((h.setAt g hg (-1)).setHead hh (n % 32768) g).drew).drew
    have fin : ∀ e w', e = .returned (.tuple #[]) ∧ w' = ((w.setCell ⟨L.K (g / 1024), 1024 + g % 1024 * 4 + 2, none⟩ (.int .i32 (-1))).setCell ⟨hb, n % 32768, none⟩ (.int .i32 g)).drew.drew →
        e = Ending.returned (.tuple #[]) ∧ Rep B w' L base (unlinkSt s id (n % 32768)) ∧ Below B w w' ∧ Frame L s w w' := by
      rintro e w' ⟨rfl, rfl⟩
      refine ⟨rfl, ?_, ((below_q (below_q (Below.refl B w) hKg _ _) hBh _ _).drew).drew, fun b k1 k2 k3 k4 => by
        rw [heap_drew, heap_drew, Below.heap_setCell _ _ _ _ (k4 _ hh), Below.heap_setCell _ _ _ _ (k3 _ (by omega))]⟩
      unfold unlinkSt
      rw [if_neg (by rw [hx]; omega), hx, show ((g : Int)).toNat = g by omega]
      exact R
    by_cases hk : L.K (g / 1024) = L.K (id / 1024)
    · have hgi : g / 1024 = id / 1024 := h.inj _ _ (by omega) (by omega) hk
      have ca' := h.atC g hg
      rw [hk] at ca' hs' fin
      exact (unlink_near L.q hb (L.K (id / 1024)) (1024 + id % 1024 * 4) (1024 + g % 1024 * 4) id n g hn (s.A g) _ w (h.slot id hm hid) hs' hkq hq2 hkh (by omega) c7 (h.hF hh) (fun o => h.kF id o hid) ca cx ca' (h.headC hh _ (by omega))).mono fin
    · exact (unlink_far L.q hb (L.K (id / 1024)) (1024 + id % 1024 * 4) (L.K (g / 1024)) (1024 + g % 1024 * 4) id n g hn (s.A g) _ w (h.slot id hm hid) hs' hkq hq2 hkh (h.k_ne_q _ (by omega)) (h.k_ne_h hh _ (by omega)) hk c7 (h.hF hh) (fun o => h.kF g o hg) ca cx (h.atC g hg) (h.headC hh _ (by omega))).mono fin

set_option maxHeartbeats 1000000 in
theorem zzunlink_walk (q id n : Nat) (w : World) (Q : World → Prop) (h : ∀ k, Calls Try.prog 19 #[.pointer (some ⟨q, 5, none⟩), .pointer (some ⟨q, 0, none⟩), .int .i32 id, .int .i64 n] (w.drewN k) fun e w' => e = .returned (.tuple #[]) ∧ Q w') :
    Calls Try.prog 14 #[.pointer (some ⟨q, 0, none⟩), .int .i32 id, .int .i64 n] w fun e w' => e = .returned (.tuple #[]) ∧ Q w' := by
  have H : Hid (∀ k, Calls Try.prog 19 #[.pointer (some ⟨q, 5, none⟩), .pointer (some ⟨q, 0, none⟩), .int .i32 id, .int .i64 n] (w.drewN k) fun e w' => e = .returned (.tuple #[]) ∧ Q w') := h
  clear h
  go_enter Try.func14, Try.ntmps14
  go_wp2
  go_region_with (go_at_call 19; refine (H.out 1).mono ?_; rintro e w1 ⟨rfl, hQ⟩)
  all_goals
    go_end0
    exact ⟨rfl, hQ⟩
theorem Rep.zzunlink {B : Nat} {w : World} {L : Lay} {base : Int} {s : St} (h : Rep B w L base s) (hm : L.m ≤ 64) (id n : Nat) (hid : id < 1024 * L.m) (hn : n ≤ 35184372088832) (f1 : 0 ≤ s.filled) (f2 : s.filled ≤ 32768)
    {hb : Nat} (hh : s.hd = some hb) (hat : s.A id = -1) (hnx : s.X id = -1 ∨ ∃ g : Nat, s.X id = g ∧ g < 1024 * L.m ∧ g ≠ id) :
    Calls Try.prog 14 #[.pointer (some ⟨L.q, 0, none⟩), .int .i32 id, .int .i64 n] w fun e w' => e = .returned (.tuple #[]) ∧ Rep B w' L base (unlinkSt s id (n % 32768)) ∧ Below B w w' ∧ Frame L s w w' :=
  zzunlink_walk L.q id n w (fun w' => Rep B w' L base (unlinkSt s id (n % 32768)) ∧ Below B w w' ∧ Frame L s w w') fun k => by
    refine ((h.drewN k).unlink hm id n hid hn f1 f2 hh hat hnx).mono ?_
    rintro e w' ⟨he, hR, hb, hf⟩
    exact ⟨he, hR, (below_drewN B w k).trans hb, fun b k1 k2 k3 k4 => by rw [hf b (by rw [size_drewN]; exact k1) k2 k3 k4, heap_drewN]⟩
end Go.Proofs.Qxb6609346a
