/-
  link: the three ways of its walk, and what it makes of the queue.
-/
import Derived.Test.Qxb6609346aDoorRead
namespace Go.Proofs.Qxb6609346aDoor
open Go.ChangeShapes Go.WideShapes Go.ChangeAt Go.RowKit

def upd (f : Nat → Int) (i : Nat) (v : Int) : Nat → Int := fun j => if j = i then v else f j
theorem upd_same (f : Nat → Int) (i : Nat) (v : Int) : upd f i v i = v := by simp [upd]
theorem upd_other (f : Nat → Int) {i j : Nat} (v : Int) (h : j ≠ i) : upd f i v j = f j := by simp [upd, h]
/-- a word with bit r set -/
def orW (x : Int) (r : Nat) : Int := bits BinOp.or IntKind.u64 x (IntKind.u64.wrap (2 ^ r))

section
variable {B : Nat} {w : World} {L : Lay} {base : Int} {s : St}
theorem Rep.k_ne_q (h : Rep B w L base s) (j : Nat) (hj : j < L.m) : L.q ≠ L.K j := by
  obtain ⟨J, hr, _⟩ := h.row
  obtain ⟨D, hd, _⟩ := h.chunk j hj
  exact rowIs_ne hr hd (by decide)
theorem Rep.h_ne_q (h : Rep B w L base s) {hb : Nat} (hh : s.hd = some hb) : L.q ≠ hb := by
  obtain ⟨J, hr, _⟩ := h.row
  exact rowIs_ne hr (h.heads hb hh).1 (by decide)
theorem Rep.k_ne_h (h : Rep B w L base s) {hb : Nat} (hh : s.hd = some hb) (j : Nat) (hj : j < L.m) : L.K j ≠ hb := by
  obtain ⟨D, hd, _⟩ := h.chunk j hj
  exact rowIs_ne hd (h.heads hb hh).1 (by decide)
theorem Rep.cb_ne_q (h : Rep B w L base s) (hm : 0 < L.m) : L.cb ≠ L.q := by
  obtain ⟨J, hr, _⟩ := h.row
  obtain ⟨_, J2, hr2, _⟩ := h.slab hm
  exact rowIs_ne hr2 hr (by decide)
theorem Rep.cb_ne_k (h : Rep B w L base s) (hm : 0 < L.m) (j : Nat) (hj : j < L.m) : L.cb ≠ L.K j := by
  obtain ⟨_, J2, hr2, _⟩ := h.slab hm
  obtain ⟨D, hd, _⟩ := h.chunk j hj
  exact rowIs_ne hr2 hd (by decide)
theorem Rep.cb_ne_h (h : Rep B w L base s) (hm : 0 < L.m) {hb : Nat} (hh : s.hd = some hb) : L.cb ≠ hb := by
  obtain ⟨_, J2, hr2, _⟩ := h.slab hm
  exact rowIs_ne hr2 (h.heads hb hh).1 (by decide)

/-- a store into a cell of the queue's own block, other than the slab's -/
theorem Rep.setQ (h : Rep B w L base s) (o : Nat) (ho : o ≠ 0) (v : Value) (s' : St) (hA : s'.A = s.A) (hX : s'.X = s.X) (hH : s'.H = s.H) (hhd : s'.hd = s.hd)
    (h5 : o ≠ 5) (h6 : if o = 6 then v = .int .i64 s'.filled else s'.filled = s.filled) (h7 : o ≠ 7) (h8 : ∀ j, j < 512 → if 8 + j = o then v = .int .u64 (s'.W j) else s'.W j = s.W j) :
    Rep B (w.setCell ⟨L.q, o, none⟩ v) L base s' := by
  obtain ⟨J, hr, k0, k5, k6, k7, k8⟩ := h.row
  refine ⟨⟨_, hr.set o v, fun hm => ?_, ?_, ?_, ?_, fun j hj => ?_⟩, fun hm => ?_, fun j hj => ?_, h.inj, fun hb hh => ?_, fun hh => ?_, h.geq, h.gek⟩
  · show (if 0 = o then v else J 0) = _
    rw [if_neg (Ne.symm ho)]; exact k0 hm
  · show (if 5 = o then v else J 5) = _
    rw [if_neg (Ne.symm h5)]; exact k5
  · show (if 6 = o then v else J 6) = _
    by_cases e : o = 6
    · rw [if_pos e.symm]; simpa [e] using h6
    · rw [if_neg (fun e' => e e'.symm)]; rw [if_neg e] at h6; rw [k6, h6]
  · show (if 7 = o then v else J 7) = _
    rw [if_neg (Ne.symm h7), hhd]; exact k7
  · show (if 8 + j = o then v else J (8 + j)) = _
    have := h8 j hj
    by_cases e : 8 + j = o
    · rw [if_pos e] at this ⊢; exact this
    · rw [if_neg e] at this ⊢; rw [k8 j hj, this]
  · obtain ⟨hle, J2, hr2, h2⟩ := h.slab hm
    exact ⟨hle, J2, hr2.setOther (h.cb_ne_q hm) _, h2⟩
  · obtain ⟨D, hd, h1⟩ := h.chunk j hj
    rw [hA, hX]
    exact ⟨D, hd.setOther (Ne.symm (h.k_ne_q j hj)) _, h1⟩
  · rw [hhd] at hh
    obtain ⟨h1, h2⟩ := h.heads hb hh
    rw [hH]
    exact ⟨h1.setOther (Ne.symm (h.h_ne_q hh)) _, h2⟩
  · rw [hhd] at hh
    rw [hH]
    exact h.noHeads hh
theorem Rep.setFilled (h : Rep B w L base s) (v : Int) : Rep B (w.setCell ⟨L.q, 6, none⟩ (.int .i64 v)) L base { s with filled := v } :=
  h.setQ 6 (by decide) _ _ rfl rfl rfl rfl (by decide) (by simp) (by decide) (fun j hj => by rw [if_neg (by omega)])
theorem Rep.setWord (h : Rep B w L base s) (i : Nat) (v : Int) : Rep B (w.setCell ⟨L.q, 8 + i, none⟩ (.int .u64 v)) L base { s with W := upd s.W i v } :=
  h.setQ (8 + i) (by omega) _ _ rfl rfl rfl rfl (by omega) (by rw [if_neg (by omega)]) (by omega) (fun j hj => by
    by_cases e : j = i
    · subst e; rw [if_pos rfl]; show _ = Value.int .u64 (upd s.W j v j); rw [upd_same]
    · rw [if_neg (by omega)]; exact upd_other _ _ e)

theorem Rep.setHead (h : Rep B w L base s) {hb : Nat} (hh : s.hd = some hb) (i : Nat) (v : Int) : Rep B (w.setCell ⟨hb, i, none⟩ (.int .i32 v)) L base { s with H := upd s.H i v } := by
  obtain ⟨J, hr, k⟩ := h.row
  refine ⟨⟨J, hr.setOther (h.h_ne_q hh) _, k⟩, fun hm => ?_, fun j hj => ?_, h.inj, fun hb' hh' => ?_, fun hh' => ?_, h.geq, h.gek⟩
  · obtain ⟨hle, J2, hr2, h2⟩ := h.slab hm
    exact ⟨hle, J2, hr2.setOther (h.cb_ne_h hm hh) _, h2⟩
  · obtain ⟨D, hd, h1⟩ := h.chunk j hj
    exact ⟨D, hd.setOther (h.k_ne_h hh j hj) _, h1⟩
  · have hh'' : s.hd = some hb' := hh'
    rw [hh] at hh''
    injection hh'' with e
    subst e
    obtain ⟨h1, h2⟩ := h.heads hb hh
    refine ⟨(h1.set i _).congr fun j _ => ?_, h2⟩
    show (if j = i then Value.int .i32 v else .int .i32 (s.H j)) = .int .i32 (upd s.H i v j)
    by_cases e : j = i
    · rw [if_pos e, e, upd_same]
    · rw [if_neg e, upd_other _ _ e]
  · have : s.hd = none := hh'
    rw [hh] at this; cases this

theorem Rep.setK (h : Rep B w L base s) (id : Nat) (hid : id < 1024 * L.m) (o : Nat) (v : Int) (A' X' : Nat → Int)
    (hA : ∀ j, if o = 2 ∧ j = id then A' j = v else A' j = s.A j) (hX : ∀ j, if o = 3 ∧ j = id then X' j = v else X' j = s.X j) (ho : o = 2 ∨ o = 3) :
    Rep B (w.setCell ⟨L.K (id / 1024), 1024 + id % 1024 * 4 + o, none⟩ (.int .i32 v)) L base { s with A := A', X := X' } := by
  obtain ⟨J, hr, k⟩ := h.row
  refine ⟨⟨J, hr.setOther (h.k_ne_q _ (by omega)) _, k⟩, fun hm => ?_, fun j hj => ?_, h.inj, fun hb hh => ?_, h.noHeads, h.geq, h.gek⟩
  · obtain ⟨hle, J2, hr2, h2⟩ := h.slab hm
    exact ⟨hle, J2, hr2.setOther (h.cb_ne_k hm _ (by omega)) _, h2⟩
  · obtain ⟨D, hd, h1⟩ := h.chunk j hj
    by_cases e : j = id / 1024
    · subst e
      refine ⟨_, hd.set _ _, fun r hr => ?_⟩
      obtain ⟨g1, g2⟩ := h1 r hr
      have a1 := hA (1024 * (id / 1024) + r)
      have a2 := hX (1024 * (id / 1024) + r)
      refine ⟨?_, ?_⟩
      · show (if 1024 + r * 4 + 2 = 1024 + id % 1024 * 4 + o then Value.int .i32 v else D (1024 + r * 4 + 2)) = .int .i32 (A' _)
        by_cases c : 1024 + r * 4 + 2 = 1024 + id % 1024 * 4 + o
        · rw [if_pos c]; rw [if_pos (by omega)] at a1; rw [a1]
        · rw [if_neg c]; rw [if_neg (by omega)] at a1; rw [a1, g1]
      · show (if 1024 + r * 4 + 3 = 1024 + id % 1024 * 4 + o then Value.int .i32 v else D (1024 + r * 4 + 3)) = .int .i32 (X' _)
        by_cases c : 1024 + r * 4 + 3 = 1024 + id % 1024 * 4 + o
        · rw [if_pos c]; rw [if_pos (by omega)] at a2; rw [a2]
        · rw [if_neg c]; rw [if_neg (by omega)] at a2; rw [a2, g2]
    · refine ⟨D, hd.setOther (fun e' => e (h.inj j _ hj (by omega) e')) _, fun r hr => ?_⟩
      obtain ⟨g1, g2⟩ := h1 r hr
      have a1 := hA (1024 * j + r)
      have a2 := hX (1024 * j + r)
      rw [if_neg (by omega)] at a1 a2
      exact ⟨by show _ = Value.int .i32 (A' _); rw [a1]; exact g1, by show _ = Value.int .i32 (X' _); rw [a2]; exact g2⟩
  · obtain ⟨h1, h2⟩ := h.heads hb hh
    exact ⟨h1.setOther (Ne.symm (h.k_ne_h hh _ (by omega))) _, h2⟩
theorem Rep.setAt (h : Rep B w L base s) (id : Nat) (hid : id < 1024 * L.m) (v : Int) : Rep B (w.setCell ⟨L.K (id / 1024), 1024 + id % 1024 * 4 + 2, none⟩ (.int .i32 v)) L base { s with A := upd s.A id v } :=
  h.setK id hid 2 v _ _ (fun j => by by_cases e : j = id <;> simp [upd, e]) (fun j => by simp) (Or.inl rfl)
theorem Rep.setNext (h : Rep B w L base s) (id : Nat) (hid : id < 1024 * L.m) (v : Int) : Rep B (w.setCell ⟨L.K (id / 1024), 1024 + id % 1024 * 4 + 3, none⟩ (.int .i32 v)) L base { s with X := upd s.X id v } :=
  h.setK id hid 3 v _ _ (fun j => by simp) (fun j => by by_cases e : j = id <;> simp [upd, e]) (Or.inr rfl)

/-- the heads are made, each none -/
theorem Rep.made (h : Rep B w L base s) (hh : s.hd = none) (hB : B ≤ w.heap.size) (ob : Obj) {w2 : World} (hr : w2.rowIs w.heap.size 21 32768 (fun _ => .int .i32 (-1)))
    (hsame : ∀ b, b < w.heap.size → w2.heap[b]? = ((w.alloc ob).setCell ⟨L.q, 7, none⟩ (.slice (some ⟨w.heap.size, 0, none⟩) 32768 32768)).heap[b]?) : Rep B w2 L base { s with hd := some w.heap.size } := by
  have hq := h.q_lt
  obtain ⟨J, hrq, k0, k5, k6, k7, k8⟩ := h.row
  have hoth : ∀ b, b < w.heap.size → b ≠ L.q → w2.heap[b]? = w.heap[b]? := fun b hb hne => by
    rw [hsame b hb, Below.heap_setCell _ _ _ _ hne, Below.heap_alloc _ _ _ hb]
  refine ⟨⟨_, ((hrq.alloc ob).set 7 _).of_block (hsame _ hq), fun hm => by simpa using k0 hm, by simpa using k5, by simpa using k6, by simp [headsV], fun j hj => ?_⟩, fun hm => ?_, fun j hj => ?_, h.inj, fun hb hh' => ?_, (fun hh' => by cases hh'), h.geq, h.gek⟩
  · show (if 8 + j = 7 then _ else J (8 + j)) = _
    rw [if_neg (by omega)]; exact k8 j hj
  · obtain ⟨hle, J2, hr2, h2⟩ := h.slab hm
    exact ⟨hle, J2, hr2.of_block (hoth _ hr2.lt (h.cb_ne_q hm)), h2⟩
  · obtain ⟨D, hd, h1⟩ := h.chunk j hj
    exact ⟨D, hd.of_block (hoth _ hd.lt (Ne.symm (h.k_ne_q j hj))), h1⟩
  · injection hh' with e
    subst e
    exact ⟨hr.congr fun i hi => by rw [h.noHeads hh i hi], hB⟩
end

/-- what link makes of the queue: slot id goes ahead of the list at index i; hb: where the heads lie behind it -/
def linkSt (s : St) (hb : Nat) (id i : Nat) : St :=
  if s.H i = -1 then { filled := s.filled + 1, hd := some hb, H := upd s.H i id, W := upd s.W (i / 64) (orW (s.W (i / 64)) (i % 64)), A := upd s.A id (-1), X := upd s.X id (-1) }
  else { filled := s.filled, hd := some hb, H := upd s.H i id, W := s.W, A := upd (upd s.A id (-1)) (s.H i).toNat id, X := upd s.X id (s.H i) }

set_option maxHeartbeats 1000000 in
theorem link_none (q hb kb o id n : Nat) (hn : n ≤ 35184372088832) (fl wd : Int) (f1 : 0 ≤ fl) (f2 : fl ≤ 32768) (a x : Int) (w : World)
    (hs : Calls Tryd.prog 13 #[.pointer (some ⟨q, 0, none⟩), .int .i32 id] w fun e w' => e = .returned (.pointer (some ⟨kb, o, none⟩)) ∧ w' = w)
    (hq1 : q ≠ kb) (hq2 : q ≠ hb) (hq3 : kb ≠ hb)
    (c6 : w.cell? ⟨q, 6, none⟩ = some (.int .i64 fl)) (c7 : w.cell? ⟨q, 7, none⟩ = some (.slice (some ⟨hb, 0, none⟩) 32768 32768)) (c8 : w.cell? ⟨q, 8 + n % 32768 / 64, none⟩ = some (.int .u64 wd))
    (fq : ∀ o, w.frozen? ⟨q, o, none⟩ = false) (fk : ∀ o, w.frozen? ⟨kb, o, none⟩ = false) (fh : ∀ o, w.frozen? ⟨hb, o, none⟩ = false)
    (ca : w.cell? ⟨kb, o + 2, none⟩ = some (.int .i32 a)) (cx : w.cell? ⟨kb, o + 3, none⟩ = some (.int .i32 x)) (ch : w.cell? ⟨hb, n % 32768, none⟩ = some (.int .i32 (-1))) :
    Calls Tryd.prog 12 #[.pointer (some ⟨q, 5, none⟩), .pointer (some ⟨q, 0, none⟩), .int .i32 id, .int .i64 n] w fun e w' => e = .returned (.tuple #[]) ∧
      w' = (((((w.setCell ⟨kb, o + 2, none⟩ (.int .i32 (-1))).setCell ⟨kb, o + 3, none⟩ (.int .i32 (-1))).setCell ⟨q, 8 + n % 32768 / 64, none⟩ (.int .u64 (orW wd (n % 64)))).setCell ⟨q, 6, none⟩ (.int .i64 (fl + 1))).setCell ⟨hb, n % 32768, none⟩ (.int .i32 id)).drew := by
  have hnil := fun (w : World) (a : Option Addr) (n c : Nat) => Lib.run_eql_slice_nil (P := Tryd.prog) w 22 21 a n c 0 0 Tryd.underlying22
  have hm : ((n % 32768 : Nat) : Int) < 32768 := by omega
  have HS : Hid (Calls Tryd.prog 13 #[.pointer (some ⟨q, 0, none⟩), .int .i32 id] w fun e w' => e = .returned (.pointer (some ⟨kb, o, none⟩)) ∧ w' = w) := hs
  clear hs
  go_enter Tryd.func12, Tryd.ntmps12
  go_wp2_with (first | (go_at_call 16; refine (index_any n hn _).mono ?_; rintro e w1 ⟨rfl, rfl⟩) | (go_at_call 13; refine HS.out.mono ?_; rintro e w1 ⟨rfl, rfl⟩))
  go_region
  go_wp2
  go_end0
  exact ⟨rfl, rfl⟩

set_option maxHeartbeats 1000000 in
theorem link_far (q hb kb o kb' o' id n h : Nat) (hn : n ≤ 35184372088832) (a x a' : Int) (w : World)
    (hs : Calls Tryd.prog 13 #[.pointer (some ⟨q, 0, none⟩), .int .i32 id] w fun e w' => e = .returned (.pointer (some ⟨kb, o, none⟩)) ∧ w' = w)
    (hs' : Calls Tryd.prog 13 #[.pointer (some ⟨q, 0, none⟩), .int .i32 h] ((w.setCell ⟨kb, o + 2, none⟩ (.int .i32 (-1))).setCell ⟨kb, o + 3, none⟩ (.int .i32 h)) fun e w' => e = .returned (.pointer (some ⟨kb', o', none⟩)) ∧ w' = ((w.setCell ⟨kb, o + 2, none⟩ (.int .i32 (-1))).setCell ⟨kb, o + 3, none⟩ (.int .i32 h)))
    (hq1 : q ≠ kb) (hq2 : q ≠ hb) (hq3 : kb ≠ hb) (hq4 : q ≠ kb') (hq5 : kb' ≠ hb) (hq6 : kb' ≠ kb)
    (c7 : w.cell? ⟨q, 7, none⟩ = some (.slice (some ⟨hb, 0, none⟩) 32768 32768))
    (fk : ∀ o, w.frozen? ⟨kb, o, none⟩ = false) (fh : ∀ o, w.frozen? ⟨hb, o, none⟩ = false) (fk' : ∀ o, w.frozen? ⟨kb', o, none⟩ = false)
    (ca : w.cell? ⟨kb, o + 2, none⟩ = some (.int .i32 a)) (cx : w.cell? ⟨kb, o + 3, none⟩ = some (.int .i32 x)) (ch : w.cell? ⟨hb, n % 32768, none⟩ = some (.int .i32 h)) (ca' : w.cell? ⟨kb', o' + 2, none⟩ = some (.int .i32 a')) :
    Calls Tryd.prog 12 #[.pointer (some ⟨q, 5, none⟩), .pointer (some ⟨q, 0, none⟩), .int .i32 id, .int .i64 n] w fun e w' => e = .returned (.tuple #[]) ∧
      w' = (((w.setCell ⟨kb, o + 2, none⟩ (.int .i32 (-1))).setCell ⟨kb, o + 3, none⟩ (.int .i32 h)).setCell ⟨kb', o' + 2, none⟩ (.int .i32 id)).setCell ⟨hb, n % 32768, none⟩ (.int .i32 id) := by
  have hnil := fun (w : World) (a : Option Addr) (n c : Nat) => Lib.run_eql_slice_nil (P := Tryd.prog) w 22 21 a n c 0 0 Tryd.underlying22
  have hm : ((n % 32768 : Nat) : Int) < 32768 := by omega
  have HS : Hid (Calls Tryd.prog 13 #[.pointer (some ⟨q, 0, none⟩), .int .i32 id] w fun e w' => e = .returned (.pointer (some ⟨kb, o, none⟩)) ∧ w' = w) := hs
  clear hs
  have HS' : Hid (Calls Tryd.prog 13 #[.pointer (some ⟨q, 0, none⟩), .int .i32 h] ((w.setCell ⟨kb, o + 2, none⟩ (.int .i32 (-1))).setCell ⟨kb, o + 3, none⟩ (.int .i32 h)) fun e w' => e = .returned (.pointer (some ⟨kb', o', none⟩)) ∧ w' = ((w.setCell ⟨kb, o + 2, none⟩ (.int .i32 (-1))).setCell ⟨kb, o + 3, none⟩ (.int .i32 h))) := hs'
  clear hs'
  have hh : ((h : Int) == -1) = false := by simp
  go_enter Tryd.func12, Tryd.ntmps12
  go_wp2_with (go_at_call 16; refine (index_any n hn _).mono ?_; rintro e w1 ⟨rfl, rfl⟩)
  refine HS.out.mono ?_
  rintro e w2 ⟨rfl, rfl⟩
  go_wp2_with fail
  refine HS'.out.mono ?_
  rintro e w3 ⟨rfl, hw3⟩
  subst hw3
  go_wp2
  go_end0
  exact ⟨rfl, rfl⟩

set_option maxHeartbeats 1000000 in
theorem link_near (q hb kb o o' id n h : Nat) (hn : n ≤ 35184372088832) (a x a' : Int) (w : World)
    (hs : Calls Tryd.prog 13 #[.pointer (some ⟨q, 0, none⟩), .int .i32 id] w fun e w' => e = .returned (.pointer (some ⟨kb, o, none⟩)) ∧ w' = w)
    (hs' : Calls Tryd.prog 13 #[.pointer (some ⟨q, 0, none⟩), .int .i32 h] ((w.setCell ⟨kb, o + 2, none⟩ (.int .i32 (-1))).setCell ⟨kb, o + 3, none⟩ (.int .i32 h)) fun e w' => e = .returned (.pointer (some ⟨kb, o', none⟩)) ∧ w' = ((w.setCell ⟨kb, o + 2, none⟩ (.int .i32 (-1))).setCell ⟨kb, o + 3, none⟩ (.int .i32 h)))
    (hq1 : q ≠ kb) (hq2 : q ≠ hb) (hq3 : kb ≠ hb) (ho : o + 4 ≤ o' ∨ o' + 4 ≤ o)
    (c7 : w.cell? ⟨q, 7, none⟩ = some (.slice (some ⟨hb, 0, none⟩) 32768 32768))
    (fk : ∀ o, w.frozen? ⟨kb, o, none⟩ = false) (fh : ∀ o, w.frozen? ⟨hb, o, none⟩ = false)
    (ca : w.cell? ⟨kb, o + 2, none⟩ = some (.int .i32 a)) (cx : w.cell? ⟨kb, o + 3, none⟩ = some (.int .i32 x)) (ch : w.cell? ⟨hb, n % 32768, none⟩ = some (.int .i32 h)) (ca' : w.cell? ⟨kb, o' + 2, none⟩ = some (.int .i32 a')) :
    Calls Tryd.prog 12 #[.pointer (some ⟨q, 5, none⟩), .pointer (some ⟨q, 0, none⟩), .int .i32 id, .int .i64 n] w fun e w' => e = .returned (.tuple #[]) ∧
      w' = (((w.setCell ⟨kb, o + 2, none⟩ (.int .i32 (-1))).setCell ⟨kb, o + 3, none⟩ (.int .i32 h)).setCell ⟨kb, o' + 2, none⟩ (.int .i32 id)).setCell ⟨hb, n % 32768, none⟩ (.int .i32 id) := by
  have hnil := fun (w : World) (a : Option Addr) (n c : Nat) => Lib.run_eql_slice_nil (P := Tryd.prog) w 22 21 a n c 0 0 Tryd.underlying22
  have hm : ((n % 32768 : Nat) : Int) < 32768 := by omega
  have HS : Hid (Calls Tryd.prog 13 #[.pointer (some ⟨q, 0, none⟩), .int .i32 id] w fun e w' => e = .returned (.pointer (some ⟨kb, o, none⟩)) ∧ w' = w) := hs
  clear hs
  have HS' : Hid (Calls Tryd.prog 13 #[.pointer (some ⟨q, 0, none⟩), .int .i32 h] ((w.setCell ⟨kb, o + 2, none⟩ (.int .i32 (-1))).setCell ⟨kb, o + 3, none⟩ (.int .i32 h)) fun e w' => e = .returned (.pointer (some ⟨kb, o', none⟩)) ∧ w' = ((w.setCell ⟨kb, o + 2, none⟩ (.int .i32 (-1))).setCell ⟨kb, o + 3, none⟩ (.int .i32 h))) := hs'
  clear hs'
  have hh : ((h : Int) == -1) = false := by simp
  go_enter Tryd.func12, Tryd.ntmps12
  go_wp2_with (go_at_call 16; refine (index_any n hn _).mono ?_; rintro e w1 ⟨rfl, rfl⟩)
  refine HS.out.mono ?_
  rintro e w2 ⟨rfl, rfl⟩
  go_wp2_with fail
  refine HS'.out.mono ?_
  rintro e w3 ⟨rfl, hw3⟩
  subst hw3
  go_wp2
  go_end0
  exact ⟨rfl, rfl⟩

/-- k of the heads have been set to none -/
structure Filled (q : Nat) (w wr : World) (k : Nat) : Prop where
  row : wr.rowIs w.heap.size 21 32768 (fun j => if j < k then .int .i32 (-1) else .int .i32 0)
  same : ∀ b, b < w.heap.size → wr.heap[b]? = (w.setCell ⟨q, 7, none⟩ (.slice (some ⟨w.heap.size, 0, none⟩) 32768 32768)).heap[b]?
  below : Below q w wr
theorem filled_start {q : Nat} {w : World} (hq : q < w.heap.size) (z : Value) (hz : z = .int .i32 0) : Filled q w ((w.setCell ⟨q, 7, none⟩ (.slice (some ⟨w.heap.size, 0, none⟩) 32768 32768)).alloc (.cells (madeCells #[z] 32768) 21)) 0 := by
  subst hz
  have hsz : (w.setCell ⟨q, 7, none⟩ (.slice (some ⟨w.heap.size, 0, none⟩) 32768 32768)).heap.size = w.heap.size := by simp [World.setCell]
  refine ⟨?_, fun b hb => Below.heap_alloc _ _ _ (by rw [hsz]; exact hb), ((Below.refl q w).setCell (p := ⟨q, 7, none⟩) (Nat.le_refl _) _).alloc (by rw [hsz]; omega) _⟩
  have := World.rowIs_made (w.setCell ⟨q, 7, none⟩ (.slice (some ⟨w.heap.size, 0, none⟩) 32768 32768)) (.int .i32 0) 32768 21
  rw [hsz] at this
  exact this.congr fun i _ => by simp
theorem filled_step {q k : Nat} {w wr : World} (hq : q < w.heap.size) (h : Filled q w wr k) : Filled q w (wr.setCell ⟨w.heap.size, k, none⟩ (.int .i32 (-1))) (k + 1) := by
  refine ⟨(h.row.set k _).congr fun j _ => ?_, fun b hb => ?_, h.below.setCell (by show q ≤ w.heap.size; omega) _⟩
  · show (if j = k then Value.int .i32 (-1) else if j < k then .int .i32 (-1) else .int .i32 0) = if j < k + 1 then .int .i32 (-1) else .int .i32 0
    by_cases e : j = k
    · rw [if_pos e, if_pos (by omega)]
    · rw [if_neg e]
      by_cases e2 : j < k
      · rw [if_pos e2, if_pos (by omega)]
      · rw [if_neg e2, if_neg (by omega)]
  · rw [Below.heap_setCell _ _ _ _ (by show b ≠ w.heap.size; omega)]
    exact h.same b hb
theorem Rep.ofFilled {B : Nat} {w wr : World} {L : Lay} {base : Int} {s : St} (h : Rep B w L base s) (hh : s.hd = none) (hB : B ≤ w.heap.size) (hf : Filled L.q w wr 32768) : Rep B wr L base { s with hd := some w.heap.size } :=
  h.made hh hB (.map #[] 0) (hf.row.congr fun i hi => by rw [if_pos hi]) fun b hb => by
    rw [hf.same b hb]
    by_cases e : b = L.q
    · subst e
      simp only [World.setCell, Array.getElem?_modify, if_true]
      rw [Below.heap_alloc _ _ _ hb]
    · rw [Below.heap_setCell _ _ _ _ e, Below.heap_setCell _ _ _ _ e, Below.heap_alloc _ _ _ hb]

theorem info21 : (Tryd.prog.info? 21).map (fun i => (i.zero, i.size, i.bytes)) = some (some (.int .i32 0), 1, 4) := by kernel_rfl

set_option maxRecDepth 10000 in
set_option maxHeartbeats 1000000 in
theorem link_nil {B : Nat} {w : World} {L : Lay} {base : Int} {s : St} (h : Rep B w L base s) (hh : s.hd = none) (hB : B ≤ w.heap.size) (hm : L.m ≤ 64) (id n : Nat) (hid : id < 1024 * L.m) (hn : n ≤ 35184372088832) (f1 : 0 ≤ s.filled) (f2 : s.filled ≤ 32768) (z : Value) (hz : Hid (z = .int .i32 0)) (kb o : Nat) (hkb : Hid (L.K (id / 1024) = kb)) (ho : Hid (1024 + id % 1024 * 4 = o)) :
    Calls Tryd.prog 12 #[.pointer (some ⟨L.q, 5, none⟩), .pointer (some ⟨L.q, 0, none⟩), .int .i32 id, .int .i64 n] w fun e w' => e = .returned (.tuple #[]) ∧ ∃ wr, Filled L.q w wr 32768 ∧
      w' = (((((wr.setCell ⟨kb, o + 2, none⟩ (.int .i32 (-1))).setCell ⟨kb, o + 3, none⟩ (.int .i32 (-1))).setCell ⟨L.q, 8 + n % 32768 / 64, none⟩ (.int .u64 (orW (s.W (n % 32768 / 64)) (n % 64)))).setCell ⟨L.q, 6, none⟩ (.int .i64 (s.filled + 1))).setCell ⟨w.heap.size, n % 32768, none⟩ (.int .i32 id)).drew := by
  have hnil := fun (w : World) (a : Option Addr) (n c : Nat) => Lib.run_eql_slice_nil (P := Tryd.prog) w 22 21 a n c 0 0 Tryd.underlying22
  have hmk : ∀ w : World, (Instr.makeSlice 22 (.int .i64 32768) (.int .i64 32768)).run Tryd.prog w = .ok (.slice (some ⟨w.heap.size, 0, none⟩) 32768 32768) (w.alloc (.cells (madeCells #[z] 32768) 21)) := fun w => by
    rw [hz.out]
    exact run_make_row' (P := Tryd.prog) 22 21 (.int .i32 0) 4 Tryd.underlying22 info21 rfl .i64 .i64 32768 (by omega) (by omega) w
  have hlt := h.q_lt
  have c7 : w.cell? ⟨L.q, 7, none⟩ = some (.slice none 0 0) := by rw [h.headsC, hh]; rfl
  have fq := h.qF 7
  have HR : Hid (Rep B w L base s) := h
  clear h
  go_enter Tryd.func12, Tryd.ntmps12
  go_wp2_with fail
  go_loopw [26] (fun i wr => ∃ k : Nat, k ≤ 32768 ∧ i = .int .i64 k ∧ Filled L.q w wr k) (fun i _ => 32768 - (intOf i).toNat)
  case atStart => exact ⟨0, by omega, rfl, filled_start hlt z hz.out⟩
  case round =>
    obtain ⟨k, hk, rfl, hF⟩ := hrel
    have r7 : wr.cell? ⟨L.q, 7, none⟩ = some (.slice (some ⟨w.heap.size, 0, none⟩) 32768 32768) := by
      have := World.cell?_of_block (w := w.setCell ⟨L.q, 7, none⟩ (.slice (some ⟨w.heap.size, 0, none⟩) 32768 32768)) (a := ⟨L.q, 7, none⟩) (hF.same L.q hlt)
      rw [this]
      exact World.cell?_setCell_same _ _ _ c7
    by_cases hlk : k < 32768
    · have rk : wr.cell? ⟨w.heap.size, k, none⟩ = some (.int .i32 0) := by rw [hF.row.cell hlk, if_neg (by omega)]
      have fk := hF.row.frozen k
      have HF : Hid (Filled L.q w wr k) := hF
      have hki : (k : Int) < 32768 := by omega
      clear hF hmk hnil c7 fq
      go_wp2
      go_roundw
      case rel => exact ⟨k + 1, by omega, by go_num, filled_step hlt HF.out⟩
      case measure => simp [intOf]; omega
    · obtain rfl : k = 32768 := by omega
      have R := HR.out.ofFilled hh hB hF
      have e7 : ({ s with hd := some w.heap.size } : St).hd = some w.heap.size := rfl
      have kq : L.q ≠ kb := by rw [← hkb.out]; exact R.k_ne_q (id / 1024) (by omega)
      have hq2 := R.h_ne_q e7
      have kh : kb ≠ w.heap.size := by rw [← hkb.out]; exact R.k_ne_h e7 (id / 1024) (by omega)
      have r6 : wr.cell? ⟨L.q, 6, none⟩ = some (.int .i64 s.filled) := R.filledC
      have r8 : wr.cell? ⟨L.q, 8 + n % 32768 / 64, none⟩ = some (.int .u64 (s.W (n % 32768 / 64))) := R.wordC _ (by omega)
      have rh : wr.cell? ⟨w.heap.size, n % 32768, none⟩ = some (.int .i32 (-1)) := by
        rw [hF.row.cell (by omega), if_pos (by omega)]
      have ra : wr.cell? ⟨kb, o + 2, none⟩ = some (.int .i32 (s.A id)) := by rw [← hkb.out, ← ho.out]; exact R.atC id hid
      have rx : wr.cell? ⟨kb, o + 3, none⟩ = some (.int .i32 (s.X id)) := by rw [← hkb.out, ← ho.out]; exact R.nextC id hid
      have gq := R.qF
      have gk : ∀ o, wr.frozen? ⟨kb, o, none⟩ = false := fun o => by rw [← hkb.out]; exact R.kF id o hid
      have gh := R.hF e7
      have HS : Hid (Calls Tryd.prog 13 #[.pointer (some ⟨L.q, 0, none⟩), .int .i32 id] wr fun e w' => e = .returned (.pointer (some ⟨kb, o, none⟩)) ∧ w' = wr) := by rw [← hkb.out, ← ho.out]; exact R.slot id hm hid
      have HF : Hid (Filled L.q w wr 32768) := hF
      have hmn : ((n % 32768 : Nat) : Int) < 32768 := by omega
      clear hF R e7 c7 fq hmk
      go_wp2_with (first | (go_at_call 16; refine (index_any n hn _).mono ?_; rintro e w1 ⟨rfl, hw1⟩; subst hw1) | (go_at_call 13; refine HS.out.mono ?_; rintro e w1 ⟨rfl, hw1⟩; subst hw1))
      go_region
      go_wp2
      go_end0
      exact ⟨rfl, _, HF.out, rfl⟩
end Go.Proofs.Qxb6609346aDoor
