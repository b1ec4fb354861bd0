/-
  ZZnewQueue: a queue with m fresh chunks.
-/
import Derived.Test.Qxb6609346aDoorMem
namespace Go.Proofs.Qxb6609346aDoor
open Go.ChangeShapes Go.WideShapes Go.ChangeAt Go.RowKit

theorem rowIs_ne {w : World} {a b : Nat} {t u : TypeId} {n m : Nat} {f g : Nat → Value} (h : w.rowIs a t n f) (k : w.rowIs b u m g) (htu : t ≠ u) : a ≠ b := by
  rintro rfl
  obtain ⟨c, hc, _⟩ := h
  obtain ⟨d, hd, _⟩ := k
  rw [hc] at hd
  simp at hd
  exact htu hd.2
theorem rowIs_grown {w w' : World} {b : Nat} {t : TypeId} {n : Nat} {f : Nat → Value} {row : Option Nat} (h : w.rowIs b t n f) (hg : w.grownBy w' row) (hne : some b ≠ row) : w'.rowIs b t n f :=
  h.of_block (hg.block b h.lt hne)
/-- a row that owns its cells is no row of another type -/
theorem owns_ne {w : World} {base : Nat} {e u : TypeId} {size n m b : Nat} {v : Value} {xs : List Value} {f : Nat → Value} (h : w.ownsRow base e size v n xs) (k : w.rowIs b u m f) (hne : e ≠ u) : some b ≠ v.ownBlock := by
  obtain ⟨_, h | ⟨g, cap, cur, hv, _, hh, _⟩⟩ := h
  · rw [h.1]; simp [Value.ownBlock]
  · rw [hv]
    simp only [Value.ownBlock]
    intro e1
    injection e1 with e1
    subst e1
    obtain ⟨c, hc, _⟩ := k
    rw [hh] at hc
    simp at hc
    exact hne hc.2

/-- i chunks have been made -/
structure NQ (base : Int) (w wr : World) (i : Nat) (v : Value) (J : Nat → Value) (K : Nat → Nat) : Prop where
  row : wr.rowIs w.heap.size 48 1037 J
  j0 : J 0 = v
  j5 : J 5 = .int .i64 base
  j6 : J 6 = .int .i64 0
  j7 : J 7 = .slice none 0 0
  j8 : ∀ j, j < 512 → J (8 + j) = .int .u64 0
  own : wr.ownsRow (w.heap.size + 1) 49 1 v i ((List.range i).map fun j => .pointer (some ⟨K j, 0, none⟩))
  chunk : ∀ j, j < i → wr.rowIs (K j) 55 5120 chunkF ∧ w.heap.size < K j
  inj : ∀ j k, j < i → k < i → K j = K k → j = k
  below : Below w.heap.size w wr

theorem nq_start (base cb : Int) (w : World) : NQ base w (w.alloc (.cells (queueL base cb).toArray 48)) 0 (.slice none 0 0) (queueF base cb) (fun _ => 0) := by
  refine ⟨?_, queueF_0 _ _, queueF_5 _ _, queueF_6 _ _, queueF_7 _ _, queueF_8 _ _, World.ownsRow_nil _ _ _ _, fun j hj => by omega, fun j k hj => by omega, (Below.refl _ _).alloc (Nat.le_refl _) _⟩
  have := World.rowIs_alloc w (queueL base cb).toArray 48 (queueF base cb) (fun i hi => queueF_at _ _ i (by rw [queueL_size] at hi; exact hi))
  rw [queueL_size] at this
  exact this

theorem chunk_row (w : World) : (w.alloc (.cells chunkZ 55)).rowIs w.heap.size 55 5120 chunkF := by
  have := World.rowIs_alloc w chunkZ 55 chunkF (fun i hi => chunkZ_at i (by rw [chunkZ_size] at hi; exact hi))
  rw [chunkZ_size] at this
  exact this

/-- behind the append, ahead of the store: the queue's block -/
theorem nq_mid {base : Int} {w wr w1 : World} {i : Nat} {v : Value} {J : Nat → Value} {K : Nat → Nat} (h : NQ base w wr i v J K) (ob : Obj)
    (hgr : ((wr.alloc (.cells chunkZ 55)).alloc ob).grownBy w1 v.ownBlock) : w1.rowIs w.heap.size 48 1037 J :=
  rowIs_grown ((h.row.alloc _).alloc _) hgr (owns_ne h.own h.row (by decide))

theorem nq_step {base : Int} {w wr w1 : World} {i g cap : Nat} {v : Value} {J : Nat → Value} {K : Nat → Nat} (h : NQ base w wr i v J K) (ob : Obj)
    (hown : w1.ownsRow (w.heap.size + 1) 49 1 (.slice (some ⟨g, 0, none⟩) (i + 1) cap) (i + 1) (((List.range i).map fun j => Value.pointer (some ⟨K j, 0, none⟩)) ++ [.pointer (some ⟨wr.heap.size, 0, none⟩)]))
    (hgr : ((wr.alloc (.cells chunkZ 55)).alloc ob).grownBy w1 v.ownBlock) :
    NQ base w (w1.setCell ⟨w.heap.size, 0, none⟩ (.slice (some ⟨g, 0, none⟩) (i + 1) cap)) (i + 1) (.slice (some ⟨g, 0, none⟩) (i + 1) cap) (fun j => if j = 0 then .slice (some ⟨g, 0, none⟩) (i + 1) cap else J j) (fun j => if j = i then wr.heap.size else K j) := by
  have hq := h.row.lt
  have hrow := nq_mid h ob hgr
  have hc := rowIs_grown ((chunk_row wr).alloc ob) hgr (owns_ne ((h.own.alloc _).alloc _) ((chunk_row wr).alloc ob) (by decide))
  refine ⟨hrow.set 0 _, by simp, by simpa using h.j5, by simpa using h.j6, by simpa using h.j7, fun j hj => by simpa using h.j8 j hj, ?_, ?_, ?_, ?_⟩
  · have e : ((List.range (i + 1)).map fun j => Value.pointer (some ⟨if j = i then wr.heap.size else K j, 0, none⟩)) = ((List.range i).map fun j => Value.pointer (some ⟨K j, 0, none⟩)) ++ [.pointer (some ⟨wr.heap.size, 0, none⟩)] := by
      rw [List.range_succ, List.map_append]
      congr 1
      · apply List.map_congr_left
        intro j hj
        have := List.mem_range.1 hj
        rw [if_neg (by omega)]
      · simp
    rw [e]
    exact ownsRow_setCell_below hown (by show w.heap.size < _; omega) _
  · intro j hj
    by_cases e : j = i
    · subst e
      simp only [if_true]
      exact ⟨hc.setOther (by show wr.heap.size ≠ w.heap.size; omega) _, hq⟩
    · rw [if_neg e]
      obtain ⟨k1, k2⟩ := h.chunk j (by omega)
      exact ⟨(rowIs_grown ((k1.alloc _).alloc _) hgr (owns_ne h.own k1 (by decide))).setOther (by show K j ≠ w.heap.size; omega) _, k2⟩
  · intro j k hj hk e
    have hlt : ∀ j, j < i → K j < wr.heap.size := fun j hj => (h.chunk j hj).1.lt
    by_cases e1 : j = i
    · by_cases e2 : k = i
      · omega
      · simp only [e1, if_true, if_neg e2] at e
        have := hlt k (by omega); omega
    · by_cases e2 : k = i
      · simp only [e2, if_true, if_neg e1] at e
        have := hlt j (by omega); omega
      · simp only [if_neg e1, if_neg e2] at e
        exact h.inj j k (by omega) (by omega) e
  · refine (((h.below.alloc (by omega) _).alloc (by simp; omega) _).grown hgr (by simp; omega) ?_).setCell (Nat.le_refl _) _
    intro k hk
    obtain ⟨h1, _⟩ := h.own.lt k hk
    omega

theorem infoCP : (Tryd.prog.info? 49).map (fun i => (i.zero, i.size, i.bytes)) = some (some (.pointer none), 1, 8) := by kernel_rfl
theorem one_ptr (a : Addr) : ∀ u ∈ [Value.pointer (some a)], u.oneCell' = true := by
  intro u hu
  simp only [List.mem_cons, List.not_mem_nil, or_false] at hu
  subst hu
  rfl
theorem cell_one (w : World) (t : TypeId) (g : Nat) (x : Value) (hg : g = w.heap.size) (j : Nat) (u : Value) (h : [x][j]? = some u) :
    (w.alloc (.cells #[x] t)).cell? ((⟨g, 0, none⟩ : Addr).add j) = some u := by
  match j, h with
  | 0, h =>
    simp at h
    subst h
    simp only [Addr.add, if_true]
    rw [World.cell?_alloc_at _ _ _ _ hg]
    rfl
  | j + 1, h => simp at h

set_option maxRecDepth 100000 in
set_option maxHeartbeats 1000000 in
theorem newq_walk (base cb : Int) (m : Nat) (n : Int) (hm : m ≤ 64) (R1 R2 C Z : Array Value) (h1 : Hid (Tryd.prog.built 40 [(0, .int .i64 base)] = some R1)) (h2 : Hid (Tryd.prog.built 40 [(0, .int .i64 cb)] = some R2))
    (h3 : Hid (Tryd.prog.built 48 [(4, .agg R1), (6, .agg R2)] = some C)) (h4 : Hid (((Tryd.prog.info? 55).bind (·.zero)).map (·.cells) = some Z)) (hZ : Hid (Z = chunkZ)) (hC : Hid (C = (queueL base cb).toArray)) (w : World) :
    Calls Tryd.prog 5 #[.int .i64 base, .int .i64 cb, .int .i64 m, .int .i32 n] w fun e w' => ∃ wr v J K, e = .returned (.pointer (some ⟨w.heap.size, 0, none⟩)) ∧ NQ base w wr m v J K ∧ w' = wr.setCell ⟨w.heap.size, 1, none⟩ (.int .i32 n) := by
  have hst : NQ base w (w.alloc (.cells C 48)) 0 (.slice none 0 0) (queueF base cb) (fun _ => 0) := by rw [hC.out]; exact nq_start base cb w
  obtain ⟨i0, hi, hz0, hz1, hz2⟩ := info_parts infoCP
  go_enter Tryd.func5, Tryd.ntmps5
  go_wp2_with (first | refine wpList_buildTo rfl 40 [(0, Operand.tmp 11)] rfl (some 12) rfl _ _ rfl h1.out ?_ | refine wpList_buildTo rfl 40 [(0, Operand.tmp 13)] rfl (some 14) rfl _ _ rfl h2.out ?_ | refine wpList_buildTo rfl 48 [(4, Operand.tmp 12), (6, Operand.tmp 14)] rfl (some 15) rfl _ _ rfl h3.out ?_ )
  go_loopw [10] (fun i wr => ∃ (k : Nat) (v : Value) (J : Nat → Value) (K : Nat → Nat), k ≤ m ∧ i = .int .i64 k ∧ NQ base w wr k v J K) (fun i _ => m - (intOf i).toNat)
  case atStart => exact ⟨0, _, _, _, by omega, rfl, hst⟩
  case round =>
    obtain ⟨k, v, J, K, hk, rfl, hnq⟩ := hrel
    have hq := hnq.row.lt
    by_cases hlt : k < m
    · have hc0 : wr.cell? ⟨w.heap.size, 0, none⟩ = some v := by rw [hnq.row.cell (by omega), hnq.j0]
      go_wp2_with (first | refine wpList_allocZ rfl 55 rfl (some 28) rfl _ h4.out ?_ | (at_builtin; refine wpList_append_lies _ rfl (.tmp 27) (.tmp 29) 41 rfl (w.heap.size + 1) 49 i0 _ 1 8 Tryd.underlying41 hi hz0 hz1 hz2 rfl (by omega) v k _ rfl ((hnq.own.alloc _).alloc _) ⟨wr.heap.size + 1, 0, none⟩ 1 1 [.pointer (some ⟨wr.heap.size, 0, none⟩)] rfl rfl (fun j u h => cell_one _ _ _ _ (by simp) j u h) (one_ptr _) (by omega) (by unfold maxLen; omega) (by omega) (by simp; omega) (wr.heap.size + 2) (by simp) ?_; intro g cap w1 hown1 hgrow1 hat hltg; have hrow1 : w1.rowIs w.heap.size 48 1037 J := nq_mid hnq _ (by rw [← hZ.out]; exact hgrow1); have c1 := hrow1.cell (i := 0) (by omega); have f1 := hrow1.frozen 0))
      go_roundw
      case rel => exact ⟨k + 1, _, _, _, by omega, by go_num, nq_step hnq _ hown1 (by rw [← hZ.out]; exact hgrow1)⟩
      case measure => simp [intOf]; omega
    · obtain rfl : k = m := by omega
      have c1 : wr.cell? ⟨w.heap.size, 1, none⟩ = some (J 1) := hnq.row.cell (by omega)
      have f1 := hnq.row.frozen 1
      have HN : Hid (NQ base w wr k v J K) := hnq
      clear hnq
      go_wp2
      go_ret
      exact ⟨wr, v, J, K, rfl, HN.out, rfl⟩

/-- where the queue lies: its block, its slab's row of chunks and that row's length and capacity, the chunks' blocks -/
structure Lay where
  q : Nat
  cb : Nat
  m : Nat
  cc : Nat
  K : Nat → Nat
/-- what the ring and the slots hold: the number of filled buckets; the block of the heads, if they were made; heads, bitmap words, each slot's links -/
structure St where
  filled : Int
  hd : Option Nat
  H : Nat → Int
  W : Nat → Int
  A : Nat → Int
  X : Nat → Int
def headsV : Option Nat → Value
  | .none => .slice .none 0 0
  | some hb => .slice (some ⟨hb, 0, .none⟩) 32768 32768
/-- the queue lies in w, in blocks from B on, as L says, and holds s -/
structure Rep (B : Nat) (w : World) (L : Lay) (base : Int) (s : St) : Prop where
  row : ∃ J, w.rowIs L.q 48 1037 J ∧ (0 < L.m → J 0 = .slice (some ⟨L.cb, 0, .none⟩) L.m L.cc) ∧ J 5 = .int .i64 base ∧ J 6 = .int .i64 s.filled ∧ J 7 = headsV s.hd ∧ ∀ j, j < 512 → J (8 + j) = .int .u64 (s.W j)
  slab : 0 < L.m → L.m ≤ L.cc ∧ ∃ J, w.rowIs L.cb 49 L.cc J ∧ ∀ j, j < L.m → J j = .pointer (some ⟨L.K j, 0, .none⟩)
  chunk : ∀ j, j < L.m → ∃ D, w.rowIs (L.K j) 55 5120 D ∧ ∀ r, r < 1024 → D (1024 + r * 4 + 2) = .int .i32 (s.A (1024 * j + r)) ∧ D (1024 + r * 4 + 3) = .int .i32 (s.X (1024 * j + r))
  inj : ∀ j k, j < L.m → k < L.m → L.K j = L.K k → j = k
  heads : ∀ hb, s.hd = some hb → w.rowIs hb 21 32768 (fun i => .int .i32 (s.H i)) ∧ B ≤ hb
  noHeads : s.hd = .none → ∀ i, i < 32768 → s.H i = -1
  geq : B ≤ L.q
  gek : ∀ j, j < L.m → B ≤ L.K j
def St0 : St := { filled := 0, hd := .none, H := fun _ => -1, W := fun _ => 0, A := fun _ => 0, X := fun _ => 0 }

theorem chunkF_2 (r : Nat) : chunkF (1024 + r * 4 + 2) = .int .i32 0 := by
  unfold chunkF
  rw [if_neg (by omega), if_neg (by omega), if_neg (by omega)]
theorem chunkF_3 (r : Nat) : chunkF (1024 + r * 4 + 3) = .int .i32 0 := by
  unfold chunkF
  rw [if_neg (by omega), if_neg (by omega), if_neg (by omega)]

theorem newq_any (base cb : Int) (m : Nat) (n : Int) (hm : m ≤ 64) (w : World) :
    Calls Tryd.prog 5 #[.int .i64 base, .int .i64 cb, .int .i64 m, .int .i32 n] w fun e w' => ∃ L : Lay, e = .returned (.pointer (some ⟨L.q, 0, .none⟩)) ∧ L.m = m ∧ Rep w.heap.size w' L base St0 ∧ Below w.heap.size w w' := by
  refine (newq_walk base cb m n hm _ _ _ _ (builtR base) (builtR cb) (builtQ base cb) zeroC rfl rfl w).mono ?_
  rintro e w' ⟨wr, v, J, K, rfl, h, rfl⟩
  have hq := h.row.lt
  have hrow := h.row.set 1 (.int .i32 n)
  have hchunk : ∀ j, j < m → (wr.setCell ⟨w.heap.size, 1, none⟩ (.int .i32 n)).rowIs (K j) 55 5120 chunkF := fun j hj =>
    (h.chunk j hj).1.setOther (by show K j ≠ w.heap.size; have := (h.chunk j hj).2; omega) _
  have hb : Below w.heap.size w (wr.setCell ⟨w.heap.size, 1, none⟩ (.int .i32 n)) := h.below.setCell (Nat.le_refl _) _
  rcases Nat.eq_zero_or_pos m with hm0 | hm0
  · subst hm0
    refine ⟨⟨w.heap.size, 0, 0, 0, K⟩, rfl, rfl, ⟨⟨_, hrow, fun h => absurd h (by simp), by simpa using h.j5, by simpa [St0] using h.j6, by simpa [St0, headsV] using h.j7, fun j hj => by show (if 8 + j = 1 then _ else J (8 + j)) = _; rw [if_neg (by omega)]; exact h.j8 j hj⟩, fun h => absurd h (by simp),
      fun j hj => absurd hj (by simp), fun j k hj => absurd hj (by simp), fun hb h => by simp [St0] at h, fun _ i _ => rfl, Nat.le_refl _, fun j hj => absurd hj (by simp)⟩, hb⟩
  · obtain ⟨g, cap, cur, hv, hge, hh, hle, hmx, hsz, htk⟩ : ∃ g cap cur, v = .slice (some ⟨g, 0, none⟩) m cap ∧ w.heap.size + 1 ≤ g ∧ wr.heap[g]? = some (.cells cur 49 (0, 0)) ∧ m ≤ cap ∧ cap ≤ maxLen ∧ cur.size = cap * 1 ∧ cur.toList.take (m * 1) = (List.range m).map fun j => .pointer (some ⟨K j, 0, none⟩) := by
      rcases h.own.2 with h | h
      · omega
      · exact h
    have hcur : ∀ j, j < m → cur[j]? = some (.pointer (some ⟨K j, 0, none⟩)) := fun j hj => by
      have := congrArg (fun l => l[j]?) htk
      simp only [Nat.mul_one] at this
      rw [List.getElem?_take_of_lt hj] at this
      simp only [Array.getElem?_toList, List.getElem?_map, List.getElem?_range hj, Option.map_some] at this
      exact this
    have hslab : wr.rowIs g 49 cap (fun j => cur.getD j .nilFunc) := ⟨cur, hh, by omega, fun j hj => by
      rw [Array.getElem?_eq_getElem (by omega)]; simp [Array.getD, show j < cur.size by omega]⟩
    refine ⟨⟨w.heap.size, g, m, cap, K⟩, rfl, rfl, ⟨⟨_, hrow, fun _ => by simpa [hv] using h.j0, by simpa using h.j5, by simpa [St0] using h.j6, by simpa [St0, headsV] using h.j7, fun j hj => by show (if 8 + j = 1 then _ else J (8 + j)) = _; rw [if_neg (by omega)]; exact h.j8 j hj⟩,
      fun _ => ⟨hle, _, hslab.setOther (by show g ≠ w.heap.size; omega) _, fun j hj => ?_⟩,
      fun j hj => ⟨_, hchunk j hj, fun r _ => ⟨by simpa [St0] using chunkF_2 r, by simpa [St0] using chunkF_3 r⟩⟩, h.inj, fun hb h => by simp [St0] at h, fun _ i _ => rfl, Nat.le_refl _, fun j hj => Nat.le_of_lt (h.chunk j hj).2⟩, hb⟩
    have := hcur j hj
    simp [Array.getD_eq_getD_getElem?, this]
end Go.Proofs.Qxb6609346aDoor
