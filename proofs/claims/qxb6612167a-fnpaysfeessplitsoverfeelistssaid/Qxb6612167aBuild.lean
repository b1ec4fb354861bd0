import Derived.Test.Qxb6612167aPays
namespace Go.Proofs.Qxb6612167a
open Go.ChangeShapes Go.WideShapes Go.ChangeAt Go.RowKit

/-- n fees as the law is handed them lie from offset off of block b on -/
def FeesIn (w : World) (b off n : Nat) (N C : Nat → ByteArray) (P Q : Nat → Bool) (F T : Nat → Int) : Prop :=
  ∀ i, i < n → w.cell? ⟨b, off + i * 6, none⟩ = some (.string (N i)) ∧ w.cell? ⟨b, off + i * 6 + 1, none⟩ = some (.string (C i)) ∧ w.cell? ⟨b, off + i * 6 + 2, none⟩ = some (.bool (P i)) ∧
    w.cell? ⟨b, off + i * 6 + 3, none⟩ = some (.bool (Q i)) ∧ w.cell? ⟨b, off + i * 6 + 4, none⟩ = some (.int .i64 (F i)) ∧ w.cell? ⟨b, off + i * 6 + 5, none⟩ = some (.int .i64 (T i))

theorem info51 : (Try.prog.info? 51).map (fun i => (i.zero, i.size, i.bytes)) = some (some (.agg #[.string ⟨#[]⟩, .int .i64 0, .int .i64 0, .pointer none, .string ⟨#[]⟩, .pointer none, .pointer none]), 7, 72) := by kernel_rfl

/-- behind k rounds: the slice at the head of block g holds k fees; fee j has payment terms where flag j says so -/
def Inv (w0 wr : World) (g cap k : Nat) (flag : Nat → Bool) : Prop :=
  ∃ (xs : List Value) (q : Nat → Option Addr), wr.ownsRow g 51 7 (.slice (some ⟨g, 0, none⟩) k cap) k xs ∧ (∀ j, j < k → xs[j * 7 + 6]? = some (.pointer (q j)) ∧ (q j).isSome = flag j) ∧ Below g w0 wr

theorem inv_step {w0 wr w3 : World} {g cap k : Nat} {flag : Nat → Bool} {xs : List Value} {q : Nat → Option Addr} {c0 c1 c2 c3 c4 c5 : Value} {p : Option Addr}
    (hown : wr.ownsRow g 51 7 (.slice (some ⟨g, 0, none⟩) k cap) k xs) (hq : ∀ j, j < k → xs[j * 7 + 6]? = some (.pointer (q j)) ∧ (q j).isSome = flag j)
    (hown' : w3.ownsRow g 51 7 (.slice (some ⟨g, 0, none⟩) (k + 1) cap) (k + 1) (xs ++ [c0, c1, c2, c3, c4, c5, .pointer p])) (hp : p.isSome = flag k) (hb : Below g w0 w3) :
    Inv w0 w3 g cap (k + 1) flag := by
  have hl : xs.length = k * 7 := hown.1
  refine ⟨_, fun j => if j = k then p else q j, hown', fun j hj => ?_, hb⟩
  by_cases h : j = k
  · subst h
    refine ⟨?_, by simpa using hp⟩
    rw [List.getElem?_append_right (by omega), hl, show j * 7 + 6 - j * 7 = 6 by omega]
    simp
  · have := hq j (by omega)
    refine ⟨?_, by simpa [h] using this.2⟩
    rw [List.getElem?_append_left (by omega)]
    simpa [h] using this.1

theorem grown_size {w w' : World} {r : Option Nat} (h : w.grownBy w' r) : w.heap.size ≤ w'.heap.size := h.size
theorem lt_of_owns {w : World} {g k cap : Nat} {xs : List Value} (h : w.ownsRow g 51 7 (.slice (some ⟨g, 0, none⟩) k cap) k xs) : g < w.heap.size := by
  obtain ⟨_, h | ⟨g', cap', cur, hv, _, hh, _⟩⟩ := h
  · cases h.1
  · injection hv with h1 _ _
    injection h1 with h2
    injection h2 with h3
    subst h3
    exact (Array.getElem?_eq_some_iff.1 hh).1

theorem cell_new (w : World) (cs : List Value) (t : TypeId) (g : Nat) (hg : g = w.heap.size) (j : Nat) (u : Value) (h : cs[j]? = some u) :
    (w.alloc (.cells cs.toArray t)).cell? ((⟨g, 0, none⟩ : Addr).add j) = some u := by
  have e : (⟨g, 0, none⟩ : Addr).add j = ⟨g, j, none⟩ := by unfold Addr.add; split <;> simp_all
  rw [e, World.cell?_alloc_at _ _ _ _ hg]
  simpa using h
def feeL (a c : ByteArray) (p : Option Addr) : List Value := [.string a, .int .i64 0, .int .i64 0, .pointer none, .string c, .pointer none, .pointer p]
theorem feeL_one (a c : ByteArray) (p : Option Addr) : ∀ u ∈ feeL a c p, u.oneCell' = true := by
  intro u hu
  simp only [feeL, List.mem_cons, List.not_mem_nil, or_false] at hu
  rcases hu with rfl | rfl | rfl | rfl | rfl | rfl | rfl <;> rfl
def termsZ : Obj := .cells #[.string ⟨#[]⟩, .int .i64 0, .slice none 0 0, .slice none 0 0, .pointer none, .string ⟨#[]⟩, .slice none 0 0, .slice none 0 0, .pointer none, .string ⟨#[]⟩, .pointer none] 40

/-- what a call of buildTerms leaves: m fees, fee i with payment terms where flag i says so -/
def Built (w : World) (m : Nat) (flag : Nat → Bool) (e : Ending) (w' : World) : Prop :=
  ∃ (t0 t1 t2 t4 t5 t6 t7 t8 t9 t10 : Value) (g cap' : Nat) (q : Nat → Option Addr), e = .returned (.agg #[t0, t1, t2, .slice (some ⟨g, 0, none⟩) m cap', t4, t5, t6, t7, t8, t9, t10]) ∧
    FeesAt w' g m q ∧ (∀ i, i < m → (q i).isSome = flag i) ∧ Below w.heap.size w w'

theorem fees_of_inv {w0 wr : World} {g cap k t : Nat} {flag : Nat → Bool} {arr : Array Value} (h : Inv w0 wr g cap k flag) (ht : g ≠ t) :
    ∃ q, FeesAt (wr.setRow t arr) g k q ∧ ∀ i, i < k → (q i).isSome = flag i := by
  obtain ⟨xs, q, hown, hq, hb⟩ := h
  have hlt := lt_of_owns hown
  obtain ⟨hl, h | ⟨g', cap', cur, hv, _, hh, hc1, _, hc2, hc3⟩⟩ := hown
  · cases h.1
  injection hv with e1 _ e2
  injection e1 with e1
  injection e1 with e1
  subst e1 e2
  have hcell : ∀ o, o < k * 7 → (wr.setRow t arr).cell? ⟨g, o, none⟩ = xs[o]? := fun o ho => by
    rw [cell_setRow_other _ _ _ _ ht]
    rw [← hc3, List.getElem?_take_of_lt ho]
    simp [World.cell?, hh]
  have hex : ∀ o, o < k * 7 → ∃ c, (wr.setRow t arr).cell? ⟨g, o, none⟩ = some c := fun o ho =>
    ⟨xs[o]'(by omega), by rw [hcell o ho]; exact List.getElem?_eq_getElem (by omega)⟩
  refine ⟨q, ⟨by simpa using hlt, fun i hi => ?_⟩, fun i hi => (hq i hi).2⟩
  obtain ⟨c0, h0⟩ := hex (i * 7) (by omega)
  obtain ⟨c1, h1⟩ := hex (i * 7 + 1) (by omega)
  obtain ⟨c2, h2⟩ := hex (i * 7 + 2) (by omega)
  obtain ⟨c3, h3⟩ := hex (i * 7 + 3) (by omega)
  obtain ⟨c4, h4⟩ := hex (i * 7 + 4) (by omega)
  obtain ⟨c5, h5⟩ := hex (i * 7 + 5) (by omega)
  exact ⟨c0, c1, c2, c3, c4, c5, h0, h1, h2, h3, h4, h5, by rw [hcell _ (by omega)]; exact (hq i hi).1⟩

theorem below_setRow {B : Nat} {a w : World} (h : Below B a w) {g : Nat} (hg : B ≤ g) (cs : Array Value) : Below B a (w.setRow g cs) :=
  h.trans ⟨rfl, rfl, rfl, by simp, fun k hk => setRow_other _ _ _ _ (by omega)⟩

theorem built_end {w wr : World} {cap k : Nat} {flag : Nat → Bool} (h : Inv (w.alloc termsZ) wr (w.heap.size + 1) cap k flag) (t0 t1 t2 t4 t5 t6 t7 t8 t9 t10 : Value) (arr : Array Value) :
    Built w k flag (.returned (.agg #[t0, t1, t2, .slice (some ⟨w.heap.size + 1, 0, none⟩) k cap, t4, t5, t6, t7, t8, t9, t10])) (wr.setRow w.heap.size arr) := by
  obtain ⟨q, hf, hq⟩ := fees_of_inv (arr := arr) (t := w.heap.size) h (by omega)
  obtain ⟨_, _, _, _, hb⟩ := h
  exact ⟨t0, t1, t2, t4, t5, t6, t7, t8, t9, t10, _, _, q, rfl, hf, hq, below_setRow (((Below.refl _ _).alloc (Nat.le_refl _) _).trans (hb.mono (by omega))) (Nat.le_refl _) _⟩

/-- the fees of the terms with one more fee, which has payment terms -/
def extF (n : Nat) (P : Nat → Bool) (i : Nat) : Bool := decide (i = n) || P i

set_option maxRecDepth 10000 in
set_option maxHeartbeats 1000000 in
theorem build_keep (s0 s2 : ByteArray) (u : Int) (ca : Option Addr) (cl cc : Nat) (b off n cap : Nat) (N C : Nat → ByteArray) (P Q : Nat → Bool) (F T : Nat → Int) (w : World) (hn : n ≤ 16384) (hbw : b < w.heap.size)
    (hf : FeesIn w b off n N C P Q F T) :
    Calls Try.prog 10 #[.string s0, .int .i64 u, .string s2, .slice ca cl cc, .slice (some ⟨b, off, none⟩) n cap, .bool false, .bool false] w (Built w n P) := by
  obtain ⟨i0, hi, hz0, hz1, hz2⟩ := info_parts info51
  go_enter Try.func10, Try.ntmps10
  go_wp2_with (refine wpList_make_own _ rfl (.const (.int .i64 0)) (.tmp 24) 32 rfl (w.heap.size + 1) 51 i0 _ 7 Try.underlying32 hi hz0 hz1 .i64 .i64 (n : Int) n rfl rfl rfl (by rw [hz2]; omega) (by unfold maxLen; omega) (by simp) ?_; intro w1 hown1 hgrow1)
  simp only [World.size_alloc] at hown1
  have hi0 : Inv (w.alloc termsZ) w1 (w.heap.size + 1) n 0 P :=
    ⟨[], fun _ => none, hown1, fun j hj => by omega, (Below.refl _ _).grown hgrow1 (by simp) (fun k hk => by cases hk)⟩
  clear hown1 hgrow1
  go_loopw [16, 17] (fun v i wr => ∃ k : Nat, k ≤ n ∧ i = .int .i64 k ∧ v = .slice (some ⟨w.heap.size + 1, 0, none⟩) k n ∧ Inv (w.alloc termsZ) wr (w.heap.size + 1) n k P) (fun _ i _ => n - (intOf i).toNat)
  case atStart => exact ⟨0, by omega, rfl, rfl, hi0⟩
  case round =>
    obtain ⟨k, hk, rfl, rfl, hinv⟩ := hrel
    by_cases hlt : k < n
    · obtain ⟨xs, q, hown, hq, hb⟩ := hinv
      obtain ⟨h0, h1, h2, h3, h4, h5⟩ := hf k hlt
      have e : ∀ o, wr.cell? ⟨b, o, none⟩ = w.cell? ⟨b, o, none⟩ := fun o => by
        rw [hb.cell (p := ⟨b, o, none⟩) (by show b < _; omega)]; exact World.cell?_alloc_past _ _ _ hbw
      rw [← e] at h0 h1 h2 h3 h4 h5
      have hsz : w.heap.size + 1 < wr.heap.size := lt_of_owns hown
      have hbr : b < wr.heap.size := by omega
      have HQ : Hid (∀ j, j < k → xs[j * 7 + 6]? = some (.pointer (q j)) ∧ (q j).isSome = P j) := hq
      clear hq e hf hi0
      cases hp : P k with
      | true =>
        go_wp2
        go_region
        go_wp2
        go_region
        go_wp2_with (at_builtin; refine wpList_append_fits _ rfl (.tmp 70) (.tmp 72) 32 rfl (w.heap.size + 1) 51 i0 7 Try.underlying32 hi hz1 (w.heap.size + 1) k n xs rfl (((hown.alloc _).alloc _).alloc _).drew.drew ⟨wr.heap.size + 2, 0, none⟩ 1 1 (feeL (N k) (C k) (some ⟨wr.heap.size + 1, 0, none⟩)) rfl rfl (fun j u h => cell_new _ (feeL (N k) (C k) (some ⟨wr.heap.size + 1, 0, none⟩)) 51 _ (by simp) j u h) (feeL_one _ _ _) (by omega) ?_; intro w3 hown3 hgrow3)
        go_roundw
        case rel => exact ⟨k + 1, by omega, by go_num, rfl, inv_step hown HQ.out hown3 (by simp [hp]) ((((hb.alloc (by omega) _).alloc (by simp; omega) _).alloc (by simp; omega) _).drew.drew.grown hgrow3 (by simp; omega) (fun r hr => by cases hr; omega))⟩
        case measure => simp [intOf]; omega
      | false =>
        go_wp2
        go_region
        go_wp2_with (at_builtin; refine wpList_append_fits _ rfl (.tmp 70) (.tmp 72) 32 rfl (w.heap.size + 1) 51 i0 7 Try.underlying32 hi hz1 (w.heap.size + 1) k n xs rfl ((hown.alloc _).alloc _).drew ⟨wr.heap.size + 1, 0, none⟩ 1 1 (feeL (N k) (C k) none) rfl rfl (fun j u h => cell_new _ (feeL (N k) (C k) none) 51 _ (by simp) j u h) (feeL_one _ _ _) (by omega) ?_; intro w3 hown3 hgrow3)
        go_roundw
        case rel => exact ⟨k + 1, by omega, by go_num, rfl, inv_step hown HQ.out hown3 (by simp [hp]) (((hb.alloc (by omega) _).alloc (by simp; omega) _).drew.grown hgrow3 (by simp; omega) (fun r hr => by cases hr; omega))⟩
        case measure => simp [intOf]; omega
    · obtain rfl : k = n := by omega
      have hT : wr.heap[w.heap.size]? = some (.cells #[.string ⟨#[]⟩, .int .i64 0, .slice none 0 0, .slice none 0 0, .pointer none, .string ⟨#[]⟩, .slice none 0 0, .slice none 0 0, .pointer none, .string ⟨#[]⟩, .pointer none] 40 (0, 0)) := by
        obtain ⟨_, _, _, _, hb⟩ := hinv
        exact (hb.block _ (by omega)).trans (MapKept.heap_alloc w _).1
      have HI : Hid (Inv (w.alloc termsZ) wr (w.heap.size + 1) k k P) := hinv
      have cA := fun j => cell_setRow_same wr w.heap.size j _ (#[.string s0, .int .i64 u, .slice none 0 0, .slice (some ⟨w.heap.size + 1, 0, none⟩) k k, .pointer none, .string s2, .slice ca cl cc, .slice none 0 0, .pointer none, .string ⟨#[]⟩, .pointer none] : Array Value) _ _ hT
      have h1c : (#[.string s0, .int .i64 u, .slice none 0 0, .slice (some ⟨w.heap.size + 1, 0, none⟩) k k, .pointer none, .string s2, .slice ca cl cc, .slice none 0 0, .pointer none, .string ⟨#[]⟩, .pointer none] : Array Value).all (·.oneCell') = true := by simp [Value.oneCell']
      have hsi : (Try.prog.info? 40).map (·.size) = some (#[.string s0, .int .i64 u, .slice none 0 0, .slice (some ⟨w.heap.size + 1, 0, none⟩) k k, .pointer none, .string s2, .slice ca cl cc, .slice none 0 0, .pointer none, .string ⟨#[]⟩, .pointer none] : Array Value).size := by kernel_rfl
      clear hf hi0 hinv
      go_wp2_with (refine wpList_store_row rfl 40 (.tmp 14) (.tmp 86) rfl w.heap.size #[.string s0, .int .i64 u, .slice none 0 0, .slice (some ⟨w.heap.size + 1, 0, none⟩) k k, .pointer none, .string s2, .slice ca cl cc, .slice none 0 0, .pointer none, .string ⟨#[]⟩, .pointer none] rfl rfl 40 _ hT hsi rfl h1c ?_)
      exact bodyPost_ret (v := .agg #[.string s0, .int .i64 u, .slice none 0 0, .slice (some ⟨w.heap.size + 1, 0, none⟩) k k, .pointer none, .string s2, .slice ca cl cc, .slice none 0 0, .pointer none, .string ⟨#[]⟩, .pointer none]) (by simp [results, Try.results10, go_sem, cA]) rfl (built_end HI.out _ _ _ _ _ _ _ _ _ _ _)

set_option maxRecDepth 10000 in
set_option maxHeartbeats 1000000 in
theorem build_extra (s0 s2 : ByteArray) (u : Int) (ca : Option Addr) (cl cc : Nat) (b off n cap : Nat) (N C : Nat → ByteArray) (P Q : Nat → Bool) (F T : Nat → Int) (w : World) (hn : n ≤ 16384) (hbw : b < w.heap.size)
    (hf : FeesIn w b off n N C P Q F T) :
    Calls Try.prog 10 #[.string s0, .int .i64 u, .string s2, .slice ca cl cc, .slice (some ⟨b, off, none⟩) n cap, .bool true, .bool false] w (Built w (n + 1) (extF n P)) := by
  obtain ⟨i0, hi, hz0, hz1, hz2⟩ := info_parts info51
  go_enter Try.func10, Try.ntmps10
  go_wp2_with (refine wpList_make_own _ rfl (.const (.int .i64 0)) (.tmp 24) 32 rfl (w.heap.size + 1) 51 i0 _ 7 Try.underlying32 hi hz0 hz1 .i64 .i64 ((n : Int) + 1) (n + 1) rfl rfl (by omega) (by rw [hz2]; omega) (by unfold maxLen; omega) (by simp) ?_; intro w1 hown1 hgrow1)
  simp only [World.size_alloc] at hown1
  have hi0 : Inv (w.alloc termsZ) w1 (w.heap.size + 1) (n + 1) 0 (extF n P) :=
    ⟨[], fun _ => none, hown1, fun j hj => by omega, (Below.refl _ _).grown hgrow1 (by simp) (fun k hk => by cases hk)⟩
  clear hown1 hgrow1
  go_loopw [16, 17] (fun v i wr => ∃ k : Nat, k ≤ n ∧ i = .int .i64 k ∧ v = .slice (some ⟨w.heap.size + 1, 0, none⟩) k (n + 1) ∧ Inv (w.alloc termsZ) wr (w.heap.size + 1) (n + 1) k (extF n P)) (fun _ i _ => n - (intOf i).toNat)
  case atStart => exact ⟨0, by omega, rfl, rfl, hi0⟩
  case round =>
    obtain ⟨k, hk, rfl, rfl, hinv⟩ := hrel
    by_cases hlt : k < n
    · obtain ⟨xs, q, hown, hq, hb⟩ := hinv
      obtain ⟨h0, h1, h2, h3, h4, h5⟩ := hf k hlt
      have e : ∀ o, wr.cell? ⟨b, o, none⟩ = w.cell? ⟨b, o, none⟩ := fun o => by
        rw [hb.cell (p := ⟨b, o, none⟩) (by show b < _; omega)]; exact World.cell?_alloc_past _ _ _ hbw
      rw [← e] at h0 h1 h2 h3 h4 h5
      have hsz : w.heap.size + 1 < wr.heap.size := lt_of_owns hown
      have hbr : b < wr.heap.size := by omega
      have HQ : Hid (∀ j, j < k → xs[j * 7 + 6]? = some (.pointer (q j)) ∧ (q j).isSome = (extF n P) j) := hq
      clear hq e hf hi0
      cases hp : P k with
      | true =>
        go_wp2
        go_region
        go_wp2
        go_region
        go_wp2_with (at_builtin; refine wpList_append_fits _ rfl (.tmp 70) (.tmp 72) 32 rfl (w.heap.size + 1) 51 i0 7 Try.underlying32 hi hz1 (w.heap.size + 1) k (n + 1) xs rfl (((hown.alloc _).alloc _).alloc _).drew.drew ⟨wr.heap.size + 2, 0, none⟩ 1 1 (feeL (N k) (C k) (some ⟨wr.heap.size + 1, 0, none⟩)) rfl rfl (fun j u h => cell_new _ (feeL (N k) (C k) (some ⟨wr.heap.size + 1, 0, none⟩)) 51 _ (by simp) j u h) (feeL_one _ _ _) (by omega) ?_; intro w3 hown3 hgrow3)
        go_roundw
        case rel => exact ⟨k + 1, by omega, by go_num, rfl, inv_step hown HQ.out hown3 (by simp [extF, hp, Nat.ne_of_lt hlt]) ((((hb.alloc (by omega) _).alloc (by simp; omega) _).alloc (by simp; omega) _).drew.drew.grown hgrow3 (by simp; omega) (fun r hr => by cases hr; omega))⟩
        case measure => simp [intOf]; omega
      | false =>
        go_wp2
        go_region
        go_wp2_with (at_builtin; refine wpList_append_fits _ rfl (.tmp 70) (.tmp 72) 32 rfl (w.heap.size + 1) 51 i0 7 Try.underlying32 hi hz1 (w.heap.size + 1) k (n + 1) xs rfl ((hown.alloc _).alloc _).drew ⟨wr.heap.size + 1, 0, none⟩ 1 1 (feeL (N k) (C k) none) rfl rfl (fun j u h => cell_new _ (feeL (N k) (C k) none) 51 _ (by simp) j u h) (feeL_one _ _ _) (by omega) ?_; intro w3 hown3 hgrow3)
        go_roundw
        case rel => exact ⟨k + 1, by omega, by go_num, rfl, inv_step hown HQ.out hown3 (by simp [extF, hp, Nat.ne_of_lt hlt]) (((hb.alloc (by omega) _).alloc (by simp; omega) _).drew.grown hgrow3 (by simp; omega) (fun r hr => by cases hr; omega))⟩
        case measure => simp [intOf]; omega
    · obtain rfl : k = n := by omega
      obtain ⟨xs, q, hown, hq, hb⟩ := hinv
      have hsz : w.heap.size + 1 < wr.heap.size := lt_of_owns hown
      have HQ : Hid (∀ j, j < k → xs[j * 7 + 6]? = some (.pointer (q j)) ∧ (q j).isSome = (extF k P) j) := hq
      clear hq hf hi0
      have h1c : (#[.string s0, .int .i64 u, .slice none 0 0, .slice (some ⟨w.heap.size + 1, 0, none⟩) (k + 1) (k + 1), .pointer none, .string s2, .slice ca cl cc, .slice none 0 0, .pointer none, .string ⟨#[]⟩, .pointer none] : Array Value).all (·.oneCell') = true := by simp [Value.oneCell']
      have hsi : (Try.prog.info? 40).map (·.size) = some (#[.string s0, .int .i64 u, .slice none 0 0, .slice (some ⟨w.heap.size + 1, 0, none⟩) (k + 1) (k + 1), .pointer none, .string s2, .slice ca cl cc, .slice none 0 0, .pointer none, .string ⟨#[]⟩, .pointer none] : Array Value).size := by kernel_rfl
      go_wp2_with (first | (at_builtin; refine wpList_append_fits _ rfl (.tmp 75) (.tmp 79) 32 rfl (w.heap.size + 1) 51 i0 7 Try.underlying32 hi hz1 (w.heap.size + 1) k (k + 1) xs rfl ((hown.alloc _).alloc _) ⟨wr.heap.size + 1, 0, none⟩ 1 1 (feeL ⟨#[122, 122, 45, 101, 120, 116, 114, 97]⟩ ⟨#[]⟩ (some ⟨wr.heap.size, 0, none⟩)) rfl rfl (fun j u h => cell_new _ (feeL ⟨#[122, 122, 45, 101, 120, 116, 114, 97]⟩ ⟨#[]⟩ (some ⟨wr.heap.size, 0, none⟩)) 51 _ (by simp) j u h) (feeL_one _ _ _) (by omega) ?_; intro w3 hown3 hgrow3; have hb3 : Below (w.heap.size + 1) (w.alloc termsZ) w3 := (((hb.alloc (by omega) _).alloc (by simp; omega) _).grown hgrow3 (by simp; omega) (fun r hr => by cases hr; omega)); have hT : w3.heap[w.heap.size]? = some (.cells #[.string ⟨#[]⟩, .int .i64 0, .slice none 0 0, .slice none 0 0, .pointer none, .string ⟨#[]⟩, .slice none 0 0, .slice none 0 0, .pointer none, .string ⟨#[]⟩, .pointer none] 40 (0, 0)) := (hb3.block _ (by omega)).trans (MapKept.heap_alloc w _).1) | refine wpList_store_row rfl 40 (.tmp 14) (.tmp 86) rfl w.heap.size #[.string s0, .int .i64 u, .slice none 0 0, .slice (some ⟨w.heap.size + 1, 0, none⟩) (k + 1) (k + 1), .pointer none, .string s2, .slice ca cl cc, .slice none 0 0, .pointer none, .string ⟨#[]⟩, .pointer none] rfl rfl 40 _ hT hsi rfl h1c ?_)
      have cA := fun j => cell_setRow_same w3 w.heap.size j _ (#[.string s0, .int .i64 u, .slice none 0 0, .slice (some ⟨w.heap.size + 1, 0, none⟩) (k + 1) (k + 1), .pointer none, .string s2, .slice ca cl cc, .slice none 0 0, .pointer none, .string ⟨#[]⟩, .pointer none] : Array Value) _ _ hT
      exact bodyPost_ret (v := .agg #[.string s0, .int .i64 u, .slice none 0 0, .slice (some ⟨w.heap.size + 1, 0, none⟩) (k + 1) (k + 1), .pointer none, .string s2, .slice ca cl cc, .slice none 0 0, .pointer none, .string ⟨#[]⟩, .pointer none]) (by simp [results, Try.results10, go_sem, cA]) rfl (built_end (inv_step hown HQ.out hown3 (by simp [extF]) hb3) _ _ _ _ _ _ _ _ _ _ _)

set_option maxRecDepth 10000 in
set_option maxHeartbeats 1000000 in
theorem build_clear (s0 s2 : ByteArray) (u : Int) (ca : Option Addr) (cl cc : Nat) (b off n cap : Nat) (N C : Nat → ByteArray) (P Q : Nat → Bool) (F T : Nat → Int) (w : World) (hn : n ≤ 16384) (hbw : b < w.heap.size)
    (hf : FeesIn w b off n N C P Q F T) :
    Calls Try.prog 10 #[.string s0, .int .i64 u, .string s2, .slice ca cl cc, .slice (some ⟨b, off, none⟩) n cap, .bool false, .bool true] w (Built w n (fun _ => false)) := by
  obtain ⟨i0, hi, hz0, hz1, hz2⟩ := info_parts info51
  go_enter Try.func10, Try.ntmps10
  go_wp2_with (refine wpList_make_own _ rfl (.const (.int .i64 0)) (.tmp 24) 32 rfl (w.heap.size + 1) 51 i0 _ 7 Try.underlying32 hi hz0 hz1 .i64 .i64 (n : Int) n rfl rfl rfl (by rw [hz2]; omega) (by unfold maxLen; omega) (by simp) ?_; intro w1 hown1 hgrow1)
  simp only [World.size_alloc] at hown1
  have hi0 : Inv (w.alloc termsZ) w1 (w.heap.size + 1) n 0 (fun _ => false) :=
    ⟨[], fun _ => none, hown1, fun j hj => by omega, (Below.refl _ _).grown hgrow1 (by simp) (fun k hk => by cases hk)⟩
  clear hown1 hgrow1
  go_loopw [16, 17] (fun v i wr => ∃ k : Nat, k ≤ n ∧ i = .int .i64 k ∧ v = .slice (some ⟨w.heap.size + 1, 0, none⟩) k n ∧ Inv (w.alloc termsZ) wr (w.heap.size + 1) n k (fun _ => false)) (fun _ i _ => n - (intOf i).toNat)
  case atStart => exact ⟨0, by omega, rfl, rfl, hi0⟩
  case round =>
    obtain ⟨k, hk, rfl, rfl, hinv⟩ := hrel
    by_cases hlt : k < n
    · obtain ⟨xs, q, hown, hq, hb⟩ := hinv
      obtain ⟨h0, h1, h2, h3, h4, h5⟩ := hf k hlt
      have e : ∀ o, wr.cell? ⟨b, o, none⟩ = w.cell? ⟨b, o, none⟩ := fun o => by
        rw [hb.cell (p := ⟨b, o, none⟩) (by show b < _; omega)]; exact World.cell?_alloc_past _ _ _ hbw
      rw [← e] at h0 h1 h2 h3 h4 h5
      have hsz : w.heap.size + 1 < wr.heap.size := lt_of_owns hown
      have hbr : b < wr.heap.size := by omega
      have HQ : Hid (∀ j, j < k → xs[j * 7 + 6]? = some (.pointer (q j)) ∧ (q j).isSome = (fun _ => false) j) := hq
      clear hq e hf hi0
      cases hp : P k with
      | true =>
        go_wp2
        go_region
        go_wp2_with (at_builtin; refine wpList_append_fits _ rfl (.tmp 70) (.tmp 72) 32 rfl (w.heap.size + 1) 51 i0 7 Try.underlying32 hi hz1 (w.heap.size + 1) k n xs rfl ((hown.alloc _).alloc _).drew ⟨wr.heap.size + 1, 0, none⟩ 1 1 (feeL (N k) (C k) none) rfl rfl (fun j u h => cell_new _ (feeL (N k) (C k) none) 51 _ (by simp) j u h) (feeL_one _ _ _) (by omega) ?_; intro w3 hown3 hgrow3)
        go_roundw
        case rel => exact ⟨k + 1, by omega, by go_num, rfl, inv_step hown HQ.out hown3 rfl (((hb.alloc (by omega) _).alloc (by simp; omega) _).drew.grown hgrow3 (by simp; omega) (fun r hr => by cases hr; omega))⟩
        case measure => simp [intOf]; omega
      | false =>
        go_wp2
        go_region
        go_wp2_with (at_builtin; refine wpList_append_fits _ rfl (.tmp 70) (.tmp 72) 32 rfl (w.heap.size + 1) 51 i0 7 Try.underlying32 hi hz1 (w.heap.size + 1) k n xs rfl ((hown.alloc _).alloc _).drew ⟨wr.heap.size + 1, 0, none⟩ 1 1 (feeL (N k) (C k) none) rfl rfl (fun j u h => cell_new _ (feeL (N k) (C k) none) 51 _ (by simp) j u h) (feeL_one _ _ _) (by omega) ?_; intro w3 hown3 hgrow3)
        go_roundw
        case rel => exact ⟨k + 1, by omega, by go_num, rfl, inv_step hown HQ.out hown3 rfl (((hb.alloc (by omega) _).alloc (by simp; omega) _).drew.grown hgrow3 (by simp; omega) (fun r hr => by cases hr; omega))⟩
        case measure => simp [intOf]; omega
    · obtain rfl : k = n := by omega
      have hT : wr.heap[w.heap.size]? = some (.cells #[.string ⟨#[]⟩, .int .i64 0, .slice none 0 0, .slice none 0 0, .pointer none, .string ⟨#[]⟩, .slice none 0 0, .slice none 0 0, .pointer none, .string ⟨#[]⟩, .pointer none] 40 (0, 0)) := by
        obtain ⟨_, _, _, _, hb⟩ := hinv
        exact (hb.block _ (by omega)).trans (MapKept.heap_alloc w _).1
      have HI : Hid (Inv (w.alloc termsZ) wr (w.heap.size + 1) k k (fun _ => false)) := hinv
      have cA := fun j => cell_setRow_same wr w.heap.size j _ (#[.string s0, .int .i64 u, .slice none 0 0, .slice (some ⟨w.heap.size + 1, 0, none⟩) k k, .pointer none, .string s2, .slice ca cl cc, .slice none 0 0, .pointer none, .string ⟨#[]⟩, .pointer none] : Array Value) _ _ hT
      have h1c : (#[.string s0, .int .i64 u, .slice none 0 0, .slice (some ⟨w.heap.size + 1, 0, none⟩) k k, .pointer none, .string s2, .slice ca cl cc, .slice none 0 0, .pointer none, .string ⟨#[]⟩, .pointer none] : Array Value).all (·.oneCell') = true := by simp [Value.oneCell']
      have hsi : (Try.prog.info? 40).map (·.size) = some (#[.string s0, .int .i64 u, .slice none 0 0, .slice (some ⟨w.heap.size + 1, 0, none⟩) k k, .pointer none, .string s2, .slice ca cl cc, .slice none 0 0, .pointer none, .string ⟨#[]⟩, .pointer none] : Array Value).size := by kernel_rfl
      clear hf hi0 hinv
      go_wp2_with (refine wpList_store_row rfl 40 (.tmp 14) (.tmp 86) rfl w.heap.size #[.string s0, .int .i64 u, .slice none 0 0, .slice (some ⟨w.heap.size + 1, 0, none⟩) k k, .pointer none, .string s2, .slice ca cl cc, .slice none 0 0, .pointer none, .string ⟨#[]⟩, .pointer none] rfl rfl 40 _ hT hsi rfl h1c ?_)
      exact bodyPost_ret (v := .agg #[.string s0, .int .i64 u, .slice none 0 0, .slice (some ⟨w.heap.size + 1, 0, none⟩) k k, .pointer none, .string s2, .slice ca cl cc, .slice none 0 0, .pointer none, .string ⟨#[]⟩, .pointer none]) (by simp [results, Try.results10, go_sem, cA]) rfl (built_end HI.out _ _ _ _ _ _ _ _ _ _ _)

end Go.Proofs.Qxb6612167a
