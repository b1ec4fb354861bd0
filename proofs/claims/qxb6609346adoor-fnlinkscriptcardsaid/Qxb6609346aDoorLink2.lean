/-
  link and ZZlink over the queue as a whole.
-/
import Derived.Test.Qxb6609346aDoorLink
import Derived.Deep.RegionWith
namespace Go.Proofs.Qxb6609346aDoor
open Go.ChangeShapes Go.WideShapes Go.ChangeAt Go.RowKit

theorem below_q {B : Nat} {w w' : World} (h : Below B w w') {g : Nat} (hg : B ≤ g) (o : Nat) (v : Value) : Below B w (w'.setCell ⟨g, o, none⟩ v) := h.setCell (p := ⟨g, o, none⟩) hg v

theorem heap_drew (w : World) : w.drew.heap = w.heap := rfl
/-- what link and unlink leave alone: every block that was there and is none of the queue's -/
def Frame (L : Lay) (s : St) (w w' : World) : Prop := ∀ b, b < w.heap.size → b ≠ L.q → (∀ j, j < L.m → b ≠ L.K j) → (∀ hb, s.hd = some hb → b ≠ hb) → w'.heap[b]? = w.heap[b]?

theorem Rep.link {B : Nat} {w : World} {L : Lay} {base : Int} {s : St} (h : Rep B w L base s) (hB : B ≤ w.heap.size) (hm : L.m ≤ 64) (id n : Nat) (hid : id < 1024 * L.m) (hn : n ≤ 35184372088832) (f1 : 0 ≤ s.filled) (f2 : s.filled ≤ 32768)
    (hhd : s.H (n % 32768) = -1 ∨ ∃ g : Nat, s.H (n % 32768) = g ∧ g < 1024 * L.m ∧ g ≠ id) :
    Calls Tryd.prog 12 #[.pointer (some ⟨L.q, 5, none⟩), .pointer (some ⟨L.q, 0, none⟩), .int .i32 id, .int .i64 n] w fun e w' => e = .returned (.tuple #[]) ∧ (∃ hb, (s.hd = some hb ∨ (s.hd = none ∧ w.heap.size ≤ hb)) ∧ Rep B w' L base (linkSt s hb id (n % 32768))) ∧ Below B w w' ∧ Frame L s w w' := by
  have e64 : n % 32768 % 64 = n % 64 := by omega
  have hK : B ≤ L.K (id / 1024) := h.gek _ (by omega)
  have hkq := h.k_ne_q (id / 1024) (by omega)
  cases hh : s.hd with
  | none =>
    have hi : s.H (n % 32768) = -1 := h.noHeads hh _ (by omega)
    refine (link_nil h hh hB hm id n hid hn f1 f2 (.int .i32 0) rfl _ _ rfl rfl).mono ?_
    rintro e w' ⟨rfl, wr, hF, rfl⟩
    have R0 := h.ofFilled hh hB hF
    have R1 := (((R0.setAt id hid (-1)).setNext id hid (-1)).setWord (n % 32768 / 64) (orW (s.W (n % 32768 / 64)) (n % 64))).setFilled (s.filled + 1)
    have R2 := (R1.setHead (hb := w.heap.size) rfl (n % 32768) id).drew
    refine ⟨rfl, ⟨w.heap.size, Or.inr ⟨rfl, Nat.le_refl _⟩, ?_⟩, ?_, fun b k1 k2 k3 _ => ?_⟩
    · unfold linkSt
      rw [if_pos hi, e64]
      exact R2
    · have b0 : Below B w wr := hF.below.mono h.geq
      exact (below_q (below_q (below_q (below_q (below_q b0 hK _ _) hK _ _) h.geq _ _) h.geq _ _) hB _ _).drew
    · rw [heap_drew, Below.heap_setCell _ _ _ _ (by show b ≠ w.heap.size; omega), Below.heap_setCell _ _ _ _ k2, Below.heap_setCell _ _ _ _ k2, Below.heap_setCell _ _ _ _ (k3 _ (by omega)), Below.heap_setCell _ _ _ _ (k3 _ (by omega)), hF.same b k1, Below.heap_setCell _ _ _ _ k2]
  | some hb =>
    have hq2 := h.h_ne_q hh
    have hkh := h.k_ne_h hh (id / 1024) (by omega)
    have hBh := (h.heads hb hh).2
    have c7 : w.cell? ⟨L.q, 7, none⟩ = some (.slice (some ⟨hb, 0, none⟩) 32768 32768) := by rw [h.headsC, hh]; rfl
    rcases hhd with hi | ⟨g, hi, hg, hne⟩
    · refine (link_none L.q hb (L.K (id / 1024)) (1024 + id % 1024 * 4) id n hn s.filled (s.W (n % 32768 / 64)) f1 f2 (s.A id) (s.X id) w (h.slot id hm hid) hkq hq2 hkh h.filledC c7 (h.wordC _ (by omega)) h.qF (fun o => h.kF id o hid) (h.hF hh) (h.atC id hid) (h.nextC id hid) (by rw [h.headC hh _ (by omega), hi])).mono ?_
      rintro e w' ⟨rfl, rfl⟩
      have R1 := (((h.setAt id hid (-1)).setNext id hid (-1)).setWord (n % 32768 / 64) (orW (s.W (n % 32768 / 64)) (n % 64))).setFilled (s.filled + 1)
      have R2 := (R1.setHead (hb := hb) hh (n % 32768) id).drew
      refine ⟨rfl, ⟨hb, Or.inl rfl, ?_⟩, ?_, fun b k1 k2 k3 k4 => ?_⟩
      · unfold linkSt
        rw [if_pos hi, e64, ← hh]
        exact R2
      · exact (below_q (below_q (below_q (below_q (below_q (Below.refl B w) hK _ _) hK _ _) h.geq _ _) h.geq _ _) hBh _ _).drew
      · rw [heap_drew, Below.heap_setCell _ _ _ _ (k4 _ hh), Below.heap_setCell _ _ _ _ k2, Below.heap_setCell _ _ _ _ k2, Below.heap_setCell _ _ _ _ (k3 _ (by omega)), Below.heap_setCell _ _ _ _ (k3 _ (by omega))]
    · have hKg : B ≤ L.K (g / 1024) := h.gek _ (by omega)
      have R1 := (h.setAt id hid (-1)).setNext id hid g
      have hs' := R1.slot g hm hg
      have R2 := R1.setAt g hg id
      have R3 := R2.setHead (hb := hb) hh (n % 32768) id
      have fin : ∀ e w', e = .returned (.tuple #[]) ∧ w' = (((w.setCell ⟨L.K (id / 1024), 1024 + id % 1024 * 4 + 2, none⟩ (.int .i32 (-1))).setCell ⟨L.K (id / 1024), 1024 + id % 1024 * 4 + 3, none⟩ (.int .i32 g)).setCell ⟨L.K (g / 1024), 1024 + g % 1024 * 4 + 2, none⟩ (.int .i32 id)).setCell ⟨hb, n % 32768, none⟩ (.int .i32 id) →
          e = Ending.returned (.tuple #[]) ∧ (∃ hb', (some hb = some hb' ∨ (some hb = none ∧ w.heap.size ≤ hb')) ∧ Rep B w' L base (linkSt s hb' id (n % 32768))) ∧ Below B w w' ∧ Frame L s w w' := by
        rintro e w' ⟨rfl, rfl⟩
        refine ⟨rfl, ⟨hb, Or.inl rfl, ?_⟩, below_q (below_q (below_q (below_q (Below.refl B w) hK _ _) hK _ _) hKg _ _) hBh _ _, fun b k1 k2 k3 k4 => by rw [Below.heap_setCell _ _ _ _ (k4 _ hh), Below.heap_setCell _ _ _ _ (k3 _ (by omega)), Below.heap_setCell _ _ _ _ (k3 _ (by omega)), Below.heap_setCell _ _ _ _ (k3 _ (by omega))]⟩
        unfold linkSt
        rw [if_neg (by rw [hi]; omega), hi, ← hh, show ((g : Int)).toNat = g by omega]
        exact R3
      by_cases hk : L.K (g / 1024) = L.K (id / 1024)
      · have hgi : g / 1024 = id / 1024 := h.inj _ _ (by omega) (by omega) hk
        have ca' := h.atC g hg
        rw [hk] at ca' hs' fin
        exact (link_near L.q hb (L.K (id / 1024)) (1024 + id % 1024 * 4) (1024 + g % 1024 * 4) id n g hn (s.A id) (s.X id) (s.A g) w (h.slot id hm hid) hs' hkq hq2 hkh (by omega) c7 (fun o => h.kF id o hid) (h.hF hh) (h.atC id hid) (h.nextC id hid) (by rw [h.headC hh _ (by omega), hi]) ca').mono fin
      · exact (link_far L.q hb (L.K (id / 1024)) (1024 + id % 1024 * 4) (L.K (g / 1024)) (1024 + g % 1024 * 4) id n g hn (s.A id) (s.X id) (s.A g) w (h.slot id hm hid) hs' hkq hq2 hkh (h.k_ne_q _ (by omega)) (h.k_ne_h hh _ (by omega)) hk c7 (fun o => h.kF id o hid) (h.hF hh) (fun o => h.kF g o hg) (h.atC id hid) (h.nextC id hid) (by rw [h.headC hh _ (by omega), hi]) (h.atC g hg)).mono fin

set_option maxHeartbeats 1000000 in
theorem zzlink_walk (q id n : Nat) (w : World) (Q : World → Prop) (h : ∀ k, Calls Tryd.prog 12 #[.pointer (some ⟨q, 5, none⟩), .pointer (some ⟨q, 0, none⟩), .int .i32 id, .int .i64 n] (w.drewN k) fun e w' => e = .returned (.tuple #[]) ∧ Q w') :
    Calls Tryd.prog 6 #[.pointer (some ⟨q, 0, none⟩), .int .i32 id, .int .i64 n] w fun e w' => e = .returned (.tuple #[]) ∧ Q w' := by
  have H : Hid (∀ k, Calls Tryd.prog 12 #[.pointer (some ⟨q, 5, none⟩), .pointer (some ⟨q, 0, none⟩), .int .i32 id, .int .i64 n] (w.drewN k) fun e w' => e = .returned (.tuple #[]) ∧ Q w') := h
  clear h
  go_enter Tryd.func6, Tryd.ntmps6
  go_wp2
  go_region_with (go_at_call 12; refine (H.out 1).mono ?_; rintro e w1 ⟨rfl, hQ⟩)
  all_goals
    go_end0
    exact ⟨rfl, hQ⟩

theorem below_drewN (B : Nat) (w : World) (m : Nat) : Below B w (w.drewN m) := by
  induction m with
  | zero => exact Below.refl _ _
  | succ m ih => exact ih.drew
theorem size_drewN (w : World) (m : Nat) : (w.drewN m).heap.size = w.heap.size := by
  induction m with
  | zero => rfl
  | succ m ih => exact ih

theorem heap_drewN (w : World) (m : Nat) : (w.drewN m).heap = w.heap := by
  induction m with
  | zero => rfl
  | succ m ih => exact ih

theorem Rep.zzlink {B : Nat} {w : World} {L : Lay} {base : Int} {s : St} (h : Rep B w L base s) (hB : B ≤ w.heap.size) (hm : L.m ≤ 64) (id n : Nat) (hid : id < 1024 * L.m) (hn : n ≤ 35184372088832) (f1 : 0 ≤ s.filled) (f2 : s.filled ≤ 32768)
    (hhd : s.H (n % 32768) = -1 ∨ ∃ g : Nat, s.H (n % 32768) = g ∧ g < 1024 * L.m ∧ g ≠ id) :
    Calls Tryd.prog 6 #[.pointer (some ⟨L.q, 0, none⟩), .int .i32 id, .int .i64 n] w fun e w' => e = .returned (.tuple #[]) ∧ (∃ hb, (s.hd = some hb ∨ (s.hd = none ∧ w.heap.size ≤ hb)) ∧ Rep B w' L base (linkSt s hb id (n % 32768))) ∧ Below B w w' ∧ Frame L s w w' :=
  zzlink_walk L.q id n w (fun w' => (∃ hb, (s.hd = some hb ∨ (s.hd = none ∧ w.heap.size ≤ hb)) ∧ Rep B w' L base (linkSt s hb id (n % 32768))) ∧ Below B w w' ∧ Frame L s w w') fun k => by
    refine ((h.drewN k).link (by rw [size_drewN]; exact hB) hm id n hid hn f1 f2 hhd).mono ?_
    rintro e w' ⟨he, hR, hb, hf⟩
    rw [size_drewN] at hR
    exact ⟨he, hR, (below_drewN B w k).trans hb, fun b k1 k2 k3 k4 => by rw [hf b (by rw [size_drewN]; exact k1) k2 k3 k4, heap_drewN]⟩
end Go.Proofs.Qxb6609346aDoor
