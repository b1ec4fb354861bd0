/-
  The queue beside rows that are none of its own.
-/
import Derived.Test.Qxb6609346aDoorLink2
namespace Go.Proofs.Qxb6609346aDoor
open Go.ChangeShapes Go.WideShapes Go.ChangeAt Go.RowKit

section
variable {B : Nat} {w : World} {L : Lay} {base : Int} {s : St}
theorem Rep.setOther (h : Rep B w L base s) (g o : Nat) (v : Value) (h1 : L.q ≠ g) (h2 : 0 < L.m → L.cb ≠ g) (h3 : ∀ j, j < L.m → L.K j ≠ g) (h4 : ∀ hb, s.hd = some hb → hb ≠ g) : Rep B (w.setCell ⟨g, o, none⟩ v) L base s := by
  obtain ⟨J, hr, k⟩ := h.row
  refine ⟨⟨J, hr.setOther h1 _, k⟩, fun hm => ?_, fun j hj => ?_, h.inj, fun hb hh => ?_, h.noHeads, h.geq, h.gek⟩
  · obtain ⟨hle, J2, hr2, k2⟩ := h.slab hm
    exact ⟨hle, J2, hr2.setOther (h2 hm) _, k2⟩
  · obtain ⟨D, hd, k1⟩ := h.chunk j hj
    exact ⟨D, hd.setOther (h3 j hj) _, k1⟩
  · obtain ⟨k1, k2⟩ := h.heads hb hh
    exact ⟨k1.setOther (h4 hb hh) _, k2⟩
theorem Rep.setRow (h : Rep B w L base s) {g n : Nat} {t : TypeId} {f : Nat → Value} (hg : w.rowIs g t n f) (t1 : 48 ≠ t) (t2 : 49 ≠ t) (t3 : 55 ≠ t) (h4 : ∀ hb, s.hd = some hb → hb ≠ g) (o : Nat) (v : Value) : Rep B (w.setCell ⟨g, o, none⟩ v) L base s := by
  obtain ⟨J, hr, _⟩ := h.row
  refine h.setOther g o v (rowIs_ne hr hg t1) (fun hm => ?_) (fun j hj => ?_) h4
  · obtain ⟨_, J2, hr2, _⟩ := h.slab hm
    exact rowIs_ne hr2 hg t2
  · obtain ⟨D, hd, _⟩ := h.chunk j hj
    exact rowIs_ne hd hg t3
theorem Rep.hd_ne (h : Rep B w L base s) {g n : Nat} {t : TypeId} {f : Nat → Value} (hg : w.rowIs g t n f) (t4 : 21 ≠ t) : ∀ hb, s.hd = some hb → hb ≠ g := fun hb hh => rowIs_ne (h.heads hb hh).1 hg t4
theorem Rep.framed (h : Rep B w L base s) {w' : World} (hF : Frame L s w w') {g n : Nat} {t : TypeId} {f : Nat → Value} (hg : w.rowIs g t n f) (t1 : 48 ≠ t) (t3 : 55 ≠ t) (h4 : ∀ hb, s.hd = some hb → hb ≠ g) : w'.rowIs g t n f := by
  obtain ⟨J, hr, _⟩ := h.row
  refine hg.of_block (hF g hg.lt (Ne.symm (rowIs_ne hr hg t1)) (fun j hj => ?_) (fun hb hh => Ne.symm (h4 hb hh)))
  obtain ⟨D, hd, _⟩ := h.chunk j hj
  exact Ne.symm (rowIs_ne hd hg t3)
end
theorem rowIs_drewN {w : World} {g n : Nat} {t : TypeId} {f : Nat → Value} (h : w.rowIs g t n f) (k : Nat) : (w.drewN k).rowIs g t n f := h.of_block (by rw [heap_drewN])
end Go.Proofs.Qxb6609346aDoor
