/-
  FnLinkScript: what the whole way holds of memory, loop by loop.
-/
import Derived.Test.Qxb6609346aDoorEarly
import Derived.Deep.CutBlock
namespace Go.Proofs.Qxb6609346aDoor
open Go.ChangeShapes Go.WideShapes Go.ChangeAt Go.RowKit

theorem IntsView.at {kd : IntKind} {w wr : World} {ao : Option Addr} {k : Nat} {z : Nat → Int} (h : IntsView kd w ao k z) (hb : Below w.heap.size w wr) (hk : 0 < k) :
    ∃ g o, ao = some ⟨g, o, none⟩ ∧ ∀ i, i < k → wr.cell? ⟨g, o + i, none⟩ = some (.int kd (z i)) := by
  obtain ⟨g, o, e, hg, hc⟩ := h hk
  exact ⟨g, o, e, fun i hi => (hb.cell (p := ⟨g, o + i, none⟩) hg).trans (hc i hi)⟩
theorem TabAt.at {w wr : World} (h : TabAt w) (h0 : 0 < w.heap.size) (hb : Below w.heap.size w wr) : TabAt wr := fun j hj => (hb.cell (p := ⟨0, j, none⟩) h0).trans (h j hj)

/-- the greatest slot of the first m, or -1 -/
def mxF (ids : Nat → Nat) : Nat → Int
  | 0 => -1
  | m + 1 => if mxF ids m < ids m then ids m else mxF ids m
theorem mxF_ge (ids : Nat → Nat) : ∀ m i, i < m → (ids i : Int) ≤ mxF ids m
  | 0, i, h => by omega
  | m + 1, i, h => by
    show (ids i : Int) ≤ if mxF ids m < ids m then (ids m : Int) else mxF ids m
    by_cases e : i = m
    · subst e; split <;> omega
    · have := mxF_ge ids m i (by omega)
      split <;> omega
theorem mxF_bound (ids : Nat → Nat) (N : Nat) : ∀ m, (∀ i, i < m → ids i < N) → -1 ≤ mxF ids m ∧ mxF ids m < N
  | 0, _ => by show -1 ≤ (-1 : Int) ∧ (-1 : Int) < N; omega
  | m + 1, h => by
    have := mxF_bound ids N m fun i hi => h i (by omega)
    have := h m (by omega)
    show -1 ≤ (if mxF ids m < ids m then (ids m : Int) else mxF ids m) ∧ (if mxF ids m < ids m then (ids m : Int) else mxF ids m) < N
    split <;> omega

/-- the queue behind m links -/
structure LK (B : Nat) (w wr : World) (L : Lay) (base : Int) (ids z : Nat → Nat) (m : Nat) : Prop where
  st : ∃ s, CoreEq s (runS ids z m) ∧ Rep B wr L base s
  below : Below B w wr

/-- what is known of the state behind all links -/
structure FinS (ids z : Nat → Nat) (k b : Nat) (s : St) : Prop where
  hA : ∀ i, i < k → Af ids z k i (s.A (ids i))
  hX : ∀ i, i < k → Bf ids z i (s.X (ids i))
  hU : ∀ g, (∀ i, i < k → ids i ≠ g) → s.A g = 0 ∧ s.X g = 0
  heads : ∀ off, off < 32768 → s.H ((b + off) % 32768) = hdF ids z b k off
  filled : s.filled = dsF ids z b k
  words : ∀ j, j < 512 → s.W j = FW b (hdF ids z b k) 32768 j
  wok : WOk s
  empty : k = 0 → s.filled = 0
  full : 0 < k → s.filled ≠ 0 ∧ ∃ p, p < 32768 ∧ s.H p ≠ -1
  least : ∀ off, off < 32768 → s.H ((b + off) % 32768) ≠ -1 → (∀ o, o < off → s.H ((b + o) % 32768) = -1) → ∀ l, (∃ i, i < k ∧ z i = l) → (∀ i, i < k → l ≤ z i) → b + off = l
theorem finS {ids z : Nat → Nat} {k b N : Nat} (g : Good ids z k b N) {s : St} (hc : CoreEq s (runS ids z k)) : FinS ids z k b s := by
  have hS := run_si ids z g k (Nat.le_refl _)
  have hh := run_heads ids z g k (Nat.le_refl _)
  refine ⟨by rw [hc.A]; exact hS.hA, by rw [hc.X]; exact hS.hX, by rw [hc.A, hc.X]; exact hS.hU, by rw [hc.H]; exact hh.1, by rw [hc.filled]; exact hh.2, fun j hj => by rw [hc.W, fw_law ids z g j hj], ?_, fun h0 => ?_, fun h0 => ?_, ?_⟩
  · have := (run_ok ids z g k (Nat.le_refl _)).word
    intro j
    rw [hc.W, hc.H]
    exact this j
  · rw [hc.filled, h0]; rfl
  · have := some_head ids z g h0
    rw [hc.filled, hc.H]
    exact ⟨this.2, this.1⟩
  · rw [hc.H]
    exact fun off ho h1 h2 l => first_law ids z g off ho h1 h2 l
theorem hdF_cases (ids z : Nat → Nat) (b : Nat) : ∀ m off, hdF ids z b m off = -1 ∨ ∃ g : Nat, hdF ids z b m off = g
  | 0, _ => Or.inl rfl
  | m + 1, off => by
    show upd (hdF ids z b m) (z m - b) (ids m) off = -1 ∨ ∃ g : Nat, upd (hdF ids z b m) (z m - b) (ids m) off = g
    by_cases e : off = z m - b
    · subst e; rw [upd_same]; exact Or.inr ⟨_, rfl⟩
    · rw [upd_other _ _ e]; exact hdF_cases ids z b m off
theorem dsF_bound (ids z : Nat → Nat) (b : Nat) : ∀ m, 0 ≤ dsF ids z b m ∧ dsF ids z b m ≤ m
  | 0 => by show (0 : Int) ≤ 0 ∧ (0 : Int) ≤ 0; omega
  | m + 1 => by
    have := dsF_bound ids z b m
    show 0 ≤ dsF ids z b m + (if hdF ids z b m (z m - b) = -1 then 1 else 0) ∧ dsF ids z b m + (if hdF ids z b m (z m - b) = -1 then 1 else 0) ≤ (m + 1 : Nat)
    split <;> omega

/-- the queue, behind all links -/
structure Q0 (B : Nat) (w wr : World) (L : Lay) (b : Nat) (s : St) : Prop where
  rep : Rep B wr L b s
  below : Below B w wr
theorem Q0.drewN {B : Nat} {w wr : World} {L : Lay} {b : Nat} {s : St} (h : Q0 B w wr L b s) (k : Nat) : Q0 B w (wr.drewN k) L b s := ⟨h.rep.drewN k, h.below.trans (below_drewN B wr k)⟩
theorem Q0.alloc {B : Nat} {w wr : World} {L : Lay} {b : Nat} {s : St} (h : Q0 B w wr L b s) (hB : B ≤ wr.heap.size) (o : Obj) : Q0 B w (wr.alloc o) L b s := ⟨h.rep.alloc _, h.below.alloc hB _⟩

/-- which slots have been marked -/
def mkF (ids : Nat → Nat) : Nat → Nat → Bool
  | 0 => fun _ => false
  | m + 1 => fun j => if j = ids m then true else mkF ids m j
theorem mkF_iff (ids : Nat → Nat) : ∀ m j, mkF ids m j = false → ∀ i, i < m → ids i ≠ j
  | 0, _, _, i, hi => by omega
  | m + 1, j, h, i, hi => by
    have h' : (if j = ids m then true else mkF ids m j) = false := h
    by_cases e : j = ids m
    · rw [if_pos e] at h'; cases h'
    · rw [if_neg e] at h'
      by_cases e2 : i = m
      · subst e2; exact fun e3 => e e3.symm
      · exact mkF_iff ids m j h' i (by omega)
structure T7 (B : Nat) (w wr : World) (L : Lay) (b : Nat) (s : St) (g S : Nat) (ids : Nat → Nat) (m : Nat) : Prop where
  q : Q0 B w wr L b s
  r : wr.rowIs g 4 S (fun j => .bool (mkF ids m j))
  ge : B ≤ g
theorem T7.step {B : Nat} {w wr : World} {L : Lay} {b : Nat} {s : St} {g S : Nat} {ids : Nat → Nat} {m : Nat} (h : T7 B w wr L b s g S ids m) : T7 B w (wr.setCell ⟨g, ids m, none⟩ (.bool true)) L b s g S ids (m + 1) :=
  ⟨⟨h.q.rep.setRow h.r (by decide) (by decide) (by decide) (h.q.rep.hd_ne h.r (by decide)) _ _, below_q h.q.below h.ge _ _⟩, (h.r.set (ids m) (.bool true)).congr fun j _ => by
    show (if j = ids m then Value.bool true else .bool (mkF ids m j)) = .bool (if j = ids m then true else mkF ids m j)
    split <;> rfl, h.ge⟩
theorem T7.drewN {B : Nat} {w wr : World} {L : Lay} {b : Nat} {s : St} {g S : Nat} {ids : Nat → Nat} {m : Nat} (h : T7 B w wr L b s g S ids m) (k : Nat) : T7 B w (wr.drewN k) L b s g S ids m :=
  ⟨h.q.drewN k, rowIs_drewN h.r k, h.ge⟩

/-- a row of 32768 numbers, the law's heads -/
structure T9 (B : Nat) (w wr : World) (L : Lay) (b : Nat) (s : St) (g : Nat) (f : Nat → Int) : Prop where
  q : Q0 B w wr L b s
  r : wr.rowIs g 21 32768 (fun j => .int .i32 (f j))
  ge : B ≤ g
  ne : ∀ hb, s.hd = some hb → hb ≠ g
theorem T9.set {B : Nat} {w wr : World} {L : Lay} {b : Nat} {s : St} {g : Nat} {f : Nat → Int} (h : T9 B w wr L b s g f) (i : Nat) (v : Int) : T9 B w (wr.setCell ⟨g, i, none⟩ (.int .i32 v)) L b s g (upd f i v) :=
  ⟨⟨h.q.rep.setRow h.r (by decide) (by decide) (by decide) h.ne _ _, below_q h.q.below h.ge _ _⟩, (h.r.set i (.int .i32 v)).congr fun j _ => by
    show (if j = i then Value.int .i32 v else .int .i32 (f j)) = .int .i32 (if j = i then v else f j)
    split <;> rfl, h.ge, h.ne⟩
theorem T9.drewN {B : Nat} {w wr : World} {L : Lay} {b : Nat} {s : St} {g : Nat} {f : Nat → Int} (h : T9 B w wr L b s g f) (k : Nat) : T9 B w (wr.drewN k) L b s g f :=
  ⟨h.q.drewN k, rowIs_drewN h.r k, h.ge, h.ne⟩
theorem T9.congr {B : Nat} {w wr : World} {L : Lay} {b : Nat} {s : St} {g : Nat} {f f' : Nat → Int} (h : T9 B w wr L b s g f) (e : ∀ j, j < 32768 → f j = f' j) : T9 B w wr L b s g f' :=
  ⟨h.q, h.r.congr fun j hj => by show Value.int .i32 (f j) = .int .i32 (f' j); rw [e j hj], h.ge, h.ne⟩
/-- the first m cells hold -1, the others 0 -/
def ngF (m : Nat) (j : Nat) : Int := if j < m then -1 else 0
theorem T9.fill {B : Nat} {w wr : World} {L : Lay} {b : Nat} {s : St} {g m : Nat} (h : T9 B w wr L b s g (ngF m)) : T9 B w (wr.setCell ⟨g, m, none⟩ (.int .i32 (-1))) L b s g (ngF (m + 1)) :=
  (h.set m (-1)).congr fun j _ => by
    unfold upd ngF
    by_cases e : j = m
    · rw [if_pos e, if_pos (by omega)]
    · rw [if_neg e]
      by_cases e2 : j < m
      · rw [if_pos e2, if_pos (by omega)]
      · rw [if_neg e2, if_neg (by omega)]

/-- beside it the law's bitmap -/
structure T12 (B : Nat) (w wr : World) (L : Lay) (b : Nat) (s : St) (g g1 : Nat) (f W : Nat → Int) : Prop where
  t : T9 B w wr L b s g f
  r : wr.rowIs g1 34 512 (fun j => .int .u64 (W j))
  ge : B ≤ g1
theorem T12.set {B : Nat} {w wr : World} {L : Lay} {b : Nat} {s : St} {g g1 : Nat} {f W : Nat → Int} (h : T12 B w wr L b s g g1 f W) (i : Nat) (v : Int) : T12 B w (wr.setCell ⟨g1, i, none⟩ (.int .u64 v)) L b s g g1 f (upd W i v) :=
  ⟨⟨⟨h.t.q.rep.setRow h.r (by decide) (by decide) (by decide) (h.t.q.rep.hd_ne h.r (by decide)) _ _, below_q h.t.q.below h.ge _ _⟩, h.t.r.setOther (rowIs_ne h.t.r h.r (by decide)) _, h.t.ge, h.t.ne⟩, (h.r.set i (.int .u64 v)).congr fun j _ => by
    show (if j = i then Value.int .u64 v else .int .u64 (W j)) = .int .u64 (if j = i then v else W j)
    split <;> rfl, h.ge⟩
theorem T12.drewN {B : Nat} {w wr : World} {L : Lay} {b : Nat} {s : St} {g g1 : Nat} {f W : Nat → Int} (h : T12 B w wr L b s g g1 f W) (k : Nat) : T12 B w (wr.drewN k) L b s g g1 f W :=
  ⟨h.t.drewN k, rowIs_drewN h.r k, h.ge⟩

theorem info4 : (Tryd.prog.info? 4).map (fun i => (i.zero, i.size, i.bytes)) = some (some (.bool false), 1, 1) := by kernel_rfl
theorem zero34 : ((Tryd.prog.info? 34).bind (·.zero)).map (·.cells) = some (Array.replicate 512 (.int .u64 0)) := by kernel_rfl
theorem row34 (w : World) : (w.alloc (.cells (Array.replicate 512 (.int .u64 0)) 34)).rowIs w.heap.size 34 512 (fun _ => .int .u64 0) := by
  have := World.rowIs_alloc w (Array.replicate 512 (.int .u64 0)) 34 (fun _ => .int .u64 0) (fun i hi => by
    rw [Array.size_replicate] at hi
    rw [Array.getElem?_eq_getElem (by rw [Array.size_replicate]; exact hi), Array.getElem_replicate])
  rw [Array.size_replicate] at this
  exact this
end Go.Proofs.Qxb6609346aDoor
