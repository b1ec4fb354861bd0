/-
  FnLinkUnlinkRoundTrip: the whole way.
-/
import Derived.Test.Qxb6609346aEarly
import Derived.Test.Qxb6609346aFar
namespace Go.Proofs.Qxb6609346a
open Go.ChangeShapes Go.WideShapes Go.ChangeAt Go.RowKit

/-- slots 0, 1, .. m-1 linked in order, slot i into bucket z i -/
def runSt (z : Nat → Nat) : Nat → St
  | 0 => St0
  | m + 1 => linkSt (runSt z m) 0 m (z m % 32768)
theorem Ok.mono {N N' k : Nat} {s : St} (h : Ok N k s) (hN : N ≤ N') : Ok N' k s :=
  ⟨fun i => by
    rcases h.head i with h1 | ⟨g, hg, r⟩
    · exact Or.inl h1
    · exact Or.inr ⟨g, by omega, r⟩, h.inj, h.word, h.fill⟩
theorem run_ok (z : Nat → Nat) : ∀ m, Ok m m (runSt z m)
  | 0 => ok_start 0
  | m + 1 => ok_link ((run_ok z m).mono (by omega)) 0 m _ (by omega) fun j e => by
    rcases (run_ok z m).head j with h | ⟨g, hg, h, _⟩
    · omega
    · omega

/-- the queue behind m links -/
structure LK (B : Nat) (w wr : World) (L : Lay) (base : Int) (z : Nat → Nat) (m : Nat) : Prop where
  st : ∃ s, CoreEq s (runSt z m) ∧ Rep B wr L base s
  below : Below B w wr
theorem LK.head {m : Nat} {s : St} {z : Nat → Nat} (hc : CoreEq s (runSt z m)) (i : Nat) : s.H i = -1 ∨ ∃ g : Nat, s.H i = g ∧ g < m ∧ s.A g = -1 := by
  rcases (hc.ok (run_ok z m)).head i with h | ⟨g, hg, h1, h2⟩
  · exact Or.inl h
  · exact Or.inr ⟨g, h1, hg, h2⟩

/-- a row's content where m cells have been filled -/
def pf (m : Nat) (f : Nat → Value) (d : Value) (j : Nat) : Value := if j < m then f j else d
theorem pf_zero (f : Nat → Value) (d : Value) : pf 0 f d = fun _ => d := by funext j; simp [pf]
theorem pf_set (m : Nat) (f : Nat → Value) (d : Value) (j : Nat) : (if j = m then f m else pf m f d j) = pf (m + 1) f d j := by
  unfold pf
  by_cases h : j = m
  · subst h; rw [if_pos rfl, if_pos (by omega)]
  · rw [if_neg h]
    by_cases h2 : j < m
    · rw [if_pos h2, if_pos (by omega)]
    · rw [if_neg h2, if_neg (by omega)]
theorem pf_here (m : Nat) (f : Nat → Value) (d : Value) : pf m f d m = d := by simp [pf]
theorem rowIs_fill {w : World} {g n : Nat} {t : TypeId} {m : Nat} {f : Nat → Value} {d : Value} (h : w.rowIs g t n (pf m f d)) : (w.setCell ⟨g, m, none⟩ (f m)).rowIs g t n (pf (m + 1) f d) :=
  (h.set m (f m)).congr fun j _ => pf_set m f d j

/-- heads0 is being filled -/
structure T3 (B : Nat) (w wr : World) (L : Lay) (b : Nat) (s : St) (g0 m : Nat) : Prop where
  rep : Rep B wr L b s
  r0 : wr.rowIs g0 21 32768 (pf m (fun j => .int .i32 (s.H ((b + j) % 32768))) (.int .i32 0))
  below : Below B w wr
theorem T3.step {B : Nat} {w wr : World} {L : Lay} {b : Nat} {s : St} {g0 m : Nat} (h : T3 B w wr L b s g0 m) (hB : B ≤ g0) (hne : ∀ hb, s.hd = some hb → hb ≠ g0) (k : Nat) :
    T3 B w ((wr.drewN k).setCell ⟨g0, m, none⟩ (.int .i32 (s.H ((b + m) % 32768)))) L b s g0 (m + 1) :=
  ⟨(h.rep.drewN k).setRow (rowIs_drewN h.r0 k) (by decide) (by decide) (by decide) hne _ _, rowIs_fill (f := fun j => .int .i32 (s.H ((b + j) % 32768))) (rowIs_drewN h.r0 k), below_q (h.below.trans (below_drewN B wr k)) hB _ _⟩

/-- full0 is being filled -/
structure T4 (B : Nat) (w wr : World) (L : Lay) (b : Nat) (s : St) (g0 g1 m : Nat) : Prop where
  rep : Rep B wr L b s
  r0 : wr.rowIs g0 21 32768 (fun j => .int .i32 (s.H ((b + j) % 32768)))
  r1 : wr.rowIs g1 33 512 (pf m (fun j => .int .u64 (s.W j)) (.int .u64 0))
  below : Below B w wr
theorem T4.step {B : Nat} {w wr : World} {L : Lay} {b : Nat} {s : St} {g0 g1 m : Nat} (h : T4 B w wr L b s g0 g1 m) (hB : B ≤ g1) : T4 B w (wr.setCell ⟨g1, m, none⟩ (.int .u64 (s.W m))) L b s g0 g1 (m + 1) :=
  ⟨h.rep.setRow h.r1 (by decide) (by decide) (by decide) (h.rep.hd_ne h.r1 (by decide)) _ _, h.r0.setOther (rowIs_ne h.r0 h.r1 (by decide)) _, rowIs_fill (f := fun j => .int .u64 (s.W j)) h.r1, below_q h.below hB _ _⟩

/-- at0 and next0 are being filled -/
structure T5 (B : Nat) (w wr : World) (L : Lay) (b sl : Nat) (s : St) (g0 g1 g2 g3 m : Nat) : Prop where
  rep : Rep B wr L b s
  r0 : wr.rowIs g0 21 32768 (fun j => .int .i32 (s.H ((b + j) % 32768)))
  r1 : wr.rowIs g1 33 512 (fun j => .int .u64 (s.W j))
  r2 : wr.rowIs g2 21 sl (pf m (fun j => .int .i32 (s.A j)) (.int .i32 0))
  r3 : wr.rowIs g3 21 sl (pf m (fun j => .int .i32 (s.X j)) (.int .i32 0))
  below : Below B w wr
theorem T5.step {B : Nat} {w wr : World} {L : Lay} {b sl : Nat} {s : St} {g0 g1 g2 g3 m : Nat} (h : T5 B w wr L b sl s g0 g1 g2 g3 m) (hB2 : B ≤ g2) (hB3 : B ≤ g3) (h02 : g0 ≠ g2) (h03 : g0 ≠ g3) (h23 : g2 ≠ g3)
    (hne2 : ∀ hb, s.hd = some hb → hb ≠ g2) (hne3 : ∀ hb, s.hd = some hb → hb ≠ g3) (k : Nat) :
    T5 B w (((wr.drewN k).setCell ⟨g2, m, none⟩ (.int .i32 (s.A m))).setCell ⟨g3, m, none⟩ (.int .i32 (s.X m))) L b sl s g0 g1 g2 g3 (m + 1) := by
  have q2 := rowIs_drewN h.r2 k
  have q3 := rowIs_drewN h.r3 k
  have q3' := q3.setOther (a := ⟨g2, m, none⟩) (Ne.symm h23) (.int .i32 (s.A m))
  refine ⟨((h.rep.drewN k).setRow q2 (by decide) (by decide) (by decide) hne2 _ _).setRow q3' (by decide) (by decide) (by decide) hne3 _ _, ((rowIs_drewN h.r0 k).setOther h02 _).setOther h03 _, ?_, ?_, ?_, below_q (below_q (h.below.trans (below_drewN B wr k)) hB2 _ _) hB3 _ _⟩
  · have e2 := rowIs_ne h.r1 h.r2 (by decide)
    have e3 := rowIs_ne h.r1 h.r3 (by decide)
    exact ((rowIs_drewN h.r1 k).setOther e2 _).setOther e3 _
  · exact (rowIs_fill (f := fun j => .int .i32 (s.A j)) q2).setOther h23 _
  · exact rowIs_fill (f := fun j => .int .i32 (s.X j)) q3'

/-- all four rows are laid; s0: the state that they hold; s: the queue's now -/
structure T6 (B : Nat) (w wr : World) (L : Lay) (b sl : Nat) (s0 s : St) (g0 g1 g2 g3 : Nat) : Prop where
  rep : Rep B wr L b s
  r0 : wr.rowIs g0 21 32768 (fun j => .int .i32 (s0.H ((b + j) % 32768)))
  r1 : wr.rowIs g1 33 512 (fun j => .int .u64 (s0.W j))
  r2 : wr.rowIs g2 21 sl (fun j => .int .i32 (s0.A j))
  r3 : wr.rowIs g3 21 sl (fun j => .int .i32 (s0.X j))
  below : Below B w wr
theorem T6.drewN {B : Nat} {w wr : World} {L : Lay} {b sl : Nat} {s0 s : St} {g0 g1 g2 g3 : Nat} (h : T6 B w wr L b sl s0 s g0 g1 g2 g3) (k : Nat) : T6 B w (wr.drewN k) L b sl s0 s g0 g1 g2 g3 :=
  ⟨h.rep.drewN k, rowIs_drewN h.r0 k, rowIs_drewN h.r1 k, rowIs_drewN h.r2 k, rowIs_drewN h.r3 k, h.below.trans (below_drewN B wr k)⟩
theorem T6.turn {B : Nat} {w wr w' : World} {L : Lay} {b sl : Nat} {s0 s s' : St} {g0 g1 g2 g3 : Nat} (h : T6 B w wr L b sl s0 s g0 g1 g2 g3) (hR : Rep B w' L b s') (hF : Frame L s wr w') (hb : Below B wr w')
    (n0 : ∀ hb, s.hd = some hb → hb ≠ g0) (n2 : ∀ hb, s.hd = some hb → hb ≠ g2) (n3 : ∀ hb, s.hd = some hb → hb ≠ g3) : T6 B w w' L b sl s0 s' g0 g1 g2 g3 :=
  ⟨hR, h.rep.framed hF h.r0 (by decide) (by decide) n0, h.rep.framed hF h.r1 (by decide) (by decide) (h.rep.hd_ne h.r1 (by decide)), h.rep.framed hF h.r2 (by decide) (by decide) n2, h.rep.framed hF h.r3 (by decide) (by decide) n3, h.below.trans hb⟩

theorem zero33 : ((Try.prog.info? 33).bind (·.zero)).map (·.cells) = some (Array.replicate 512 (.int .u64 0)) := by kernel_rfl
theorem row33 (w : World) : (w.alloc (.cells (Array.replicate 512 (.int .u64 0)) 33)).rowIs w.heap.size 33 512 (fun _ => .int .u64 0) := by
  have := World.rowIs_alloc w (Array.replicate 512 (.int .u64 0)) 33 (fun _ => .int .u64 0) (fun i hi => by
    rw [Array.size_replicate] at hi
    rw [Array.getElem?_eq_getElem (by rw [Array.size_replicate]; exact hi), Array.getElem_replicate])
  rw [Array.size_replicate] at this
  exact this
end Go.Proofs.Qxb6609346a
