/-
  The queue's memory: what a queue, its slab and its ring hold, as functions of indices; and the laws that its walks want.
-/
import Derived.Test.Qxb6609346aDoorRows
import Derived.WalkKit
import Derived.ProofKit
import Derived.Deep.OwnRows
import Derived.Deep.AppendLies
namespace Go.Proofs.Qxb6609346aDoor
open Go.ChangeShapes Go.WideShapes Go.ChangeAt Go.RowKit

theorem ret_bool {a b : Bool} (h : a = b) : Ending.returned (.bool a) = .returned (.bool b) := by rw [h]
theorem ret_int {k : IntKind} {a b : Int} (h : a = b) : Ending.returned (.int k a) = .returned (.int k b) := by rw [h]

/-! ### A struct literal whose zero value is long -/
theorem splice_fold {α : Type} : ∀ (v : List α) (k off : Nat) (pre post : List α) (mid : List α), pre.length = off + k → mid.length = v.length →
    (v.zipIdx k).foldl (fun (cs : Array α) (x : α × Nat) => cs.setIfInBounds (off + x.2) x.1) (pre ++ mid ++ post).toArray = (pre ++ v ++ post).toArray
  | [], k, off, pre, post, mid, hp, hm => by
    have : mid = [] := List.length_eq_zero_iff.1 (by simpa using hm)
    subst this; simp
  | a :: v, k, off, pre, post, [], hp, hm => by simp at hm
  | a :: v, k, off, pre, post, m :: mid, hp, hm => by
    simp only [List.zipIdx_cons, List.foldl_cons]
    have e : (pre ++ m :: mid ++ post).toArray.setIfInBounds (off + k) a = ((pre ++ [a]) ++ mid ++ post).toArray := by
      rw [← hp]; apply Array.toList_inj.1; simp
    rw [e, splice_fold v (k + 1) off (pre ++ [a]) post mid (by simp; omega) (by simpa using hm)]
    simp
theorem splice_cells (v : Array Value) (off : Nat) (pre mid post : List Value) (hp : pre.length = off) (hm : mid.length = v.size) :
    v.zipIdx.foldl (fun cs (c, j) => cs.setIfInBounds (off + j) c) (pre ++ mid ++ post).toArray = (pre ++ v.toList ++ post).toArray := by
  have := splice_fold v.toList 0 off pre post mid (by omega) (by simpa using hm)
  rw [← this]
  rw [← Array.foldl_toList]
  simp [Array.toList_zipIdx]
theorem fill_step {place : Nat → Option (Nat × Nat)} {pre mid post : List Value} {v : Value} {rest : List (Nat × Value)} {i off size : Nat}
    (hpl : place i = some (off, size)) (hv : v.cells.size = size) (hp : pre.length = off) (hm : mid.length = size) :
    Instr.fill place (pre ++ mid ++ post).toArray ((i, v) :: rest) = Instr.fill place (pre ++ v.cells.toList ++ post).toArray rest := by
  rw [Instr.fill]
  simp only [hpl]
  rw [if_neg (by simp; omega)]
  rw [splice_cells v.cells off pre mid post hp (by omega)]
theorem built_struct {P : Program} {t : TypeId} {fields : Array Field} {zs : Array Value} {places : List (Nat × Nat)} (hu : P.underlying t = some (.struct fields))
    (hz : ((P.info? t).bind (·.zero)).map (·.cells) = some zs) (hp : fields.toList.mapM (fun f => (P.info? f.type).map fun i => (f.offset, i.size)) = some places) (parts : List (Nat × Value)) :
    P.built t parts = Instr.fill (places.toArray[·]?) zs parts := by
  unfold Program.built
  cases hi : P.info? t with
  | none => simp [hi] at hz
  | some it =>
    cases hzz : it.zero with
    | none => simp [hi, hzz] at hz
    | some z =>
      simp [hi, hzz] at hz
      simp only [hu, hzz, hp, hz]
theorem wpList_buildTo {P : Program} {ops : Array Oper} {rest : List Oper} {o : Oper} {a : Act} {w : World} {Q : Exit → Act → World → Prop} (hg : o.guard = none) (t : TypeId) (parts : List (Nat × Operand)) (ho : o.op = .build t parts.toArray)
    (d : Option Tmp) (hd : o.dst = d) (cells : Array Value) (vs : List (Nat × Value)) (hv : parts.map (fun x => (x.1, a.eval x.2)) = vs) (hf : P.built t vs = some cells)
    (h : wpList P ops Q rest (a.put d (.agg cells)) w) : wpList P ops Q (o :: rest) a w := by
  subst hd
  have hf' : P.built t (parts.toArray.map fun (i, x) => (i, a.eval x)).toList = some cells := by rw [← hf, ← hv]; simp
  refine wpList_build hg t parts.toArray ho (by rw [hf']; rfl) ?_
  rw [hf']
  exact h
/-- 'new(T)', 'var x T': T's zero value is long -/
theorem wpList_allocZ {P : Program} {ops : Array Oper} {rest : List Oper} {o : Oper} {a : Act} {w : World} {Q : Exit → Act → World → Prop} (hg : o.guard = none) (t : TypeId) (ho : o.op = .alloc t)
    (d : Option Tmp) (hd : o.dst = d) (Z : Array Value) (hz : ((P.info? t).bind (·.zero)).map (·.cells) = some Z)
    (h : wpList P ops Q rest (a.put d (.pointer (some ⟨w.heap.size, 0, none⟩))) (w.alloc (.cells Z t))) : wpList P ops Q (o :: rest) a w := by
  subst hd
  refine wpList_plain hg fun K hK => ?_
  cases hi : P.info? t with
  | none => simp [hi] at hz
  | some it =>
    cases hzz : it.zero with
    | none => simp [hi, hzz] at hz
    | some z =>
      simp [hi, hzz] at hz
      subst hz
      unfold Oper.wp
      simp [execOp, ho, Instr.alloc, zeroValue, typeInfo, hi, hzz, newVar, newRow, Result.andThen, go_sem]
      exact hK _ _ h

/-! ### The queue's own zero values -/
def ringTail : List Value := [.int .i64 0, .slice none 0 0] ++ List.replicate 512 (.int .u64 0)
def ringL (base : Int) : List Value := [] ++ [.int .i64 base] ++ ringTail
def queueL (base cb : Int) : List Value := [.slice none 0 0, .int .i32 0, .int .i32 0, .int .i32 0, .int .i64 0] ++ ringL base ++ ([.slice none 0 0] ++ ringL cb ++ [.int .i32 0])
theorem ringL_len (x : Int) : (ringL x).length = 515 := by kernel_rfl
theorem ringL_size (x : Int) : (Value.agg (ringL x).toArray).cells.size = 515 := by kernel_rfl
theorem zeroR : ((Tryd.prog.info? 40).bind (·.zero)).map (·.cells) = some (ringL 0).toArray := by kernel_rfl
theorem zeroQ : ((Tryd.prog.info? 48).bind (·.zero)).map (·.cells) = some (queueL 0 0).toArray := by kernel_rfl
theorem builtR (x : Int) : Tryd.prog.built 40 [(0, .int .i64 x)] = some (ringL x).toArray := by
  rw [built_struct (places := [(0, 1), (1, 1), (2, 1), (3, 512)]) Tryd.underlying40 zeroR (by kernel_rfl)]
  unfold ringL
  rw [fill_step (pre := []) (mid := [.int .i64 0]) (v := .int .i64 x) (off := 0) (size := 1) rfl rfl rfl rfl]
  rfl
theorem builtQ (x y : Int) : Tryd.prog.built 48 [(4, .agg (ringL x).toArray), (6, .agg (ringL y).toArray)] = some (queueL x y).toArray := by
  rw [built_struct (places := [(0, 2), (2, 1), (3, 1), (4, 1), (5, 515), (520, 1), (521, 515), (1036, 1)]) Tryd.underlying48 zeroQ (by kernel_rfl)]
  unfold queueL
  rw [fill_step (pre := [.slice none 0 0, .int .i32 0, .int .i32 0, .int .i32 0, .int .i64 0]) (mid := ringL 0) (off := 5) (size := 515) rfl (ringL_size x) rfl (ringL_len 0)]
  have e : ∀ R : List Value, ([.slice none 0 0, .int .i32 0, .int .i32 0, .int .i32 0, .int .i64 0] ++ R ++ ([.slice none 0 0] ++ ringL 0 ++ [.int .i32 0])) = ([.slice none 0 0, .int .i32 0, .int .i32 0, .int .i32 0, .int .i64 0] ++ R ++ [.slice none 0 0]) ++ ringL 0 ++ [.int .i32 0] := by
    intro R; simp only [List.append_assoc]
  rw [e, fill_step (mid := ringL 0) (off := 521) (size := 515) rfl (ringL_size y) ?_ (ringL_len 0)]
  · simp only [Instr.fill, Value.cells, List.append_assoc]
  · simp only [List.length_append, Value.cells, ringL_len, List.length_cons, List.length_nil]

/-- a fresh chunk's cells -/
def chunkF (j : Nat) : Value := if j < 1024 then .nilFunc else if (j - 1024) % 4 = 0 then .int .u64 0 else if (j - 1024) % 4 = 1 then .int .i64 0 else .int .i32 0
def chunkZ : Array Value := ((List.range 5120).map chunkF).toArray
theorem zeroC : ((Tryd.prog.info? 55).bind (·.zero)).map (·.cells) = some chunkZ := by kernel_rfl
theorem chunkZ_size : chunkZ.size = 5120 := by simp only [chunkZ, List.size_toArray, List.length_map, List.length_range]
theorem chunkZ_at (i : Nat) (h : i < 5120) : chunkZ[i]? = some (chunkF i) := by
  simp only [chunkZ, List.getElem?_toArray, List.getElem?_map, List.getElem?_range h, Option.map_some]

/-- a fresh queue's cells -/
def queueF (base cb : Int) (j : Nat) : Value := (queueL base cb).getD j .nilFunc
theorem queueL_size (x y : Int) : (queueL x y).toArray.size = 1037 := by kernel_rfl
theorem queueF_at (x y : Int) (i : Nat) (h : i < 1037) : (queueL x y).toArray[i]? = some (queueF x y i) := by
  have hl : i < (queueL x y).length := by have := queueL_size x y; simp only [List.size_toArray] at this; omega
  simp only [List.getElem?_toArray, queueF, List.getD_eq_getElem?_getD, List.getElem?_eq_getElem hl, Option.getD_some]
theorem queueF_0 (x y : Int) : queueF x y 0 = .slice none 0 0 := by kernel_rfl
theorem queueF_5 (x y : Int) : queueF x y 5 = .int .i64 x := by kernel_rfl
theorem queueF_6 (x y : Int) : queueF x y 6 = .int .i64 0 := by kernel_rfl
theorem queueF_7 (x y : Int) : queueF x y 7 = .slice none 0 0 := by kernel_rfl
theorem queueF_all (x y : Int) : ((List.range 512).map fun j => queueF x y (8 + j)) = List.replicate 512 (.int .u64 0) := by kernel_rfl
theorem queueF_8 (x y : Int) (j : Nat) (h : j < 512) : queueF x y (8 + j) = .int .u64 0 := by
  have := congrArg (fun l => l[j]?) (queueF_all x y)
  simp only [List.getElem?_map, List.getElem?_range h, Option.map_some] at this
  rw [List.getElem?_replicate_of_lt h] at this
  exact Option.some.inj this
end Go.Proofs.Qxb6609346aDoor
