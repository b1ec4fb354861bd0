/-
  The callees of FnInReachExact and FnInReachCount: coarseSpan, covers, inReach, ZZinReach, and ZZnewQueue with no chunk.
-/
import Derived.Test.Qxb6609346aRows
import Derived.WalkKit
import Derived.ProofKit
namespace Go.Proofs.Qxb6609346a
open Go.ChangeShapes Go.WideShapes Go.ChangeAt Go.RowKit

theorem ret_bool {a b : Bool} (h : a = b) : Ending.returned (.bool a) = .returned (.bool b) := by rw [h]

set_option maxHeartbeats 400000 in
theorem span_any (c : Int) (h0 : -536870912 ≤ c) (h1 : c ≤ 1073741824) (w : World) :
    Calls Try.prog 20 #[.int .i64 c] w fun e w' => e = .returned (.tuple #[.int .i64 (c * 16384), .int .i64 ((c + 1) * 16384 - 1)]) ∧ w' = w := by
  go_enter Try.func20, Try.ntmps20
  go_wp2
  go_ret2
  exact ⟨rfl, rfl⟩

def covB (base n : Int) : Bool := decide (base ≤ n ∧ n - base < 32768)
theorem covB_pos {base n : Int} (h : base ≤ n) : decide (n - base < 32768) = covB base n := by simp [covB, h]
theorem covB_neg {base n : Int} (h : n < base) : false = covB base n := by simp [covB]; omega

set_option maxHeartbeats 400000 in
theorem covers_any (b off : Nat) (base n : Int) (h0 : 0 ≤ base) (h1 : base ≤ 8796093022207) (h2 : -8796093022208 ≤ n) (h3 : n ≤ 17592186060800) (w : World) (hc : w.cell? ⟨b, off, none⟩ = some (.int .i64 base)) :
    Calls Try.prog 21 #[.pointer (some ⟨b, off, none⟩), .int .i64 n] w fun e w' => e = .returned (.bool (covB base n)) ∧ w' = w := by
  by_cases hg : base ≤ n
  · go_enter Try.func21, Try.ntmps21
    go_wp2
    go_ret
    exact ⟨ret_bool (covB_pos hg), rfl⟩
  · go_enter Try.func21, Try.ntmps21
    go_wp2
    go_ret
    exact ⟨ret_bool (covB_neg hg), rfl⟩

def reachB (base c : Int) : Bool := covB base (c * 16384) && covB base ((c + 1) * 16384 - 1)
theorem reachB_pos {base c : Int} (h : covB base (c * 16384) = true) : covB base ((c + 1) * 16384 - 1) = reachB base c := by simp [reachB, h]
theorem reachB_neg {base c : Int} (h : covB base (c * 16384) = false) : false = reachB base c := by simp [reachB, h]

set_option maxHeartbeats 400000 in
theorem reach_any (b : Nat) (base c : Int) (h0 : 0 ≤ base) (h1 : base ≤ 8796093022207) (h2 : -536870912 ≤ c) (h3 : c ≤ 1073741824) (w : World) (hc : w.cell? ⟨b, 5, none⟩ = some (.int .i64 base)) :
    Calls Try.prog 15 #[.pointer (some ⟨b, 0, none⟩), .int .i64 c] w fun e w' => e = .returned (.bool (reachB base c)) ∧ w' = w := by
  cases hg : covB base (c * 16384) with
  | true =>
    go_enter Try.func15, Try.ntmps15
    go_wp2_with (first | (go_at_call 20; refine (span_any c h2 h3 _).mono ?_; rintro e w' ⟨rfl, rfl⟩) | (go_at_call 21; refine (covers_any b 5 base _ h0 h1 (by omega) (by omega) _ hc).mono ?_; rintro e w' ⟨rfl, rfl⟩))
    go_ret
    exact ⟨ret_bool (reachB_pos hg), rfl⟩
  | false =>
    go_enter Try.func15, Try.ntmps15
    go_wp2_with (first | (go_at_call 20; refine (span_any c h2 h3 _).mono ?_; rintro e w' ⟨rfl, rfl⟩) | (go_at_call 21; refine (covers_any b 5 base _ h0 h1 (by omega) (by omega) _ hc).mono ?_; rintro e w' ⟨rfl, rfl⟩))
    go_ret
    exact ⟨ret_bool (reachB_neg hg), rfl⟩

set_option maxHeartbeats 400000 in
theorem zzreach_any (b : Nat) (base c : Int) (h0 : 0 ≤ base) (h1 : base ≤ 8796093022207) (h2 : -536870912 ≤ c) (h3 : c ≤ 1073741824) (w : World) (hc : w.cell? ⟨b, 5, none⟩ = some (.int .i64 base)) :
    Calls Try.prog 7 #[.pointer (some ⟨b, 0, none⟩), .int .i64 c] w fun e w' => e = .returned (.bool (reachB base c)) ∧ w' = w := by
  go_enter Try.func7, Try.ntmps7
  go_wp2_with (go_at_call 15; refine (reach_any b base c h0 h1 h2 h3 _ hc).mono ?_; rintro e w' ⟨rfl, rfl⟩)
  go_ret
  exact ⟨rfl, rfl⟩

theorem splice_fold {α : Type} : ∀ (v : List α) (k off : Nat) (pre post : List α) (mid : List α), pre.length = off + k → mid.length = v.length →
    (v.zipIdx k).foldl (fun (cs : Array α) (x : α × Nat) => cs.setIfInBounds (off + x.2) x.1) (pre ++ mid ++ post).toArray = (pre ++ v ++ post).toArray
  | [], k, off, pre, post, mid, hp, hm => by
    have : mid = [] := List.length_eq_zero_iff.1 (by simpa using hm)
    subst this; simp
  | a :: v, k, off, pre, post, [], hp, hm => by simp at hm
  | a :: v, k, off, pre, post, m :: mid, hp, hm => by
    simp only [List.zipIdx_cons, List.foldl_cons]
    have e : (pre ++ m :: mid ++ post).toArray.setIfInBounds (off + k) a = ((pre ++ [a]) ++ mid ++ post).toArray := by
      rw [← hp]; apply Array.toList_inj.1; simp
    rw [e, splice_fold v (k + 1) off (pre ++ [a]) post mid (by simp; omega) (by simpa using hm)]
    simp

theorem splice_cells (v : Array Value) (off : Nat) (pre mid post : List Value) (hp : pre.length = off) (hm : mid.length = v.size) :
    v.zipIdx.foldl (fun cs (c, j) => cs.setIfInBounds (off + j) c) (pre ++ mid ++ post).toArray = (pre ++ v.toList ++ post).toArray := by
  have := splice_fold v.toList 0 off pre post mid (by omega) (by simpa using hm)
  rw [← this]
  rw [← Array.foldl_toList]
  simp [Array.toList_zipIdx]

theorem fill_step {place : Nat → Option (Nat × Nat)} {pre mid post : List Value} {v : Value} {rest : List (Nat × Value)} {i off size : Nat}
    (hpl : place i = some (off, size)) (hv : v.cells.size = size) (hp : pre.length = off) (hm : mid.length = size) :
    Instr.fill place (pre ++ mid ++ post).toArray ((i, v) :: rest) = Instr.fill place (pre ++ v.cells.toList ++ post).toArray rest := by
  rw [Instr.fill]
  simp only [hpl]
  rw [if_neg (by simp; omega)]
  rw [splice_cells v.cells off pre mid post hp (by omega)]

theorem built_struct {P : Program} {t : TypeId} {fields : Array Field} {zs : Array Value} {places : List (Nat × Nat)} (hu : P.underlying t = some (.struct fields))
    (hz : ((P.info? t).bind (·.zero)).map (·.cells) = some zs) (hp : fields.toList.mapM (fun f => (P.info? f.type).map fun i => (f.offset, i.size)) = some places) (parts : List (Nat × Value)) :
    P.built t parts = Instr.fill (places.toArray[·]?) zs parts := by
  unfold Program.built
  cases hi : P.info? t with
  | none => simp [hi] at hz
  | some it =>
    cases hzz : it.zero with
    | none => simp [hi, hzz] at hz
    | some z =>
      simp [hi, hzz] at hz
      simp only [hu, hzz, hp, hz]

def ringTail : List Value := [.int .i64 0, .slice none 0 0] ++ List.replicate 512 (.int .u64 0)
def ringL (base : Int) : List Value := [] ++ [.int .i64 base] ++ ringTail
def queueL (base cb : Int) : List Value := [.slice none 0 0, .int .i32 0, .int .i32 0, .int .i32 0, .int .i64 0] ++ ringL base ++ ([.slice none 0 0] ++ ringL cb ++ [.int .i32 0])
theorem ringL_len (x : Int) : (ringL x).length = 515 := by kernel_rfl
theorem ringL_size (x : Int) : (Value.agg (ringL x).toArray).cells.size = 515 := by kernel_rfl
theorem zero39 : ((Try.prog.info? 39).bind (·.zero)).map (·.cells) = some (ringL 0).toArray := by kernel_rfl
theorem zero47 : ((Try.prog.info? 47).bind (·.zero)).map (·.cells) = some (queueL 0 0).toArray := by kernel_rfl

theorem built39 (x : Int) : Try.prog.built 39 [(0, .int .i64 x)] = some (ringL x).toArray := by
  rw [built_struct (places := [(0, 1), (1, 1), (2, 1), (3, 512)]) Try.underlying39 zero39 (by kernel_rfl)]
  unfold ringL
  rw [fill_step (pre := []) (mid := [.int .i64 0]) (v := .int .i64 x) (off := 0) (size := 1) rfl rfl rfl rfl]
  rfl
theorem built47 (x y : Int) : Try.prog.built 47 [(4, .agg (ringL x).toArray), (6, .agg (ringL y).toArray)] = some (queueL x y).toArray := by
  rw [built_struct (places := [(0, 2), (2, 1), (3, 1), (4, 1), (5, 515), (520, 1), (521, 515), (1036, 1)]) Try.underlying47 zero47 (by kernel_rfl)]
  unfold queueL
  rw [fill_step (pre := [.slice none 0 0, .int .i32 0, .int .i32 0, .int .i32 0, .int .i64 0]) (mid := ringL 0) (off := 5) (size := 515) rfl (ringL_size x) rfl (ringL_len 0)]
  have e : ∀ R : List Value, ([.slice none 0 0, .int .i32 0, .int .i32 0, .int .i32 0, .int .i64 0] ++ R ++ ([.slice none 0 0] ++ ringL 0 ++ [.int .i32 0])) = ([.slice none 0 0, .int .i32 0, .int .i32 0, .int .i32 0, .int .i64 0] ++ R ++ [.slice none 0 0]) ++ ringL 0 ++ [.int .i32 0] := by
    intro R; simp only [List.append_assoc]
  rw [e, fill_step (mid := ringL 0) (off := 521) (size := 515) rfl (ringL_size y) ?_ (ringL_len 0)]
  · simp only [Instr.fill, Value.cells, List.append_assoc]
  · simp only [List.length_append, Value.cells, ringL_len, List.length_cons, List.length_nil]

theorem wpList_buildTo {P : Program} {ops : Array Oper} {rest : List Oper} {o : Oper} {a : Act} {w : World} {Q : Exit → Act → World → Prop} (hg : o.guard = none) (t : TypeId) (parts : List (Nat × Operand)) (ho : o.op = .build t parts.toArray)
    (d : Option Tmp) (hd : o.dst = d) (cells : Array Value) (vs : List (Nat × Value)) (hv : parts.map (fun x => (x.1, a.eval x.2)) = vs) (hf : P.built t vs = some cells)
    (h : wpList P ops Q rest (a.put d (.agg cells)) w) : wpList P ops Q (o :: rest) a w := by
  subst hd
  have hf' : P.built t (parts.toArray.map fun (i, x) => (i, a.eval x)).toList = some cells := by rw [← hf, ← hv]; simp
  refine wpList_build hg t parts.toArray ho (by rw [hf']; rfl) ?_
  rw [hf']
  exact h

set_option maxRecDepth 100000 in
set_option maxHeartbeats 400000 in
theorem newq_zero0 (base cb : Int) (R1 R2 C : Array Value) (h1 : Hid (Try.prog.built 39 [(0, .int .i64 base)] = some R1)) (h2 : Hid (Try.prog.built 39 [(0, .int .i64 cb)] = some R2)) 
    (h3 : Hid (Try.prog.built 47 [(4, .agg R1), (6, .agg R2)] = some C)) (v1 : Value) (hc1 : C[1]? = some v1) (w : World) :
    Calls Try.prog 6 #[.int .i64 base, .int .i64 cb, .int .i64 0, .int .i32 0] w fun e w' => e = .returned (.pointer (some ⟨w.heap.size, 0, none⟩)) ∧ w' = w.alloc (.cells (C.setIfInBounds 1 (.int .i32 0)) 47) := by
  go_enter Try.func6, Try.ntmps6
  go_wp2_with (first | refine wpList_buildTo rfl 39 [(0, Operand.tmp 11)] rfl (some 12) rfl _ _ rfl h1.out ?_ | refine wpList_buildTo rfl 39 [(0, Operand.tmp 13)] rfl (some 14) rfl _ _ rfl h2.out ?_ | refine wpList_buildTo rfl 47 [(4, Operand.tmp 12), (6, Operand.tmp 14)] rfl (some 15) rfl _ _ rfl h3.out ?_ )
  go_loop [10] (fun i => i = .int .i64 0) (fun _ => 0)
  case atStart => rfl
  case round =>
    subst hrel
    go_wp2
    go_ret
    exact ⟨rfl, rfl⟩

theorem queueL_1 (base cb : Int) : (queueL base cb).toArray[1]? = some (.int .i32 0) := by kernel_rfl
theorem queueL_5 (base cb : Int) : ((queueL base cb).toArray.setIfInBounds 1 (.int .i32 0))[5]? = some (.int .i64 base) := by kernel_rfl

theorem newq_zero (base cb : Int) (w : World) :
    Calls Try.prog 6 #[.int .i64 base, .int .i64 cb, .int .i64 0, .int .i32 0] w fun e w' => e = .returned (.pointer (some ⟨w.heap.size, 0, none⟩)) ∧ ∃ C : Array Value, w' = w.alloc (.cells C 47) ∧ C[5]? = some (.int .i64 base) := by
  refine (newq_zero0 base cb _ _ _ (built39 base) (built39 cb) (built47 base cb) _ (queueL_1 base cb) w).mono ?_
  rintro e w' ⟨rfl, rfl⟩
  exact ⟨rfl, _, rfl, queueL_5 base cb⟩
end Go.Proofs.Qxb6609346a
