import Derived.Test.Qxb6612167aBuild
namespace Go.Proofs.Qxb6612167a
open Go.ChangeShapes Go.WideShapes Go.ChangeAt Go.RowKit

set_option maxRecDepth 10000 in
set_option maxHeartbeats 1000000 in
theorem build_keep0 (s0 s2 : ByteArray) (u : Int) (ca : Option Addr) (cl cc : Nat) (ao : Option Addr) (cap : Nat) (w : World) :
    Calls Try.prog 10 #[.string s0, .int .i64 u, .string s2, .slice ca cl cc, .slice ao 0 cap, .bool false, .bool false] w (Built w 0 (fun _ => false)) := by
  obtain ⟨i0, hi, hz0, hz1, hz2⟩ := info_parts info51
  go_enter Try.func10, Try.ntmps10
  go_wp2_with (refine wpList_make_own _ rfl (.const (.int .i64 0)) (.tmp 24) 32 rfl (w.heap.size + 1) 51 i0 _ 7 Try.underlying32 hi hz0 hz1 .i64 .i64 0 0 rfl rfl rfl (by rw [hz2]; omega) (by unfold maxLen; omega) (by simp) ?_; intro w1 hown1 hgrow1)
  simp only [World.size_alloc] at hown1
  have hi0 : Inv (w.alloc termsZ) w1 (w.heap.size + 1) 0 0 (fun _ => false) :=
    ⟨[], fun _ => none, hown1, fun j hj => by omega, (Below.refl _ _).grown hgrow1 (by simp) (fun k hk => by cases hk)⟩
  clear hown1 hgrow1
  go_loopw [16, 17] (fun v i wr => i = .int .i64 0 ∧ v = .slice (some ⟨w.heap.size + 1, 0, none⟩) 0 0 ∧ Inv (w.alloc termsZ) wr (w.heap.size + 1) 0 0 (fun _ => false)) (fun _ _ _ => 0)
  case atStart => exact ⟨rfl, rfl, hi0⟩
  case round =>
    obtain ⟨rfl, rfl, hinv⟩ := hrel
    have hT : wr.heap[w.heap.size]? = some (.cells #[.string ⟨#[]⟩, .int .i64 0, .slice none 0 0, .slice none 0 0, .pointer none, .string ⟨#[]⟩, .slice none 0 0, .slice none 0 0, .pointer none, .string ⟨#[]⟩, .pointer none] 40 (0, 0)) := by
      obtain ⟨_, _, _, _, hb⟩ := hinv
      exact (hb.block _ (by omega)).trans (MapKept.heap_alloc w _).1
    have HI : Hid (Inv (w.alloc termsZ) wr (w.heap.size + 1) 0 0 (fun _ => false)) := hinv
    have cA := fun j => cell_setRow_same wr w.heap.size j _ (#[.string s0, .int .i64 u, .slice none 0 0, .slice (some ⟨w.heap.size + 1, 0, none⟩) 0 0, .pointer none, .string s2, .slice ca cl cc, .slice none 0 0, .pointer none, .string ⟨#[]⟩, .pointer none] : Array Value) _ _ hT
    have h1c : (#[.string s0, .int .i64 u, .slice none 0 0, .slice (some ⟨w.heap.size + 1, 0, none⟩) 0 0, .pointer none, .string s2, .slice ca cl cc, .slice none 0 0, .pointer none, .string ⟨#[]⟩, .pointer none] : Array Value).all (·.oneCell') = true := by simp [Value.oneCell']
    have hsi : (Try.prog.info? 40).map (·.size) = some (#[.string s0, .int .i64 u, .slice none 0 0, .slice (some ⟨w.heap.size + 1, 0, none⟩) 0 0, .pointer none, .string s2, .slice ca cl cc, .slice none 0 0, .pointer none, .string ⟨#[]⟩, .pointer none] : Array Value).size := by kernel_rfl
    clear hi0 hinv
    go_wp2_with (refine wpList_store_row rfl 40 (.tmp 14) (.tmp 86) rfl w.heap.size #[.string s0, .int .i64 u, .slice none 0 0, .slice (some ⟨w.heap.size + 1, 0, none⟩) 0 0, .pointer none, .string s2, .slice ca cl cc, .slice none 0 0, .pointer none, .string ⟨#[]⟩, .pointer none] rfl rfl 40 _ hT hsi rfl h1c ?_)
    exact bodyPost_ret (v := .agg #[.string s0, .int .i64 u, .slice none 0 0, .slice (some ⟨w.heap.size + 1, 0, none⟩) 0 0, .pointer none, .string s2, .slice ca cl cc, .slice none 0 0, .pointer none, .string ⟨#[]⟩, .pointer none]) (by simp [results, Try.results10, go_sem, cA]) rfl (built_end HI.out _ _ _ _ _ _ _ _ _ _ _)

set_option maxRecDepth 10000 in
set_option maxHeartbeats 1000000 in
theorem build_extra0 (s0 s2 : ByteArray) (u : Int) (ca : Option Addr) (cl cc : Nat) (ao : Option Addr) (cap : Nat) (w : World) :
    Calls Try.prog 10 #[.string s0, .int .i64 u, .string s2, .slice ca cl cc, .slice ao 0 cap, .bool true, .bool false] w (Built w 1 (fun _ => true)) := by
  obtain ⟨i0, hi, hz0, hz1, hz2⟩ := info_parts info51
  go_enter Try.func10, Try.ntmps10
  go_wp2_with (refine wpList_make_own _ rfl (.const (.int .i64 0)) (.tmp 24) 32 rfl (w.heap.size + 1) 51 i0 _ 7 Try.underlying32 hi hz0 hz1 .i64 .i64 1 1 rfl rfl rfl (by rw [hz2]; omega) (by unfold maxLen; omega) (by simp) ?_; intro w1 hown1 hgrow1)
  simp only [World.size_alloc] at hown1
  have hi0 : Inv (w.alloc termsZ) w1 (w.heap.size + 1) 1 0 (fun _ => true) :=
    ⟨[], fun _ => none, hown1, fun j hj => by omega, (Below.refl _ _).grown hgrow1 (by simp) (fun k hk => by cases hk)⟩
  clear hown1 hgrow1
  go_loopw [16, 17] (fun v i wr => i = .int .i64 0 ∧ v = .slice (some ⟨w.heap.size + 1, 0, none⟩) 0 1 ∧ Inv (w.alloc termsZ) wr (w.heap.size + 1) 1 0 (fun _ => true)) (fun _ _ _ => 0)
  case atStart => exact ⟨rfl, rfl, hi0⟩
  case round =>
    obtain ⟨rfl, rfl, hinv⟩ := hrel
    obtain ⟨xs, q, hown, hq, hb⟩ := hinv
    have hsz : w.heap.size + 1 < wr.heap.size := lt_of_owns hown
    have HQ : Hid (∀ j, j < 0 → xs[j * 7 + 6]? = some (.pointer (q j)) ∧ (q j).isSome = (fun _ => true) j) := hq
    clear hq hi0
    have h1c : (#[.string s0, .int .i64 u, .slice none 0 0, .slice (some ⟨w.heap.size + 1, 0, none⟩) 1 1, .pointer none, .string s2, .slice ca cl cc, .slice none 0 0, .pointer none, .string ⟨#[]⟩, .pointer none] : Array Value).all (·.oneCell') = true := by simp [Value.oneCell']
    have hsi : (Try.prog.info? 40).map (·.size) = some (#[.string s0, .int .i64 u, .slice none 0 0, .slice (some ⟨w.heap.size + 1, 0, none⟩) 1 1, .pointer none, .string s2, .slice ca cl cc, .slice none 0 0, .pointer none, .string ⟨#[]⟩, .pointer none] : Array Value).size := by kernel_rfl
    go_wp2_with (first | (at_builtin; refine wpList_append_fits _ rfl (.tmp 75) (.tmp 79) 32 rfl (w.heap.size + 1) 51 i0 7 Try.underlying32 hi hz1 (w.heap.size + 1) 0 1 xs rfl ((hown.alloc _).alloc _) ⟨wr.heap.size + 1, 0, none⟩ 1 1 (feeL ⟨#[122, 122, 45, 101, 120, 116, 114, 97]⟩ ⟨#[]⟩ (some ⟨wr.heap.size, 0, none⟩)) rfl rfl (fun j u h => cell_new _ (feeL ⟨#[122, 122, 45, 101, 120, 116, 114, 97]⟩ ⟨#[]⟩ (some ⟨wr.heap.size, 0, none⟩)) 51 _ (by simp) j u h) (feeL_one _ _ _) (by omega) ?_; intro w3 hown3 hgrow3; have hb3 : Below (w.heap.size + 1) (w.alloc termsZ) w3 := (((hb.alloc (by omega) _).alloc (by simp; omega) _).grown hgrow3 (by simp; omega) (fun r hr => by cases hr; omega)); have hT : w3.heap[w.heap.size]? = some (.cells #[.string ⟨#[]⟩, .int .i64 0, .slice none 0 0, .slice none 0 0, .pointer none, .string ⟨#[]⟩, .slice none 0 0, .slice none 0 0, .pointer none, .string ⟨#[]⟩, .pointer none] 40 (0, 0)) := (hb3.block _ (by omega)).trans (MapKept.heap_alloc w _).1) | refine wpList_store_row rfl 40 (.tmp 14) (.tmp 86) rfl w.heap.size #[.string s0, .int .i64 u, .slice none 0 0, .slice (some ⟨w.heap.size + 1, 0, none⟩) 1 1, .pointer none, .string s2, .slice ca cl cc, .slice none 0 0, .pointer none, .string ⟨#[]⟩, .pointer none] rfl rfl 40 _ hT hsi rfl h1c ?_)
    have cA := fun j => cell_setRow_same w3 w.heap.size j _ (#[.string s0, .int .i64 u, .slice none 0 0, .slice (some ⟨w.heap.size + 1, 0, none⟩) 1 1, .pointer none, .string s2, .slice ca cl cc, .slice none 0 0, .pointer none, .string ⟨#[]⟩, .pointer none] : Array Value) _ _ hT
    exact bodyPost_ret (v := .agg #[.string s0, .int .i64 u, .slice none 0 0, .slice (some ⟨w.heap.size + 1, 0, none⟩) 1 1, .pointer none, .string s2, .slice ca cl cc, .slice none 0 0, .pointer none, .string ⟨#[]⟩, .pointer none]) (by simp [results, Try.results10, go_sem, cA]) rfl (built_end (inv_step hown HQ.out hown3 rfl hb3) _ _ _ _ _ _ _ _ _ _ _)

set_option maxRecDepth 10000 in
set_option maxHeartbeats 1000000 in
theorem build_clear0 (s0 s2 : ByteArray) (u : Int) (ca : Option Addr) (cl cc : Nat) (ao : Option Addr) (cap : Nat) (w : World) :
    Calls Try.prog 10 #[.string s0, .int .i64 u, .string s2, .slice ca cl cc, .slice ao 0 cap, .bool false, .bool true] w (Built w 0 (fun _ => false)) := by
  obtain ⟨i0, hi, hz0, hz1, hz2⟩ := info_parts info51
  go_enter Try.func10, Try.ntmps10
  go_wp2_with (refine wpList_make_own _ rfl (.const (.int .i64 0)) (.tmp 24) 32 rfl (w.heap.size + 1) 51 i0 _ 7 Try.underlying32 hi hz0 hz1 .i64 .i64 0 0 rfl rfl rfl (by rw [hz2]; omega) (by unfold maxLen; omega) (by simp) ?_; intro w1 hown1 hgrow1)
  simp only [World.size_alloc] at hown1
  have hi0 : Inv (w.alloc termsZ) w1 (w.heap.size + 1) 0 0 (fun _ => false) :=
    ⟨[], fun _ => none, hown1, fun j hj => by omega, (Below.refl _ _).grown hgrow1 (by simp) (fun k hk => by cases hk)⟩
  clear hown1 hgrow1
  go_loopw [16, 17] (fun v i wr => i = .int .i64 0 ∧ v = .slice (some ⟨w.heap.size + 1, 0, none⟩) 0 0 ∧ Inv (w.alloc termsZ) wr (w.heap.size + 1) 0 0 (fun _ => false)) (fun _ _ _ => 0)
  case atStart => exact ⟨rfl, rfl, hi0⟩
  case round =>
    obtain ⟨rfl, rfl, hinv⟩ := hrel
    have hT : wr.heap[w.heap.size]? = some (.cells #[.string ⟨#[]⟩, .int .i64 0, .slice none 0 0, .slice none 0 0, .pointer none, .string ⟨#[]⟩, .slice none 0 0, .slice none 0 0, .pointer none, .string ⟨#[]⟩, .pointer none] 40 (0, 0)) := by
      obtain ⟨_, _, _, _, hb⟩ := hinv
      exact (hb.block _ (by omega)).trans (MapKept.heap_alloc w _).1
    have HI : Hid (Inv (w.alloc termsZ) wr (w.heap.size + 1) 0 0 (fun _ => false)) := hinv
    have cA := fun j => cell_setRow_same wr w.heap.size j _ (#[.string s0, .int .i64 u, .slice none 0 0, .slice (some ⟨w.heap.size + 1, 0, none⟩) 0 0, .pointer none, .string s2, .slice ca cl cc, .slice none 0 0, .pointer none, .string ⟨#[]⟩, .pointer none] : Array Value) _ _ hT
    have h1c : (#[.string s0, .int .i64 u, .slice none 0 0, .slice (some ⟨w.heap.size + 1, 0, none⟩) 0 0, .pointer none, .string s2, .slice ca cl cc, .slice none 0 0, .pointer none, .string ⟨#[]⟩, .pointer none] : Array Value).all (·.oneCell') = true := by simp [Value.oneCell']
    have hsi : (Try.prog.info? 40).map (·.size) = some (#[.string s0, .int .i64 u, .slice none 0 0, .slice (some ⟨w.heap.size + 1, 0, none⟩) 0 0, .pointer none, .string s2, .slice ca cl cc, .slice none 0 0, .pointer none, .string ⟨#[]⟩, .pointer none] : Array Value).size := by kernel_rfl
    clear hi0 hinv
    go_wp2_with (refine wpList_store_row rfl 40 (.tmp 14) (.tmp 86) rfl w.heap.size #[.string s0, .int .i64 u, .slice none 0 0, .slice (some ⟨w.heap.size + 1, 0, none⟩) 0 0, .pointer none, .string s2, .slice ca cl cc, .slice none 0 0, .pointer none, .string ⟨#[]⟩, .pointer none] rfl rfl 40 _ hT hsi rfl h1c ?_)
    exact bodyPost_ret (v := .agg #[.string s0, .int .i64 u, .slice none 0 0, .slice (some ⟨w.heap.size + 1, 0, none⟩) 0 0, .pointer none, .string s2, .slice ca cl cc, .slice none 0 0, .pointer none, .string ⟨#[]⟩, .pointer none]) (by simp [results, Try.results10, go_sem, cA]) rfl (built_end HI.out _ _ _ _ _ _ _ _ _ _ _)

end Go.Proofs.Qxb6612167a
