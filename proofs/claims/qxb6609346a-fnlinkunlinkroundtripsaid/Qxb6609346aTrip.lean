/-
  FnLinkUnlinkRoundTrip: the whole way, walked.
-/
import Derived.Test.Qxb6609346aTripMem
namespace Go.Proofs.Qxb6609346a
open Go.ChangeShapes Go.WideShapes Go.ChangeAt Go.RowKit

set_option maxRecDepth 10000 in
set_option maxHeartbeats 4000000 in
theorem trip_main (b k cap id n : Nat) (z : Nat → Nat) (ao : Option Addr) (w : World) (hb : b ≤ 8796093022207) (hk : k ≤ 4096) (hid0 : k ≤ id) (hid : id < 65536) (hn0 : b ≤ n) (hn1 : n < b + 32768)
    (hz : ∀ i, i < k → b ≤ z i ∧ z i < b + 32768) (hv : IntsView w ao k (fun i => z i)) (z0 : Value) (hz0 : Hid (z0 = .int .i32 0)) (Z33 : Array Value) (hZ33 : Hid (((Try.prog.info? 33).bind (·.zero)).map (·.cells) = some Z33)) (hZr : Hid (∀ w : World, (w.alloc (.cells Z33 33)).rowIs w.heap.size 33 512 (fun _ => .int .u64 0))) :
    Calls Try.prog 5 #[.int .i64 b, .slice ao k cap, .int .i32 id, .int .i64 n] w fun e w' => e = .returned (.bool true) ∧ Below w.heap.size w w' := by
  have hd : decide (k ≤ 1048576) = true := by simp; omega
  go_enter Try.func5, Try.ntmps5
  go_wp2_with (go_at_call 8; refine (bytes_any b id n _ k cap (by omega) _).mono ?_; rintro e w1 ⟨rfl, hw1⟩; subst hw1)
  go_loop [10] (fun i => ∃ m : Nat, m ≤ k ∧ i = .int .i64 m) (fun i => k - (intOf i).toNat)
  case atStart => exact ⟨0, by omega, rfl⟩
  case round =>
    obtain ⟨m, hm, rfl⟩ := hrel
    by_cases hlt : m < k
    · obtain ⟨g, o, hao, hg, hc⟩ := hv (by omega)
      subst hao
      have hcm := hc m hlt
      obtain ⟨z1, z2⟩ := hz m hlt
      clear hc hv hz
      go_wp2
      go_round
      case rel => exact ⟨m + 1, by omega, by go_num⟩
      case measure => simp [intOf]; omega
    · obtain rfl : m = k := by omega
      clear hlt hm hd
      go_wp2_with fail
      have em : ((id : Int) + 1 + 1023) / 1024 = (((id + 1 + 1023) / 1024 : Nat) : Int) := by omega
      rw [em]
      clear em
      refine (newq_any b _ ((id + 1 + 1023) / 1024) _ (by omega) _).mono ?_
      rintro e w2 ⟨L, rfl, hLm, R, hb2⟩
      have hm64 : L.m ≤ 64 := by rw [hLm]; omega
      have hidm : id < 1024 * L.m := by rw [hLm]; omega
      have H0 : LK w1.heap.size w1 w2 L b z 0 := ⟨⟨St0, CoreEq.refl _, R⟩, hb2⟩
      clear R hb2 hLm
      go_wp2
      go_loopw [13] (fun i wr => ∃ j : Nat, j ≤ m ∧ i = .int .i64 j ∧ LK w1.heap.size w1 wr L b z j) (fun i _ => m - (intOf i).toNat)
      case atStart => exact ⟨0, by omega, rfl, H0⟩
      case round =>
        obtain ⟨j, hj, rfl, hLK⟩ := hrel
        clear H0
        by_cases hlt : j < m
        · obtain ⟨⟨s, hc, R⟩, hbel⟩ := hLK
          obtain ⟨g, o, hao, hg, hcz⟩ := hv (by omega)
          subst hao
          have hcj : wr.cell? ⟨g, o + j, none⟩ = some (.int .i64 (z j)) := (hbel.cell (p := ⟨g, o + j, none⟩) hg).trans (hcz j hlt)
          obtain ⟨z1, z2⟩ := hz j hlt
          have hsz := hbel.size
          have hok := (hc.ok (run_ok z j)).fill
          have hhead : s.H (z j % 32768) = -1 ∨ ∃ g : Nat, s.H (z j % 32768) = g ∧ g < 1024 * L.m ∧ g ≠ j := by
            rcases LK.head hc (z j % 32768) with h | ⟨g, h1, h2, _⟩
            · exact Or.inl h
            · exact Or.inr ⟨g, h1, by omega, by omega⟩
          have HC : Hid (CoreEq s (runSt z j)) := hc
          have HK : Hid (Calls Try.prog 9 #[.pointer (some ⟨L.q, 0, none⟩), .int .i32 j, .int .i64 (z j)] wr fun e w' => e = .returned (.tuple #[]) ∧ (∃ hb, (s.hd = some hb ∨ (s.hd = none ∧ wr.heap.size ≤ hb)) ∧ Rep w1.heap.size w' L b (linkSt s hb j (z j % 32768))) ∧ Below w1.heap.size wr w' ∧ Frame L s wr w') :=
            R.zzlink hsz hm64 j (z j) (by omega) (by omega) hok.1 (by omega) hhead
          clear hc R hv hcz hz hok hhead
          go_wp2_with (go_at_call 9; refine HK.out.mono ?_; rintro e w3 ⟨rfl, ⟨hb', _, R'⟩, hb3, _⟩)
          go_roundw
          case rel => exact ⟨j + 1, by omega, by go_num, ⟨⟨_, HC.out.link hb' 0 j _, R'⟩, hbel.trans hb3⟩⟩
          case measure => simp [intOf]; omega
        · obtain rfl : j = m := by omega
          obtain ⟨⟨s, hc, R⟩, hbel⟩ := hLK
          have hok := hc.ok (run_ok z j)
          have HOK : Hid (Ok j j s) := hok
          have HR : Hid (Rep w1.heap.size wr L b s) := R
          have HB : Hid (Below w1.heap.size w1 wr) := hbel
          have hsz := hbel.size
          clear hc R hbel hok hv hz hlt hj
          have hmk : ∀ w : World, (Instr.makeSlice 30 (.int .i64 32768) (.int .i64 32768)).run Try.prog w = .ok (.slice (some ⟨w.heap.size, 0, none⟩) 32768 32768) (w.alloc (.cells (madeCells #[z0] 32768) 21)) := fun w => by
            rw [hz0.out]
            exact run_make_row' (P := Try.prog) 30 21 (.int .i32 0) 4 Try.underlying30 info21 rfl .i64 .i64 32768 (by omega) (by omega) w
          have hB0 : w1.heap.size ≤ wr.heap.size := hsz
          have T0 : T3 w1.heap.size w1 (wr.alloc (.cells (madeCells #[z0] 32768) 21)) L b s wr.heap.size 0 := ⟨HR.out.alloc _, by rw [pf_zero, hz0.out]; exact World.rowIs_made wr _ _ _, HB.out.alloc hsz _⟩
          have HN0 : Hid (∀ hb, s.hd = some hb → hb ≠ wr.heap.size) := fun hb hh => by have := HR.out.hd_lt hh; omega
          go_wp2
          generalize wr.alloc (.cells (madeCells #[z0] 32768) 21) = wa at *
          generalize wr.heap.size = g0 at *
          clear hmk
          go_loopw [15] (fun i wr => ∃ j : Nat, j ≤ 32768 ∧ i = .int .i64 j ∧ T3 w1.heap.size w1 wr L b s g0 j) (fun i _ => 32768 - (intOf i).toNat)
          case atStart => exact ⟨0, by omega, rfl, T0⟩
          case round =>
            rename_i wr0 _
            obtain ⟨t, ht, rfl, hT⟩ := hrel
            clear T0
            by_cases hlt : t < 32768
            · have HT : Hid (T3 w1.heap.size w1 wr L b s g0 t) := hT
              have c0 : wr.cell? ⟨g0, t, none⟩ = some (.int .i32 0) := by rw [hT.r0.cell hlt, pf_here]
              have f0 := hT.r0.frozen t
              have hti : (t : Int) < 32768 := by omega
              have HK : Hid (Calls Try.prog 10 #[.pointer (some ⟨L.q, 0, none⟩), .int .i64 ((b + t : Nat) : Int)] wr fun e w' => e = .returned (.int .i32 (s.H ((b + t) % 32768))) ∧ ∃ k, w' = wr.drewN k) := hT.rep.zzhead (b + t) (by omega)
              clear hT
              go_wp2_with (go_at_call 10; rw [show ((b : Int) + (t : Int)) = ((b + t : Nat) : Int) by omega]; refine HK.out.mono ?_; rintro e w3 ⟨rfl, dd, rfl⟩)
              go_roundw
              case rel => exact ⟨t + 1, by omega, by go_num, HT.out.step hB0 HN0.out dd⟩
              case measure => simp [intOf]; omega
            · obtain rfl : t = 32768 := by omega
              have R0 : wr.rowIs g0 21 32768 (fun j => .int .i32 (s.H ((b + j) % 32768))) := hT.r0.congr fun j hj => by simp [pf, hj]
              have hB1 : w1.heap.size ≤ wr.heap.size := hT.below.size
              have h01 : g0 < wr.heap.size := hT.r0.lt
              have T0 : T4 w1.heap.size w1 (wr.alloc (.cells Z33 33)) L b s g0 wr.heap.size 0 := ⟨hT.rep.alloc _, R0.alloc _, by rw [pf_zero]; exact hZr.out wr, hT.below.alloc hB1 _⟩
              clear hT R0 HR HB hlt ht
              go_wp2_with (refine wpList_allocZ rfl 33 rfl (some 16) rfl _ hZ33.out ?_)
              generalize wr.alloc (.cells Z33 33) = wb at *
              generalize wr.heap.size = g1 at *
              go_loopw [17] (fun i wr => ∃ j : Nat, j ≤ 512 ∧ i = .int .i64 j ∧ T4 w1.heap.size w1 wr L b s g0 g1 j) (fun i _ => 512 - (intOf i).toNat)
              case atStart => exact ⟨0, by omega, rfl, T0⟩
              case round =>
                obtain ⟨t, ht, rfl, hT⟩ := hrel
                clear T0
                by_cases hlt : t < 512
                · have HT : Hid (T4 w1.heap.size w1 wr L b s g0 g1 t) := hT
                  have c0 : wr.cell? ⟨g1, t, none⟩ = some (.int .u64 0) := by rw [hT.r1.cell hlt, pf_here]
                  have f0 := hT.r1.frozen t
                  have hti : (t : Int) < 512 := by omega
                  have HK : Hid (Calls Try.prog 11 #[.pointer (some ⟨L.q, 0, none⟩), .int .i64 t] wr fun e w' => e = .returned (.int .u64 (s.W t)) ∧ w' = wr) := hT.rep.zzword t hlt
                  clear hT
                  go_wp2_with (go_at_call 11; refine HK.out.mono ?_; rintro e w3 ⟨rfl, hw3⟩; subst hw3)
                  go_roundw
                  case rel => exact ⟨t + 1, by omega, by go_num, HT.out.step hB1⟩
                  case measure => simp [intOf]; omega
                · obtain rfl : t = 512 := by omega
                  have R1 : wr.rowIs g1 33 512 (fun j => .int .u64 (s.W j)) := hT.r1.congr fun j hj => by simp [pf, hj]
                  have R0 := hT.r0
                  have hB2 : w1.heap.size ≤ wr.heap.size := hT.below.size
                  have h02 : g0 < wr.heap.size := hT.r0.lt
                  have h12 : g1 < wr.heap.size := hT.r1.lt
                  have HR : Hid (Rep w1.heap.size wr L b s) := hT.rep
                  have HN2 : Hid (∀ hb, s.hd = some hb → hb < wr.heap.size) := fun hb hh => hT.rep.hd_lt hh
                  have T0 : T5 w1.heap.size w1 ((wr.alloc (.cells (madeCells #[z0] (id + 1)) 21)).alloc (.cells (madeCells #[z0] (id + 1)) 21)) L b (id + 1) s g0 g1 wr.heap.size (wr.heap.size + 1) 0 := by
                    have q2 : (wr.alloc (.cells (madeCells #[z0] (id + 1)) 21)).rowIs wr.heap.size 21 (id + 1) (fun _ => .int .i32 0) := by rw [hz0.out]; exact World.rowIs_made wr _ _ _
                    have q3 : ((wr.alloc (.cells (madeCells #[z0] (id + 1)) 21)).alloc (.cells (madeCells #[z0] (id + 1)) 21)).rowIs (wr.heap.size + 1) 21 (id + 1) (fun _ => .int .i32 0) := by
                      have := World.rowIs_made (wr.alloc (.cells (madeCells #[z0] (id + 1)) 21)) z0 (id + 1) 21
                      rw [World.size_alloc] at this
                      rw [hz0.out] at this ⊢
                      exact this
                    exact ⟨(hT.rep.alloc _).alloc _, (R0.alloc _).alloc _, (R1.alloc _).alloc _, by rw [pf_zero]; exact q2.alloc _, by rw [pf_zero]; exact q3, (hT.below.alloc hB2 _).alloc (by simp; omega) _⟩
                  have HF : Hid (Calls Try.prog 12 #[.pointer (some ⟨L.q, 0, none⟩)] wr fun e w' => e = .returned (.int .i64 s.filled) ∧ w' = wr) := hT.rep.zzfilled
                  have hmk2 : ∀ w : World, (Instr.makeSlice 30 (.int .i64 ((id : Int) + 1)) (.int .i64 ((id : Int) + 1))).run Try.prog w = .ok (.slice (some ⟨w.heap.size, 0, none⟩) (id + 1) (id + 1)) (w.alloc (.cells (madeCells #[z0] (id + 1)) 21)) := fun w => by
                    rw [hz0.out]
                    exact run_make_row' (P := Try.prog) 30 21 (.int .i32 0) 4 Try.underlying30 info21 rfl .i64 .i64 (id + 1) (by omega) (by omega) w
                  clear hT R0 R1 HR hlt ht
                  go_wp2_with (go_at_call 12; refine HF.out.mono ?_; rintro e w3 ⟨rfl, hw3⟩; subst hw3)
                  clear hmk2 HF
                  generalize (w3.alloc (.cells (madeCells #[z0] (id + 1)) 21)).alloc (.cells (madeCells #[z0] (id + 1)) 21) = wc at *
                  generalize w3.heap.size = g2 at *
                  go_loopw [21] (fun i wr => ∃ j : Nat, j ≤ id + 1 ∧ i = .int .i64 j ∧ T5 w1.heap.size w1 wr L b (id + 1) s g0 g1 g2 (g2 + 1) j) (fun i _ => id + 1 - (intOf i).toNat)
                  case atStart => exact ⟨0, by omega, rfl, T0⟩
                  case round =>
                    obtain ⟨t, ht, rfl, hT⟩ := hrel
                    clear T0
                    by_cases hlt : t < id + 1
                    · have HT : Hid (T5 w1.heap.size w1 wr L b (id + 1) s g0 g1 g2 (g2 + 1) t) := hT
                      have c2 : wr.cell? ⟨g2, t, none⟩ = some (.int .i32 0) := by rw [hT.r2.cell hlt, pf_here]
                      have f2 := hT.r2.frozen t
                      have c3 : wr.cell? ⟨g2 + 1, t, none⟩ = some (.int .i32 0) := by rw [hT.r3.cell hlt, pf_here]
                      have f3 := hT.r3.frozen t
                      have hti : (t : Int) < (id : Int) + 1 := by omega
                      have HK : Hid (Calls Try.prog 13 #[.pointer (some ⟨L.q, 0, none⟩), .int .i32 t] wr fun e w' => e = .returned (.tuple #[.int .i32 (s.A t), .int .i32 (s.X t)]) ∧ ∃ k, w' = wr.drewN k) := hT.rep.zzlinks t hm64 (by omega)
                      clear hT
                      go_wp2_with (go_at_call 13; refine HK.out.mono ?_; rintro e w4 ⟨rfl, dd, rfl⟩)
                      go_roundw
                      case rel => exact ⟨t + 1, by omega, by go_num, HT.out.step hB2 (by omega) (by omega) (by omega) (by omega) (fun hb hh => by have := HN2.out hb hh; omega) (fun hb hh => by have := HN2.out hb hh; omega) dd⟩
                      case measure => simp [intOf]; omega
                    · obtain rfl : t = id + 1 := by omega
                      have T : T6 w1.heap.size w1 wr L b (id + 1) s s g0 g1 g2 (g2 + 1) := ⟨hT.rep, hT.r0, hT.r1, hT.r2.congr fun j hj => by simp [pf, hj], hT.r3.congr fun j hj => by simp [pf, hj], hT.below⟩
                      clear hT hlt ht
                      have hfresh : Hid (∀ i, s.H i ≠ ((id : Nat) : Int)) := fun i e => by
                        rcases HOK.out.head i with h | ⟨g, hg, h, _⟩
                        · omega
                        · omega
                      have hfill := HOK.out.fill
                      have hB3 : w1.heap.size ≤ wr.heap.size := T.below.size
                      rcases HOK.out.head (n % 32768) with hO | ⟨o, ho, hO, hoA⟩
                      · have HO : Hid (s.H (n % 32768) = -1) := hO
                        have cO : wr.cell? ⟨g0, n - b, none⟩ = some (.int .i32 (-1)) := by
                          rw [T.r0.cell (by omega)]
                          show some (Value.int .i32 (s.H ((b + (n - b)) % 32768))) = _
                          rw [show b + (n - b) = n by omega, hO]
                        have hnb : (n : Int) - (b : Int) < 32768 := by omega
                        have HL : Hid (Calls Try.prog 9 #[.pointer (some ⟨L.q, 0, none⟩), .int .i32 id, .int .i64 n] wr fun e w' => e = .returned (.tuple #[]) ∧ (∃ hb, (s.hd = some hb ∨ (s.hd = none ∧ wr.heap.size ≤ hb)) ∧ Rep w1.heap.size w' L b (linkSt s hb id (n % 32768))) ∧ Below w1.heap.size wr w' ∧ Frame L s wr w') :=
                          T.rep.zzlink hB3 hm64 id n (by omega) (by omega) hfill.1 (by omega) (Or.inl hO)
                        have HT : Hid (T6 w1.heap.size w1 wr L b (id + 1) s s g0 g1 g2 (g2 + 1)) := T
                        have hg0 : g0 < wr.heap.size := T.r0.lt
                        have hg3 : g2 + 1 < wr.heap.size := T.r3.lt
                        clear T hO
                        go_wp2_with fail
                        refine HL.out.mono ?_
                        rintro e w4 ⟨rfl, ⟨hb', hhd, R4⟩, B4, F4⟩
                        have T4' := HT.out.turn R4 F4 B4 HN0.out (fun hb hh => by have := HN2.out hb hh; omega) (fun hb hh => by have := HN2.out hb hh; omega)
                        obtain ⟨q1, q2, q3, q4, q5, u1, u2, u3, u4, u5, u6⟩ := link_unlink HOK.out hb' id (n % 32768) hfresh.out
                        have hhb : (linkSt s hb' id (n % 32768)).hd = some hb' := linkSt_hd _ _ _ _
                        have hnb0 : hb' ≠ g0 ∧ hb' ≠ g2 ∧ hb' ≠ g2 + 1 := by
                          rcases hhd with h | ⟨_, h⟩
                          · have a1 := HN0.out hb' h
                            have a2 := HN2.out hb' h
                            omega
                          · omega
                        rw [HO.out] at q3 u6
                        rw [if_pos HO.out] at q4
                        have HU : Hid (∀ wx, Rep w1.heap.size wx L b (linkSt s hb' id (n % 32768)) → Calls Try.prog 14 #[.pointer (some ⟨L.q, 0, none⟩), .int .i32 id, .int .i64 n] wx fun e w' => e = .returned (.tuple #[]) ∧ Rep w1.heap.size w' L b (unlinkSt (linkSt s hb' id (n % 32768)) id (n % 32768)) ∧ Below w1.heap.size wx w' ∧ Frame L (linkSt s hb' id (n % 32768)) wx w') := fun wx R =>
                          R.zzunlink hm64 id n (by omega) (by omega) (by omega) (by omega) hhb q2 (Or.inl q3)
                        clear R4 B4 F4 hhd
                        generalize unlinkSt (linkSt s hb' id (n % 32768)) id (n % 32768) = s2 at *
                        generalize linkSt s hb' id (n % 32768) = s1 at *
                        have HK1 : Hid (Calls Try.prog 10 #[.pointer (some ⟨L.q, 0, none⟩), .int .i64 n] w4 fun e w' => e = .returned (.int .i32 id) ∧ ∃ k, w' = w4.drewN k) := by
                          have := T4'.rep.zzhead n (by omega)
                          rw [q1] at this
                          exact this
                        have HT4 : Hid (T6 w1.heap.size w1 w4 L b (id + 1) s s1 g0 g1 g2 (g2 + 1)) := T4'
                        clear T4' HT HL
                        go_wp2_with fail
                        refine HK1.out.mono ?_
                        rintro e w5 ⟨rfl, d1, hw5⟩
                        have T5' := HT4.out.drewN d1
                        rw [← hw5] at T5'
                        clear hw5 HK1 HT4 cO
                        have HK2 : Hid (Calls Try.prog 13 #[.pointer (some ⟨L.q, 0, none⟩), .int .i32 id] w5 fun e w' => e = .returned (.tuple #[.int .i32 (-1), .int .i32 (-1)]) ∧ ∃ k, w' = w5.drewN k) := by
                          have := T5'.rep.zzlinks id hm64 hidm
                          rw [q2, q3] at this
                          exact this
                        have HT5 : Hid (T6 w1.heap.size w1 w5 L b (id + 1) s s1 g0 g1 g2 (g2 + 1)) := T5'
                        clear T5'
                        go_wp2_with fail
                        refine HK2.out.mono ?_
                        rintro e w6 ⟨rfl, d2, hw6⟩
                        have T6' := HT5.out.drewN d2
                        rw [← hw6] at T6'
                        clear hw6 HK2 HT5
                        have HK3 : Hid (Calls Try.prog 12 #[.pointer (some ⟨L.q, 0, none⟩)] w6 fun e w' => e = .returned (.int .i64 (s.filled + 1)) ∧ w' = w6) := by
                          have := T6'.rep.zzfilled
                          rw [q4] at this
                          exact this
                        go_wp2_with fail
                        refine HK3.out.mono ?_
                        rintro e w7 ⟨rfl, hw7⟩
                        subst hw7
                        have T7 := T6'
                        clear T6' HK3
                        go_wp2_with fail
                        refine (HU.out _ T7.rep).mono ?_
                        rintro e w8 ⟨rfl, R8, B8, F8⟩
                        have T8 := T7.turn R8 F8 B8 (fun hb hh => by rw [hhb] at hh; injection hh with e; omega) (fun hb hh => by rw [hhb] at hh; injection hh with e; omega) (fun hb hh => by rw [hhb] at hh; injection hh with e; omega)
                        clear R8 B8 F8 HU
                        go_wp2
                        clear T7
                        go_loopw [30] (fun i wr => ∃ j : Nat, j ≤ 32768 ∧ i = .int .i64 j ∧ T6 w1.heap.size w1 wr L b (id + 1) s s2 g0 g1 g2 (g2 + 1)) (fun i _ => 32768 - (intOf i).toNat)
                        case atStart => exact ⟨0, by omega, rfl, T8⟩
                        case round =>
                          obtain ⟨t, ht, rfl, hT⟩ := hrel
                          clear T8
                          by_cases hlt : t < 32768
                          · have HT : Hid (T6 w1.heap.size w1 wr L b (id + 1) s s2 g0 g1 g2 (g2 + 1)) := hT
                            have c0 : wr.cell? ⟨g0, t, none⟩ = some (.int .i32 (s.H ((b + t) % 32768))) := hT.r0.cell hlt
                            have hti : (t : Int) < 32768 := by omega
                            have HK : Hid (∀ d, Calls Try.prog 10 #[.pointer (some ⟨L.q, 0, none⟩), .int .i64 ((b + t : Nat) : Int)] (wr.drewN d) fun e w' => e = .returned (.int .i32 (s.H ((b + t) % 32768))) ∧ ∃ k, w' = (wr.drewN d).drewN k) := fun d => by
                              have := (hT.rep.drewN d).zzhead (b + t) (by omega)
                              rw [u2] at this
                              exact this
                            clear hT
                            go_wp2
                            go_quiet ((go_at_call 10; rw [show ((b : Int) + (t : Int)) = ((b + t : Nat) : Int) by omega]; exact Calls.quiet_of (HK.out _)))
                            go_wp2
                            go_roundw
                            case rel => exact ⟨t + 1, by omega, by go_num, HT.out.drewN _⟩
                            case measure => simp [intOf]; omega
                          · obtain rfl : t = 32768 := by omega
                            have T8 := hT
                            clear hT hlt ht
                            have HK4 : Hid (Calls Try.prog 12 #[.pointer (some ⟨L.q, 0, none⟩)] wr fun e w' => e = .returned (.int .i64 s.filled) ∧ w' = wr) := by
                              have := T8.rep.zzfilled
                              rw [u1] at this
                              exact this
                            have HT : Hid (T6 w1.heap.size w1 wr L b (id + 1) s s2 g0 g1 g2 (g2 + 1)) := T8
                            clear T8
                            go_wp2_with (go_at_call 12; refine HK4.out.mono ?_; rintro e w9 ⟨rfl, hw9⟩; subst hw9)
                            have T8 := HT.out
                            clear HT HK4
                            go_loopw [31] (fun i wr => ∃ j : Nat, j ≤ 512 ∧ i = .int .i64 j ∧ T6 w1.heap.size w1 wr L b (id + 1) s s2 g0 g1 g2 (g2 + 1)) (fun i _ => 512 - (intOf i).toNat)
                            case atStart => exact ⟨0, by omega, rfl, T8⟩
                            case round =>
                              obtain ⟨t, ht, rfl, hT⟩ := hrel
                              clear T8
                              by_cases hlt : t < 512
                              · have HT : Hid (T6 w1.heap.size w1 wr L b (id + 1) s s2 g0 g1 g2 (g2 + 1)) := hT
                                have c0 : wr.cell? ⟨g1, t, none⟩ = some (.int .u64 (s.W t)) := hT.r1.cell hlt
                                have hti : (t : Int) < 512 := by omega
                                have HK : Hid (∀ d, Calls Try.prog 11 #[.pointer (some ⟨L.q, 0, none⟩), .int .i64 t] (wr.drewN d) fun e w' => e = .returned (.int .u64 (s.W t)) ∧ w' = wr.drewN d) := fun d => by
                                  have := (hT.rep.drewN d).zzword t hlt
                                  rw [u3] at this
                                  exact this
                                clear hT
                                go_wp2
                                go_quiet ((go_at_call 11; exact Calls.quiet_of_same (HK.out _)))
                                go_wp2
                                go_roundw
                                case rel => exact ⟨t + 1, by omega, by go_num, HT.out.drewN _⟩
                                case measure => simp [intOf]; omega
                              · obtain rfl : t = 512 := by omega
                                rw [show (((512 : Nat) : Int)) = (512 : Int) from rfl]
                                have T8 := hT
                                clear hT hlt ht
                                go_wp2
                                go_loopw [32] (fun i wr => ∃ j : Nat, j ≤ id + 1 ∧ i = .int .i64 j ∧ T6 w1.heap.size w1 wr L b (id + 1) s s2 g0 g1 g2 (g2 + 1)) (fun i _ => id + 1 - (intOf i).toNat)
                                case atStart => exact ⟨0, by omega, rfl, T8⟩
                                case round =>
                                  obtain ⟨t, ht, rfl, hT⟩ := hrel
                                  clear T8
                                  by_cases hlt : t < id + 1
                                  · have HT : Hid (T6 w1.heap.size w1 wr L b (id + 1) s s2 g0 g1 g2 (g2 + 1)) := hT
                                    by_cases hti : t = id
                                    · subst hti
                                      have HK : Hid (Calls Try.prog 13 #[.pointer (some ⟨L.q, 0, none⟩), .int .i32 t] wr fun e w' => e = .returned (.tuple #[.int .i32 (-1), .int .i32 (-1)]) ∧ ∃ k, w' = wr.drewN k) := by
                                        have := hT.rep.zzlinks t hm64 hidm
                                        rw [u5, u6] at this
                                        exact this
                                      clear hT
                                      go_wp2_with (go_at_call 13; refine HK.out.mono ?_; rintro e w9 ⟨rfl, dd, rfl⟩)
                                      go_roundw
                                      case rel => exact ⟨t + 1, by omega, by go_num, HT.out.drewN _⟩
                                      case measure => simp [intOf] <;> omega
                                    · have HK : Hid (Calls Try.prog 13 #[.pointer (some ⟨L.q, 0, none⟩), .int .i32 t] wr fun e w' => e = .returned (.tuple #[.int .i32 (s.A t), .int .i32 (s.X t)]) ∧ ∃ k, w' = wr.drewN k) := by
                                        have := hT.rep.zzlinks t hm64 (by omega)
                                        rw [(u4 t hti).1, (u4 t hti).2] at this
                                        exact this
                                      have c2 : wr.cell? ⟨g2, t, none⟩ = some (.int .i32 (s.A t)) := hT.r2.cell hlt
                                      have c3 : wr.cell? ⟨g2 + 1, t, none⟩ = some (.int .i32 (s.X t)) := hT.r3.cell hlt
                                      have hti2 : ((t : Int) == (id : Int)) = false := by simp; omega
                                      have hti3 : (t : Int) < (id : Int) + 1 := by omega
                                      clear hT
                                      go_wp2_with (go_at_call 13; refine HK.out.mono ?_; rintro e w9 ⟨rfl, dd, rfl⟩)
                                      go_roundw
                                      case rel => exact ⟨t + 1, by omega, by go_num, HT.out.drewN _⟩
                                      case measure => simp [intOf]; omega
                                  · have HB9 : Hid (Below w1.heap.size w1 wr) := hT.below
                                    clear hT
                                    go_wp2
                                    go_ret
                                    exact ⟨rfl, HB9.out⟩
                      · have HO : Hid (s.H (n % 32768) = (o : Int)) := hO
                        have ho1 : ((o : Int) == -1) = false := by simp
                        have ho2 : ((o : Int) != -1) = true := by simp
                        have cO : wr.cell? ⟨g0, n - b, none⟩ = some (.int .i32 o) := by
                          rw [T.r0.cell (by omega)]
                          show some (Value.int .i32 (s.H ((b + (n - b)) % 32768))) = _
                          rw [show b + (n - b) = n by omega, hO]
                        have hnb : (n : Int) - (b : Int) < 32768 := by omega
                        have HL : Hid (Calls Try.prog 9 #[.pointer (some ⟨L.q, 0, none⟩), .int .i32 id, .int .i64 n] wr fun e w' => e = .returned (.tuple #[]) ∧ (∃ hb, (s.hd = some hb ∨ (s.hd = none ∧ wr.heap.size ≤ hb)) ∧ Rep w1.heap.size w' L b (linkSt s hb id (n % 32768))) ∧ Below w1.heap.size wr w' ∧ Frame L s wr w') :=
                          T.rep.zzlink hB3 hm64 id n (by omega) (by omega) hfill.1 (by omega) (Or.inr ⟨o, hO, by omega, by omega⟩)
                        have HT : Hid (T6 w1.heap.size w1 wr L b (id + 1) s s g0 g1 g2 (g2 + 1)) := T
                        have hg0 : g0 < wr.heap.size := T.r0.lt
                        have hg3 : g2 + 1 < wr.heap.size := T.r3.lt
                        clear T hO
                        go_wp2_with fail
                        refine HL.out.mono ?_
                        rintro e w4 ⟨rfl, ⟨hb', hhd, R4⟩, B4, F4⟩
                        have T4' := HT.out.turn R4 F4 B4 HN0.out (fun hb hh => by have := HN2.out hb hh; omega) (fun hb hh => by have := HN2.out hb hh; omega)
                        obtain ⟨q1, q2, q3, q4, q5, u1, u2, u3, u4, u5, u6⟩ := link_unlink HOK.out hb' id (n % 32768) hfresh.out
                        have hhb : (linkSt s hb' id (n % 32768)).hd = some hb' := linkSt_hd _ _ _ _
                        have hnb0 : hb' ≠ g0 ∧ hb' ≠ g2 ∧ hb' ≠ g2 + 1 := by
                          rcases hhd with h | ⟨_, h⟩
                          · have a1 := HN0.out hb' h
                            have a2 := HN2.out hb' h
                            omega
                          · omega
                        rw [HO.out] at q3 u6
                        rw [if_neg (by rw [HO.out]; omega), Int.add_zero] at q4
                        have q6 := q5 o HO.out
                        have HU : Hid (∀ wx, Rep w1.heap.size wx L b (linkSt s hb' id (n % 32768)) → Calls Try.prog 14 #[.pointer (some ⟨L.q, 0, none⟩), .int .i32 id, .int .i64 n] wx fun e w' => e = .returned (.tuple #[]) ∧ Rep w1.heap.size w' L b (unlinkSt (linkSt s hb' id (n % 32768)) id (n % 32768)) ∧ Below w1.heap.size wx w' ∧ Frame L (linkSt s hb' id (n % 32768)) wx w') := fun wx R =>
                          R.zzunlink hm64 id n (by omega) (by omega) (by omega) (by omega) hhb q2 (Or.inr ⟨o, q3, by omega, by omega⟩)
                        clear R4 B4 F4 hhd
                        generalize unlinkSt (linkSt s hb' id (n % 32768)) id (n % 32768) = s2 at *
                        generalize linkSt s hb' id (n % 32768) = s1 at *
                        have HK1 : Hid (Calls Try.prog 10 #[.pointer (some ⟨L.q, 0, none⟩), .int .i64 n] w4 fun e w' => e = .returned (.int .i32 id) ∧ ∃ k, w' = w4.drewN k) := by
                          have := T4'.rep.zzhead n (by omega)
                          rw [q1] at this
                          exact this
                        have HT4 : Hid (T6 w1.heap.size w1 w4 L b (id + 1) s s1 g0 g1 g2 (g2 + 1)) := T4'
                        clear T4' HT HL
                        go_wp2_with fail
                        refine HK1.out.mono ?_
                        rintro e w5 ⟨rfl, d1, hw5⟩
                        have T5' := HT4.out.drewN d1
                        rw [← hw5] at T5'
                        clear hw5 HK1 HT4 cO
                        have HK2 : Hid (Calls Try.prog 13 #[.pointer (some ⟨L.q, 0, none⟩), .int .i32 id] w5 fun e w' => e = .returned (.tuple #[.int .i32 (-1), .int .i32 o]) ∧ ∃ k, w' = w5.drewN k) := by
                          have := T5'.rep.zzlinks id hm64 hidm
                          rw [q2, q3] at this
                          exact this
                        have HT5 : Hid (T6 w1.heap.size w1 w5 L b (id + 1) s s1 g0 g1 g2 (g2 + 1)) := T5'
                        clear T5'
                        go_wp2_with fail
                        refine HK2.out.mono ?_
                        rintro e w6 ⟨rfl, d2, hw6⟩
                        have T6' := HT5.out.drewN d2
                        rw [← hw6] at T6'
                        clear hw6 HK2 HT5
                        have HK3 : Hid (Calls Try.prog 12 #[.pointer (some ⟨L.q, 0, none⟩)] w6 fun e w' => e = .returned (.int .i64 s.filled) ∧ w' = w6) := by
                          have := T6'.rep.zzfilled
                          rw [q4] at this
                          exact this
                        go_wp2_with fail
                        refine HK3.out.mono ?_
                        rintro e w7 ⟨rfl, hw7⟩
                        subst hw7
                        clear HK3
                        have HK5 : Hid (Calls Try.prog 13 #[.pointer (some ⟨L.q, 0, none⟩), .int .i32 o] w7 fun e w' => e = .returned (.tuple #[.int .i32 id, .int .i32 (s1.X o)]) ∧ ∃ k, w' = w7.drewN k) := by
                          have := T6'.rep.zzlinks o hm64 (by omega)
                          rw [q6] at this
                          exact this
                        have HT6 : Hid (T6 w1.heap.size w1 w7 L b (id + 1) s s1 g0 g1 g2 (g2 + 1)) := T6'
                        clear T6'
                        go_wp2_with fail
                        refine HK5.out.mono ?_
                        rintro e w7' ⟨rfl, d3, hw7'⟩
                        have T7 := HT6.out.drewN d3
                        rw [← hw7'] at T7
                        clear hw7' HK5 HT6
                        go_wp2_with fail
                        refine (HU.out _ T7.rep).mono ?_
                        rintro e w8 ⟨rfl, R8, B8, F8⟩
                        have T8 := T7.turn R8 F8 B8 (fun hb hh => by rw [hhb] at hh; injection hh with e; omega) (fun hb hh => by rw [hhb] at hh; injection hh with e; omega) (fun hb hh => by rw [hhb] at hh; injection hh with e; omega)
                        clear R8 B8 F8 HU
                        go_wp2
                        clear T7
                        go_loopw [30] (fun i wr => ∃ j : Nat, j ≤ 32768 ∧ i = .int .i64 j ∧ T6 w1.heap.size w1 wr L b (id + 1) s s2 g0 g1 g2 (g2 + 1)) (fun i _ => 32768 - (intOf i).toNat)
                        case atStart => exact ⟨0, by omega, rfl, T8⟩
                        case round =>
                          obtain ⟨t, ht, rfl, hT⟩ := hrel
                          clear T8
                          by_cases hlt : t < 32768
                          · have HT : Hid (T6 w1.heap.size w1 wr L b (id + 1) s s2 g0 g1 g2 (g2 + 1)) := hT
                            have c0 : wr.cell? ⟨g0, t, none⟩ = some (.int .i32 (s.H ((b + t) % 32768))) := hT.r0.cell hlt
                            have hti : (t : Int) < 32768 := by omega
                            have HK : Hid (∀ d, Calls Try.prog 10 #[.pointer (some ⟨L.q, 0, none⟩), .int .i64 ((b + t : Nat) : Int)] (wr.drewN d) fun e w' => e = .returned (.int .i32 (s.H ((b + t) % 32768))) ∧ ∃ k, w' = (wr.drewN d).drewN k) := fun d => by
                              have := (hT.rep.drewN d).zzhead (b + t) (by omega)
                              rw [u2] at this
                              exact this
                            clear hT
                            go_wp2
                            go_quiet ((go_at_call 10; rw [show ((b : Int) + (t : Int)) = ((b + t : Nat) : Int) by omega]; exact Calls.quiet_of (HK.out _)))
                            go_wp2
                            go_roundw
                            case rel => exact ⟨t + 1, by omega, by go_num, HT.out.drewN _⟩
                            case measure => simp [intOf]; omega
                          · obtain rfl : t = 32768 := by omega
                            have T8 := hT
                            clear hT hlt ht
                            have HK4 : Hid (Calls Try.prog 12 #[.pointer (some ⟨L.q, 0, none⟩)] wr fun e w' => e = .returned (.int .i64 s.filled) ∧ w' = wr) := by
                              have := T8.rep.zzfilled
                              rw [u1] at this
                              exact this
                            have HT : Hid (T6 w1.heap.size w1 wr L b (id + 1) s s2 g0 g1 g2 (g2 + 1)) := T8
                            clear T8
                            go_wp2_with (go_at_call 12; refine HK4.out.mono ?_; rintro e w9 ⟨rfl, hw9⟩; subst hw9)
                            have T8 := HT.out
                            clear HT HK4
                            go_loopw [31] (fun i wr => ∃ j : Nat, j ≤ 512 ∧ i = .int .i64 j ∧ T6 w1.heap.size w1 wr L b (id + 1) s s2 g0 g1 g2 (g2 + 1)) (fun i _ => 512 - (intOf i).toNat)
                            case atStart => exact ⟨0, by omega, rfl, T8⟩
                            case round =>
                              obtain ⟨t, ht, rfl, hT⟩ := hrel
                              clear T8
                              by_cases hlt : t < 512
                              · have HT : Hid (T6 w1.heap.size w1 wr L b (id + 1) s s2 g0 g1 g2 (g2 + 1)) := hT
                                have c0 : wr.cell? ⟨g1, t, none⟩ = some (.int .u64 (s.W t)) := hT.r1.cell hlt
                                have hti : (t : Int) < 512 := by omega
                                have HK : Hid (∀ d, Calls Try.prog 11 #[.pointer (some ⟨L.q, 0, none⟩), .int .i64 t] (wr.drewN d) fun e w' => e = .returned (.int .u64 (s.W t)) ∧ w' = wr.drewN d) := fun d => by
                                  have := (hT.rep.drewN d).zzword t hlt
                                  rw [u3] at this
                                  exact this
                                clear hT
                                go_wp2
                                go_quiet ((go_at_call 11; exact Calls.quiet_of_same (HK.out _)))
                                go_wp2
                                go_roundw
                                case rel => exact ⟨t + 1, by omega, by go_num, HT.out.drewN _⟩
                                case measure => simp [intOf]; omega
                              · obtain rfl : t = 512 := by omega
                                rw [show (((512 : Nat) : Int)) = (512 : Int) from rfl]
                                have T8 := hT
                                clear hT hlt ht
                                go_wp2
                                go_loopw [32] (fun i wr => ∃ j : Nat, j ≤ id + 1 ∧ i = .int .i64 j ∧ T6 w1.heap.size w1 wr L b (id + 1) s s2 g0 g1 g2 (g2 + 1)) (fun i _ => id + 1 - (intOf i).toNat)
                                case atStart => exact ⟨0, by omega, rfl, T8⟩
                                case round =>
                                  obtain ⟨t, ht, rfl, hT⟩ := hrel
                                  clear T8
                                  by_cases hlt : t < id + 1
                                  · have HT : Hid (T6 w1.heap.size w1 wr L b (id + 1) s s2 g0 g1 g2 (g2 + 1)) := hT
                                    by_cases hti : t = id
                                    · subst hti
                                      have HK : Hid (Calls Try.prog 13 #[.pointer (some ⟨L.q, 0, none⟩), .int .i32 t] wr fun e w' => e = .returned (.tuple #[.int .i32 (-1), .int .i32 o]) ∧ ∃ k, w' = wr.drewN k) := by
                                        have := hT.rep.zzlinks t hm64 hidm
                                        rw [u5, u6] at this
                                        exact this
                                      clear hT
                                      go_wp2_with (go_at_call 13; refine HK.out.mono ?_; rintro e w9 ⟨rfl, dd, rfl⟩)
                                      go_roundw
                                      case rel => exact ⟨t + 1, by omega, by go_num, HT.out.drewN _⟩
                                      case measure => simp [intOf] <;> omega
                                    · have HK : Hid (Calls Try.prog 13 #[.pointer (some ⟨L.q, 0, none⟩), .int .i32 t] wr fun e w' => e = .returned (.tuple #[.int .i32 (s.A t), .int .i32 (s.X t)]) ∧ ∃ k, w' = wr.drewN k) := by
                                        have := hT.rep.zzlinks t hm64 (by omega)
                                        rw [(u4 t hti).1, (u4 t hti).2] at this
                                        exact this
                                      have c2 : wr.cell? ⟨g2, t, none⟩ = some (.int .i32 (s.A t)) := hT.r2.cell hlt
                                      have c3 : wr.cell? ⟨g2 + 1, t, none⟩ = some (.int .i32 (s.X t)) := hT.r3.cell hlt
                                      have hti2 : ((t : Int) == (id : Int)) = false := by simp; omega
                                      have hti3 : (t : Int) < (id : Int) + 1 := by omega
                                      clear hT
                                      go_wp2_with (go_at_call 13; refine HK.out.mono ?_; rintro e w9 ⟨rfl, dd, rfl⟩)
                                      go_roundw
                                      case rel => exact ⟨t + 1, by omega, by go_num, HT.out.drewN _⟩
                                      case measure => simp [intOf]; omega
                                  · have HB9 : Hid (Below w1.heap.size w1 wr) := hT.below
                                    clear hT
                                    go_wp2
                                    go_ret
                                    exact ⟨rfl, HB9.out⟩
end Go.Proofs.Qxb6609346a
