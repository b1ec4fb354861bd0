/-
  FnLinkScript: the whole way, walked.
-/
import Derived.Test.Qxb6609346aDoorWalkMem
namespace Go.Proofs.Qxb6609346aDoor
open Go.ChangeShapes Go.WideShapes Go.ChangeAt Go.RowKit
set_option maxRecDepth 10000 in
set_option maxHeartbeats 16000000 in
theorem script_main (b li ci ln cn k : Nat) (ids z : Nat → Nat) (ai az : Option Addr) (w : World) (hk : k = min li ln) (h1 : li ≤ 4096) (h2 : ln ≤ 4096) (hb : b ≤ 8796093022207)
    (g : Good ids z k b 65536) (hva : IntsView .i32 w ai k (fun i => ids i)) (hvz : IntsView .i64 w az k (fun i => z i)) (h0 : 0 < w.heap.size) (hT : TabAt w) (zb : Value) (hzb : Hid (zb = .bool false)) (z0 : Value) (hz0 : Hid (z0 = .int .i32 0)) (Z34 : Array Value) (hZ34 : Hid (((Tryd.prog.info? 34).bind (·.zero)).map (·.cells) = some Z34)) (hZr : Hid (∀ w : World, (w.alloc (.cells Z34 34)).rowIs w.heap.size 34 512 (fun _ => .int .u64 0))) :
    Calls Tryd.prog 3 #[.int .i64 b, .slice ai li ci, .slice az ln cn] w fun e w' => e = .returned (.bool true) ∧ Below w.heap.size w w' := by
  have hd : decide (li + ln ≤ 1048576) = true := by simp; omega
  have hkl : k ≤ li := by omega
  have hkn : k ≤ ln := by omega
  have HK : Hid (k = min li ln) := hk
  have HA : Hid (IntsView .i32 w ai k (fun i => ids i)) := hva
  have HZ : Hid (IntsView .i64 w az k (fun i => z i)) := hvz
  have HT : Hid (TabAt w) := hT
  have HG : Hid (Good ids z k b 65536) := g
  clear hk hva hvz hT g
  go_enter Tryd.func3, Tryd.ntmps3
  go_upto_if 62 with (go_at_call 4; refine (bytes_any b _ _ _ ci _ cn (by omega) (by omega) _).mono ?_; rintro e w1 ⟨rfl, hw1⟩; subst hw1)
  go_cut [7] from 40 to 64 (fun v wx => v = .int .i64 k ∧ w1 = wx)
  case first =>
    by_cases ho : ln < li
    · go_wp2
      go_meet
      have := HK.out
      exact ⟨by rw [show k = ln by omega], rfl⟩
    · go_wp2
      go_meet
      have := HK.out
      exact ⟨by rw [show k = li by omega], rfl⟩
  case rest =>
    obtain ⟨rfl, rfl⟩ := hcut
    clear HK hd
    go_upto_block 0 with fail
    go_cut [8] from 65 to 120 (fun v wx => v = .int .i32 (mxF ids k) ∧ ∃ n, wx = w1.drewN n)
    case first =>
      go_wp2_with fail
      go_loopw [8, 9] (fun mx i wr => (∃ n, wr = w1.drewN n) ∧ ∃ m : Nat, m ≤ k ∧ i = .int .i64 m ∧ mx = .int .i32 (mxF ids m)) (fun _ i _ => k - (intOf i).toNat)
      case atStart => exact ⟨⟨0, rfl⟩, 0, by omega, rfl, rfl⟩
      case round =>
        obtain ⟨⟨nd, rfl⟩, m, hm, rfl, rfl⟩ := hrel
        by_cases hlt : m < k
        · obtain ⟨ga, oa, hao, hca⟩ := HA.out.at (Below.refl _ w1) (by omega)
          obtain ⟨gz, oz, hazo, hcz⟩ := HZ.out.at (Below.refl _ w1) (by omega)
          subst hao hazo
          have ca : w1.cell? ⟨ga, oa + m, none⟩ = some (.int .i32 (ids m)) := hca m hlt
          have cz : w1.cell? ⟨gz, oz + m, none⟩ = some (.int .i64 (z m)) := hcz m hlt
          obtain ⟨z1, z2⟩ := HG.out.win m hlt
          have i1 := HG.out.lt m hlt
          obtain ⟨x1, x2⟩ := mxF_bound ids 65536 m fun i hi => HG.out.lt i (by omega)
          have HCA : Hid (∀ i, i < k → w1.cell? ⟨ga, oa + i, none⟩ = some (.int .i32 (ids i))) := hca
          have hml : (m : Int) < (k : Int) := by omega
          clear hca hcz
          generalize hM : mxF ids m = M at *
          go_wp2
          go_loopw [10] (fun i wr => (∃ n, wr = w1.drewN n) ∧ ∃ t : Nat, t ≤ m ∧ i = .int .i64 t) (fun i _ => m - (intOf i).toNat)
          case atStart => exact ⟨⟨nd, rfl⟩, 0, by omega, rfl⟩
          case round =>
            obtain ⟨⟨nd', rfl⟩, t, ht, rfl⟩ := hrel
            by_cases hlt2 : t < m
            · have ct := HCA.out t (by omega)
              have hti : (t : Int) < (m : Int) := by omega
              have hq : ¬ ids t = ids m := fun e => by have := HG.out.inj t m (by omega) hlt e; omega
              have hq' : ((ids t : Int) == (ids m : Int)) = false := by simp; omega
              go_wp2
              go_quiet (fail)
              go_wp2
              go_roundw
              case measure => simp [intOf]; omega
              case rel => exact ⟨⟨_, rfl⟩, t + 1, by omega, by go_num⟩
            · obtain rfl : t = m := by omega
              have hstep : mxF ids (t + 1) = if M < ids t then (ids t : Int) else M := by rw [← hM]; rfl
              have HS : Hid (mxF ids (t + 1) = if M < ids t then (ids t : Int) else M) := hstep
              clear hstep hM
              by_cases hM : M < ids t
              · go_wp2
                go_roundw
                case measure => simp [intOf]; omega
                case rel => exact ⟨⟨_, rfl⟩, t + 1, by omega, by go_num, by rw [HS.out, if_pos hM]⟩
              · go_wp2
                go_roundw
                case measure => simp [intOf]; omega
                case rel => exact ⟨⟨_, rfl⟩, t + 1, by omega, by go_num, by rw [HS.out, if_neg hM]⟩
        · obtain rfl : m = k := by omega
          go_wp2
          go_meet
          exact ⟨rfl, _, rfl⟩
    case rest =>
      obtain ⟨rfl, nd, rfl⟩ := hcut
      obtain ⟨x1, x2⟩ := mxF_bound ids 65536 k HG.out.lt
      obtain ⟨S, hS⟩ : ∃ S : Nat, mxF ids k = (S : Int) - 1 := ⟨(mxF ids k + 1).toNat, by omega⟩
      have hS64 : S ≤ 65536 := by omega
      have HS : Hid (∀ i, i < k → ids i < S) := fun i hi => by have := mxF_ge ids k i hi; omega
      rw [hS]
      clear x1 x2 hS
      go_upto_block 4 with (go_at_call 5; rw [show ((S : Int) + 1023) / 1024 = (((S + 1023) / 1024 : Nat) : Int) by omega]; refine (newq_any b _ ((S + 1023) / 1024) _ (by omega) _).mono ?_; rintro e w2 ⟨L, rfl, hLm, R, hb2⟩)
      have hm64 : L.m ≤ 64 := by rw [hLm]; omega
      have hSm : S ≤ 1024 * L.m := by rw [hLm]; omega
      have H0 : LK w1.heap.size w1 w2 L b ids z 0 := by
        rw [size_drewN] at R hb2
        exact ⟨⟨St0, CoreEq.refl _, R⟩, (below_drewN _ w1 nd).trans hb2⟩
      clear R hb2 hLm
      go_cut [] from 121 to 147 (fun wx => LK w1.heap.size w1 wx L b ids z k)
      case first =>
        go_wp2_with fail
        go_loopw [13] (fun i wr => ∃ j : Nat, j ≤ k ∧ i = .int .i64 j ∧ LK w1.heap.size w1 wr L b ids z j) (fun i _ => k - (intOf i).toNat)
        case atStart => exact ⟨0, by omega, rfl, H0⟩
        case round =>
          obtain ⟨j, hj, rfl, hLK⟩ := hrel
          clear H0
          by_cases hlt : j < k
          · obtain ⟨⟨s, hc, R⟩, hbel⟩ := hLK
            obtain ⟨ga, oa, hao, hca⟩ := HA.out.at hbel (by omega)
            obtain ⟨gz, oz, hazo, hcz⟩ := HZ.out.at hbel (by omega)
            subst hao hazo
            have ca : wr.cell? ⟨ga, oa + j, none⟩ = some (.int .i32 (ids j)) := hca j hlt
            have cz : wr.cell? ⟨gz, oz + j, none⟩ = some (.int .i64 (z j)) := hcz j hlt
            obtain ⟨z1, z2⟩ := HG.out.win j hlt
            have i1 := HS.out j hlt
            have hsz : w1.heap.size ≤ wr.heap.size := hbel.size
            have hok := hc.ok (run_ok ids z HG.out j (by omega))
            have hfr := run_fresh ids z HG.out j hlt
            have hsi := run_si ids z HG.out j (by omega)
            have hhead : s.H (z j % 32768) = -1 ∨ ∃ g : Nat, s.H (z j % 32768) = g ∧ g < 1024 * L.m ∧ g ≠ ids j := by
              rw [hc.H]
              rcases si_head ids z hsi (z j % 32768) with h | ⟨g, h, i, hi, hg, _⟩
              · exact Or.inl h
              · refine Or.inr ⟨g, h, ?_, fun e => hfr (z j % 32768) (by rw [h, e])⟩
                have := HS.out i (by omega)
                omega
            have hjk : (j : Int) < (k : Int) := by omega
            have HC : Hid (CoreEq s (runS ids z j)) := hc
            have HB : Hid (Below w1.heap.size w1 wr) := hbel
            have HL : Hid (∀ d, Calls Tryd.prog 6 #[.pointer (some ⟨L.q, 0, none⟩), .int .i32 (ids j), .int .i64 (z j)] (wr.drewN d) fun e w' => e = .returned (.tuple #[]) ∧ LK w1.heap.size w1 w' L b ids z (j + 1)) := fun d => by
              refine ((R.drewN d).zzlink (by rw [size_drewN]; exact hsz) hm64 (ids j) (z j) (by omega) (by omega) hok.fill.1 (by have := hok.fill.2; omega) hhead).mono ?_
              rintro e w' ⟨rfl, ⟨hb', _, R'⟩, hb3, _⟩
              exact ⟨rfl, ⟨_, HC.out.link hb' 0 (ids j) _, R'⟩, (HB.out.trans (below_drewN _ wr d)).trans hb3⟩
            clear hca hcz hok hfr hsi hhead hc R hbel HC HB
            go_wp2
            go_region_with (go_at_call 6; refine (HL.out 1).mono ?_; rintro e w3 ⟨rfl, hL3⟩)
            all_goals
              go_wp2
              go_roundw
              case measure => simp [intOf]; omega
              case rel => exact ⟨j + 1, by omega, by go_num, hL3⟩
          · obtain rfl : j = k := by omega
            go_wp2
            go_meet
            exact hLK
      case rest =>
        obtain ⟨⟨s, hc, R⟩, hbel⟩ := hcut
        have HF : Hid (FinS ids z k b s) := finS HG.out hc
        have HQ : Q0 w1.heap.size w1 wc L b s := ⟨R, hbel⟩
        have hB : w1.heap.size ≤ wc.heap.size := hbel.size
        clear H0 hc R hbel
        go_upto_block 6 with fail
        go_cut [] from 148 to 208 (fun wx => Q0 w1.heap.size w1 wx L b s)
        case first =>
          go_wp2_with fail
          go_loopg [14] k (fun gk i wr => ∃ j : Nat, j ≤ k ∧ gk = k - j ∧ i = .int .i64 j ∧ Q0 w1.heap.size w1 wr L b s)
          case atStart => exact ⟨0, by omega, rfl, rfl, HQ⟩
          case round =>
            obtain ⟨j, hj, rfl, rfl, hQ⟩ := hrel
            clear HQ
            by_cases hlt : j < k
            · have hjk : (j : Int) < (k : Int) := by omega
              obtain ⟨ga, oa, hao, hca0⟩ := HA.out.at hQ.below (by omega)
              obtain ⟨gz, oz, hazo, hcz0⟩ := HZ.out.at hQ.below (by omega)
              subst hao hazo
              have HCA : Hid (∀ wx, Q0 w1.heap.size w1 wx L b s → ∀ i, i < k → wx.cell? ⟨ga, oa + i, none⟩ = some (.int .i32 (ids i))) := fun wx hx i hi => by
                obtain ⟨g', o', e, hc⟩ := HA.out.at hx.below (by omega)
                injection e with e; injection e with e1 e2; subst e1 e2
                exact hc i hi
              have HCZ : Hid (∀ wx, Q0 w1.heap.size w1 wx L b s → ∀ i, i < k → wx.cell? ⟨gz, oz + i, none⟩ = some (.int .i64 (z i))) := fun wx hx i hi => by
                obtain ⟨g', o', e, hc⟩ := HZ.out.at hx.below (by omega)
                injection e with e; injection e with e1 e2; subst e1 e2
                exact hc i hi
              have HQ : Hid (Q0 w1.heap.size w1 wr L b s) := hQ
              clear hca0 hcz0 hQ
              go_upto_block 8 with fail
              go_cut [15] from 148 to 208 (fun v wx => (∃ u : Int, v = .int .i32 u ∧ Af ids z k j u) ∧ Q0 w1.heap.size w1 wx L b s)
              case first =>
                go_wp2_with fail
                go_loopw [15, 17] (fun v i wr => v = .int .i32 (-1) ∧ ∃ t : Nat, j < t ∧ t ≤ k ∧ i = .int .i64 t ∧ (∀ l, j < l → l < t → z l ≠ z j) ∧ Q0 w1.heap.size w1 wr L b s) (fun _ i _ => k - (intOf i).toNat)
                case atStart => exact ⟨rfl, j + 1, by omega, by omega, by go_num, fun l a b => by omega, HQ.out⟩
                case round =>
                  obtain ⟨rfl, t, ht1, ht2, rfl, hno, hQ⟩ := hrel
                  have HNO : Hid (∀ l, j < l → l < t → z l ≠ z j) := hno
                  clear hno HQ
                  by_cases hlt2 : t < k
                  · have ca := HCA.out _ hQ t hlt2
                    have cz := HCZ.out _ hQ t hlt2
                    have cj := HCZ.out _ hQ j hlt
                    have htk : (t : Int) < (k : Int) := by omega
                    have HQ : Hid (Q0 w1.heap.size w1 wr L b s) := hQ
                    clear hQ
                    by_cases he : z t = z j
                    · have HE : Hid (z t = z j) := he
                      have he' : ((z t : Int) == (z j : Int)) = true := by simp; omega
                      clear he
                      go_wp2
                      go_quiet (fail)
                      go_wp2
                      go_meet
                      exact ⟨⟨ids t, rfl, Or.inr ⟨t, ht1, hlt2, HE.out, HNO.out, rfl⟩⟩, HQ.out.drewN _⟩
                    · have he' : ((z t : Int) == (z j : Int)) = false := by simp; omega
                      have HE : Hid (¬ z t = z j) := he
                      clear he
                      go_wp2
                      go_quiet (fail)
                      go_wp2
                      go_roundw
                      case measure => simp [intOf]; omega
                      case rel => exact ⟨rfl, t + 1, by omega, by omega, by go_num, fun l a b => by
                        by_cases e : l = t
                        · subst e; exact HE.out
                        · exact HNO.out l a (by omega), HQ.out.drewN _⟩
                  · obtain rfl : t = k := by omega
                    have HQ : Hid (Q0 w1.heap.size w1 wr L b s) := hQ
                    clear hQ
                    go_wp2
                    go_meet
                    exact ⟨⟨-1, rfl, Or.inl ⟨rfl, HNO.out⟩⟩, HQ.out⟩
              case rest =>
                obtain ⟨⟨u, rfl, hAf⟩, hQ⟩ := hcut
                have HAF : Hid (Af ids z k j u) := hAf
                clear HQ hAf
                have HQ : Hid (Q0 w1.heap.size w1 wc L b s) := hQ
                clear hQ
                go_upto_block 10 with fail
                go_cut [16] from 148 to 208 (fun v wx => (∃ u : Int, v = .int .i32 u ∧ Bf ids z j u) ∧ Q0 w1.heap.size w1 wx L b s)
                case first =>
                  go_wp2_with fail
                  go_loopw [16, 18] (fun v i wr => v = .int .i32 (-1) ∧ ∃ t : Nat, t ≤ j ∧ i = .int .i64 ((t : Int) - 1) ∧ (∀ l, t ≤ l → l < j → z l ≠ z j) ∧ Q0 w1.heap.size w1 wr L b s) (fun _ i _ => (intOf i + 1).toNat)
                  case atStart => exact ⟨rfl, j, by omega, by go_num, fun l a b => by omega, HQ.out⟩
                  case round =>
                    obtain ⟨rfl, t, ht1, rfl, hno, hQ⟩ := hrel
                    rcases Nat.eq_zero_or_pos t with h0t | h0t
                    · subst h0t
                      have HNO : Hid (∀ l, 0 ≤ l → l < j → z l ≠ z j) := hno
                      have HQ : Hid (Q0 w1.heap.size w1 wr L b s) := hQ
                      clear hQ hno
                      rw [show (((0 : Nat) : Int) - 1) = -1 from rfl]
                      go_wp2
                      go_meet
                      exact ⟨⟨-1, rfl, Or.inl ⟨rfl, fun l hl => HNO.out l (by omega) hl⟩⟩, HQ.out⟩
                    · obtain ⟨t', rfl⟩ : ∃ t', t = t' + 1 := ⟨t - 1, by omega⟩
                      have HNO : Hid (∀ l, t' + 1 ≤ l → l < j → z l ≠ z j) := hno
                      have ca := HCA.out _ hQ t' (by omega)
                      have cz := HCZ.out _ hQ t' (by omega)
                      have cj := HCZ.out _ hQ j hlt
                      have htk : (t' : Int) < (k : Int) := by omega
                      have HQ : Hid (Q0 w1.heap.size w1 wr L b s) := hQ
                      clear hQ hno
                      rw [show (((t' + 1 : Nat) : Int) - 1) = (t' : Int) by omega]
                      by_cases he : z t' = z j
                      · have HE : Hid (z t' = z j) := he
                        have he' : ((z t' : Int) == (z j : Int)) = true := by simp; omega
                        clear he
                        go_wp2
                        go_quiet (fail)
                        go_wp2
                        go_meet
                        exact ⟨⟨ids t', rfl, Or.inr ⟨t', by omega, HE.out, fun l a b => HNO.out l (by omega) b, rfl⟩⟩, HQ.out.drewN _⟩
                      · have he' : ((z t' : Int) == (z j : Int)) = false := by simp; omega
                        have HE : Hid (¬ z t' = z j) := he
                        clear he
                        go_wp2
                        go_quiet (fail)
                        go_wp2
                        go_roundw
                        case measure => simp [intOf]
                        case rel => exact ⟨rfl, t', by omega, by go_num, fun l a b => by
                          by_cases e : l = t'
                          · subst e; exact HE.out
                          · exact HNO.out l (by omega) b, HQ.out.drewN _⟩
                case rest =>
                  obtain ⟨⟨v, rfl, hBf⟩, hQ⟩ := hcut
                  have ca := HCA.out _ hQ j hlt
                  have i1 := HS.out j hlt
                  have HL : Hid (Calls Tryd.prog 7 #[.pointer (some ⟨L.q, 0, none⟩), .int .i32 (ids j)] wc fun e w' => e = .returned (.tuple #[.int .i32 u, .int .i32 v]) ∧ ∃ k, w' = wc.drewN k) := by
                    have := hQ.rep.zzlinks (ids j) hm64 (by omega)
                    rw [Af.eq ids z (HF.out.hA j hlt) HAF.out, Bf.eq ids z (HF.out.hX j hlt) hBf] at this
                    exact this
                  clear hBf HQ
                  have HQ : Hid (Q0 w1.heap.size w1 wc L b s) := hQ
                  clear hQ
                  go_wp2_with (go_at_call 7; refine HL.out.mono ?_; rintro e w4 ⟨rfl, dd, rfl⟩)
                  go_roundg (k - (j + 1))
                  case measure => omega
                  case rel => exact ⟨j + 1, by omega, rfl, by go_num, HQ.out.drewN _⟩
            · obtain rfl : j = k := by omega
              go_wp2
              go_meet
              exact hQ
        case rest =>
          have hQ4 : Q0 w1.heap.size w1 wc L b s := hcut
          clear hcut HQ hB
          have hB : w1.heap.size ≤ wc.heap.size := hQ4.below.size
          have hmk : ∀ w : World, (Instr.makeSlice 30 (.int .i64 (S : Int)) (.int .i64 (S : Int))).run Tryd.prog w = .ok (.slice (some ⟨w.heap.size, 0, none⟩) S S) (w.alloc (.cells (madeCells #[zb] S) 4)) := fun w => by
            rw [hzb.out]
            exact run_make_row' (P := Tryd.prog) 30 4 (.bool false) 1 Tryd.underlying30 info4 rfl .i64 .i64 S (by omega) (by omega) w
          have T0 : T7 w1.heap.size w1 (wc.alloc (.cells (madeCells #[zb] S) 4)) L b s wc.heap.size S ids 0 := ⟨hQ4.alloc hB _, by rw [hzb.out]; exact World.rowIs_made wc _ _ _, hB⟩
          clear hQ4
          go_upto_block 12 with fail
          generalize wc.alloc (.cells (madeCells #[zb] S) 4) = wa at *
          generalize wc.heap.size = g1 at *
          clear hmk
          go_cut [] from 209 to 221 (fun wx => T7 w1.heap.size w1 wx L b s g1 S ids k)
          case first =>
            go_wp2_with fail
            go_loopw [22] (fun i wr => ∃ j : Nat, j ≤ k ∧ i = .int .i64 j ∧ T7 w1.heap.size w1 wr L b s g1 S ids j) (fun i _ => k - (intOf i).toNat)
            case atStart => exact ⟨0, by omega, rfl, T0⟩
            case round =>
              obtain ⟨j, hj, rfl, hT⟩ := hrel
              clear T0
              by_cases hlt : j < k
              · obtain ⟨ga, oa, hao, hca⟩ := HA.out.at hT.q.below (by omega)
                subst hao
                have ca : wr.cell? ⟨ga, oa + j, none⟩ = some (.int .i32 (ids j)) := hca j hlt
                have i1 := HS.out j hlt
                have i2 : (ids j : Int) < (S : Int) := by omega
                have hjk : (j : Int) < (k : Int) := by omega
                have c0 : wr.cell? ⟨g1, ids j, none⟩ = some (.bool (mkF ids j (ids j))) := hT.r.cell i1
                have f0 := hT.r.frozen (ids j)
                have HT7 : Hid (T7 w1.heap.size w1 wr L b s g1 S ids j) := hT
                clear hT hca
                go_wp2
                go_roundw
                case measure => simp [intOf]; omega
                case rel => exact ⟨j + 1, by omega, by go_num, HT7.out.step⟩
              · obtain rfl : j = k := by omega
                have HT7 : Hid (T7 w1.heap.size w1 wr L b s g1 S ids j) := hT
                clear hT
                go_wp2
                go_meet
                exact HT7.out
          case rest =>
            have HT7 : T7 w1.heap.size w1 wc L b s g1 S ids k := hcut
            clear hcut T0
            go_upto_block 14 with fail
            go_cut [] from 222 to 243 (fun wx => Q0 w1.heap.size w1 wx L b s)
            case first =>
              go_wp2_with fail
              go_loopw [23] (fun i wr => ∃ j : Nat, j ≤ S ∧ i = .int .i64 j ∧ T7 w1.heap.size w1 wr L b s g1 S ids k) (fun i _ => S - (intOf i).toNat)
              case atStart => exact ⟨0, by omega, rfl, HT7⟩
              case round =>
                obtain ⟨j, hj, rfl, hT⟩ := hrel
                clear HT7
                by_cases hlt : j < S
                · have hjk : (j : Int) < (S : Int) := by omega
                  have HT7 : Hid (T7 w1.heap.size w1 wr L b s g1 S ids k) := hT
                  cases hm : mkF ids k j with
                  | true =>
                    have c0 : wr.cell? ⟨g1, j, none⟩ = some (.bool true) := by rw [hT.r.cell hlt, hm]
                    clear hT hm
                    go_wp2
                    go_roundw
                    case measure => simp [intOf]; omega
                    case rel => exact ⟨j + 1, by omega, by go_num, HT7.out⟩
                  | false =>
                    have c0 : wr.cell? ⟨g1, j, none⟩ = some (.bool false) := by rw [hT.r.cell hlt, hm]
                    have HL : Hid (Calls Tryd.prog 7 #[.pointer (some ⟨L.q, 0, none⟩), .int .i32 j] wr fun e w' => e = .returned (.tuple #[.int .i32 0, .int .i32 0]) ∧ ∃ k, w' = wr.drewN k) := by
                      have := hT.q.rep.zzlinks j hm64 (by omega)
                      obtain ⟨e1, e2⟩ := HF.out.hU j (mkF_iff ids k j hm)
                      rw [e1, e2] at this
                      exact this
                    clear hT hm
                    go_wp2_with (go_at_call 7; refine HL.out.mono ?_; rintro e w4 ⟨rfl, dd, rfl⟩)
                    go_roundw
                    case measure => simp [intOf]; omega
                    case rel => exact ⟨j + 1, by omega, by go_num, HT7.out.drewN _⟩
                · obtain rfl : j = S := by omega
                  have HQ9 : Hid (Q0 w1.heap.size w1 wr L b s) := hT.q
                  clear hT
                  go_wp2
                  go_meet
                  exact HQ9.out
            case rest =>
              have hQ4 : Q0 w1.heap.size w1 wc L b s := hcut
              clear hcut HT7
              have hB2 : w1.heap.size ≤ wc.heap.size := hQ4.below.size
              have hmk : ∀ w : World, (Instr.makeSlice 22 (.int .i64 32768) (.int .i64 32768)).run Tryd.prog w = .ok (.slice (some ⟨w.heap.size, 0, none⟩) 32768 32768) (w.alloc (.cells (madeCells #[z0] 32768) 21)) := fun w => by
                rw [hz0.out]
                exact run_make_row' (P := Tryd.prog) 22 21 (.int .i32 0) 4 Tryd.underlying22 info21 rfl .i64 .i64 32768 (by omega) (by omega) w
              have T0 : T9 w1.heap.size w1 (wc.alloc (.cells (madeCells #[z0] 32768) 21)) L b s wc.heap.size (ngF 0) := ⟨hQ4.alloc hB2 _, (by rw [hz0.out]; exact World.rowIs_made wc _ _ _ : (wc.alloc (.cells (madeCells #[z0] 32768) 21)).rowIs wc.heap.size 21 32768 (fun _ => .int .i32 0)).congr fun j _ => rfl, hB2, fun hb hh => by have := hQ4.rep.hd_lt hh; omega⟩
              clear hQ4
              go_upto_block 16 with fail
              generalize wc.alloc (.cells (madeCells #[z0] 32768) 21) = wb at *
              generalize wc.heap.size = g2 at *
              clear hmk
              go_cut [] from 244 to 253 (fun wx => T9 w1.heap.size w1 wx L b s g2 (hdF ids z b 0))
              case first =>
                go_wp2_with fail
                go_loopw [247] (fun i wr => ∃ j : Nat, j ≤ 32768 ∧ i = .int .i64 j ∧ T9 w1.heap.size w1 wr L b s g2 (ngF j)) (fun i _ => 32768 - (intOf i).toNat)
                case atStart => exact ⟨0, by omega, rfl, T0⟩
                case round =>
                  obtain ⟨j, hj, rfl, hT⟩ := hrel
                  clear T0
                  have HT9 : Hid (T9 w1.heap.size w1 wr L b s g2 (ngF j)) := hT
                  by_cases hlt : j < 32768
                  · have c0 : wr.cell? ⟨g2, j, none⟩ = some (.int .i32 (ngF j j)) := hT.r.cell hlt
                    have f0 := hT.r.frozen j
                    have hjk : (j : Int) < 32768 := by omega
                    clear hT
                    go_wp2
                    go_roundw
                    case measure => simp [intOf]; omega
                    case rel => exact ⟨j + 1, by omega, by go_num, HT9.out.fill⟩
                  · obtain rfl : j = 32768 := by omega
                    clear hT
                    go_wp2
                    go_meet
                    exact HT9.out.congr fun j hj => by show (if j < 32768 then (-1 : Int) else 0) = -1; rw [if_pos hj]
              case rest =>
                have HT9 : T9 w1.heap.size w1 wc L b s g2 (hdF ids z b 0) := hcut
                clear hcut T0
                go_upto_block 18 with fail
                go_cut [28] from 254 to 278 (fun v wx => v = .int .i64 (dsF ids z b k) ∧ T9 w1.heap.size w1 wx L b s g2 (hdF ids z b k))
                case first =>
                  go_wp2_with fail
                  go_loopw [28, 29] (fun v i wr => ∃ j : Nat, j ≤ k ∧ i = .int .i64 j ∧ v = .int .i64 (dsF ids z b j) ∧ T9 w1.heap.size w1 wr L b s g2 (hdF ids z b j)) (fun _ i _ => k - (intOf i).toNat)
                  case atStart => exact ⟨0, by omega, rfl, rfl, HT9⟩
                  case round =>
                    obtain ⟨j, hj, rfl, rfl, hT⟩ := hrel
                    clear HT9
                    have HT9 : Hid (T9 w1.heap.size w1 wr L b s g2 (hdF ids z b j)) := hT
                    obtain ⟨d1, d2⟩ := dsF_bound ids z b j
                    by_cases hlt : j < k
                    · obtain ⟨ga, oa, hao, hca⟩ := HA.out.at hT.q.below (by omega)
                      obtain ⟨gz, oz, hazo, hcz⟩ := HZ.out.at hT.q.below (by omega)
                      subst hao hazo
                      have ca : wr.cell? ⟨ga, oa + j, none⟩ = some (.int .i32 (ids j)) := hca j hlt
                      have cz : wr.cell? ⟨gz, oz + j, none⟩ = some (.int .i64 (z j)) := hcz j hlt
                      obtain ⟨z1, z2⟩ := HG.out.win j hlt
                      have hjk : (j : Int) < (k : Int) := by omega
                      have hnb : (z j : Int) - (b : Int) < 32768 := by omega
                      have f0 := hT.r.frozen (z j - b)
                      have hds : Hid (dsF ids z b (j + 1) = dsF ids z b j + (if hdF ids z b j (z j - b) = -1 then 1 else 0)) := rfl
                      rcases hdF_cases ids z b j (z j - b) with h | ⟨o, h⟩
                      · have c0 : wr.cell? ⟨g2, z j - b, none⟩ = some (.int .i32 (-1)) := by
                          rw [hT.r.cell (by omega)]
                          show some (Value.int .i32 (hdF ids z b j (z j - b))) = _
                          rw [h]
                        have HH : Hid (dsF ids z b (j + 1) = dsF ids z b j + 1) := by show dsF ids z b (j + 1) = dsF ids z b j + 1; rw [hds.out, if_pos h]
                        clear hT hca hcz h hds
                        generalize dsF ids z b j = D at *
                        go_wp2
                        go_roundw
                        case measure => simp [intOf]; omega
                        case rel => exact ⟨j + 1, by omega, by go_num, by rw [HH.out], HT9.out.set (z j - b) (ids j)⟩
                      · have c0 : wr.cell? ⟨g2, z j - b, none⟩ = some (.int .i32 o) := by
                          rw [hT.r.cell (by omega)]
                          show some (Value.int .i32 (hdF ids z b j (z j - b))) = _
                          rw [h]
                        have ho1 : ((o : Int) == -1) = false := by simp
                        have ho2 : ((o : Int) != -1) = true := by simp
                        have HH : Hid (dsF ids z b (j + 1) = dsF ids z b j) := by show dsF ids z b (j + 1) = dsF ids z b j; rw [hds.out, if_neg (by rw [h]; omega), Int.add_zero]
                        clear hT hca hcz h hds
                        generalize dsF ids z b j = D at *
                        go_wp2
                        go_roundw
                        case measure => simp [intOf]; omega
                        case rel => exact ⟨j + 1, by omega, by go_num, by rw [HH.out], HT9.out.set (z j - b) (ids j)⟩
                    · obtain rfl : j = k := by omega
                      clear hT
                      go_wp2
                      go_meet
                      exact ⟨rfl, HT9.out⟩
                case rest =>
                  obtain ⟨rfl, hT⟩ := hcut
                  clear HT9
                  have HT9 : T9 w1.heap.size w1 wc L b s g2 (hdF ids z b k) := hT
                  clear hT
                  go_upto_block 20 with fail
                  go_cut [] from 279 to 292 (fun wx => T9 w1.heap.size w1 wx L b s g2 (hdF ids z b k))
                  case first =>
                    go_wp2_with fail
                    go_loopw [31] (fun i wr => ∃ j : Nat, j ≤ 32768 ∧ i = .int .i64 j ∧ T9 w1.heap.size w1 wr L b s g2 (hdF ids z b k)) (fun i _ => 32768 - (intOf i).toNat)
                    case atStart => exact ⟨0, by omega, rfl, HT9⟩
                    case round =>
                      obtain ⟨j, hj, rfl, hT⟩ := hrel
                      clear HT9
                      have HT9 : Hid (T9 w1.heap.size w1 wr L b s g2 (hdF ids z b k)) := hT
                      by_cases hlt : j < 32768
                      · have c0 : wr.cell? ⟨g2, j, none⟩ = some (.int .i32 (hdF ids z b k j)) := hT.r.cell hlt
                        have hti : (j : Int) < 32768 := by omega
                        have HL : Hid (∀ d, Calls Tryd.prog 8 #[.pointer (some ⟨L.q, 0, none⟩), .int .i64 ((b + j : Nat) : Int)] (wr.drewN d) fun e w' => e = .returned (.int .i32 (hdF ids z b k j)) ∧ ∃ k, w' = (wr.drewN d).drewN k) := fun d => by
                          have := (hT.q.rep.drewN d).zzhead (b + j) (by omega)
                          rw [HF.out.heads j hlt] at this
                          exact this
                        clear hT
                        go_wp2
                        go_quiet ((go_at_call 8; rw [show ((b : Int) + (j : Int)) = ((b + j : Nat) : Int) by omega]; exact Calls.quiet_of (HL.out _)))
                        go_wp2
                        go_roundw
                        case measure => simp [intOf]; omega
                        case rel => exact ⟨j + 1, by omega, by go_num, HT9.out.drewN _⟩
                      · obtain rfl : j = 32768 := by omega
                        clear hT
                        go_wp2
                        go_meet
                        exact HT9.out
                  case rest =>
                    have hT : T9 w1.heap.size w1 wc L b s g2 (hdF ids z b k) := hcut
                    clear hcut HT9
                    have hB3 : w1.heap.size ≤ wc.heap.size := hT.q.below.size
                    have HK3 : Hid (Calls Tryd.prog 9 #[.pointer (some ⟨L.q, 0, none⟩)] wc fun e w' => e = .returned (.int .i64 (dsF ids z b k)) ∧ w' = wc) := by
                      have := hT.q.rep.zzfilled
                      rw [HF.out.filled] at this
                      exact this
                    have T0 : T12 w1.heap.size w1 (wc.alloc (.cells Z34 34)) L b s g2 wc.heap.size (hdF ids z b k) (FW b (hdF ids z b k) 0) := ⟨⟨hT.q.alloc hB3 _, hT.r.alloc _, hT.ge, hT.ne⟩, hZr.out wc, hB3⟩
                    clear hT
                    go_upto_block 22 with (first | (go_at_call 9; refine HK3.out.mono ?_; rintro e w3 ⟨rfl, hw3⟩; subst hw3) | (refine wpList_allocZ rfl 34 rfl (some 32) rfl _ hZ34.out ?_))
                    clear HK3
                    generalize w3.alloc (.cells Z34 34) = wd at *
                    generalize w3.heap.size = g3 at *
                    go_cut [] from 293 to 319 (fun wx => T12 w1.heap.size w1 wx L b s g2 g3 (hdF ids z b k) (FW b (hdF ids z b k) 32768))
                    case first =>
                      go_wp2_with fail
                      go_loopw [33] (fun i wr => ∃ j : Nat, j ≤ 32768 ∧ i = .int .i64 j ∧ T12 w1.heap.size w1 wr L b s g2 g3 (hdF ids z b k) (FW b (hdF ids z b k) j)) (fun i _ => 32768 - (intOf i).toNat)
                      case atStart => exact ⟨0, by omega, rfl, T0⟩
                      case round =>
                        obtain ⟨j, hj, rfl, hT⟩ := hrel
                        clear T0
                        have HT12 : Hid (T12 w1.heap.size w1 wr L b s g2 g3 (hdF ids z b k) (FW b (hdF ids z b k) j)) := hT
                        by_cases hlt : j < 32768
                        · have hti : (j : Int) < 32768 := by omega
                          rcases hdF_cases ids z b k j with h | ⟨o, h⟩
                          · have c0 : wr.cell? ⟨g2, j, none⟩ = some (.int .i32 (-1)) := by
                              rw [hT.t.r.cell hlt]
                              show some (Value.int .i32 (hdF ids z b k j)) = _
                              rw [h]
                            have HW : Hid (FW b (hdF ids z b k) (j + 1) = FW b (hdF ids z b k) j) := by
                              show (if hdF ids z b k j = -1 then FW b (hdF ids z b k) j else _) = _
                              rw [if_pos h]
                            clear hT h
                            go_wp2
                            go_roundw
                            case measure => simp [intOf]; omega
                            case rel => exact ⟨j + 1, by omega, by go_num, by rw [HW.out]; exact HT12.out⟩
                          · have c0 : wr.cell? ⟨g2, j, none⟩ = some (.int .i32 o) := by
                              rw [hT.t.r.cell hlt]
                              show some (Value.int .i32 (hdF ids z b k j)) = _
                              rw [h]
                            have ho1 : ((o : Int) == -1) = false := by simp
                            have ho2 : ((o : Int) != -1) = true := by simp
                            have c1 : wr.cell? ⟨g3, (b + j) % 32768 / 64, none⟩ = some (.int .u64 (FW b (hdF ids z b k) j ((b + j) % 32768 / 64))) := hT.r.cell (by omega)
                            have f1 := hT.r.frozen ((b + j) % 32768 / 64)
                            have HW : Hid (FW b (hdF ids z b k) (j + 1) = upd (FW b (hdF ids z b k) j) ((b + j) % 32768 / 64) (orW (FW b (hdF ids z b k) j ((b + j) % 32768 / 64)) ((b + j) % 32768 % 64))) := by
                              show (if hdF ids z b k j = -1 then FW b (hdF ids z b k) j else _) = _
                              rw [if_neg (by rw [h]; omega)]
                            clear hT h
                            generalize FW b (hdF ids z b k) j ((b + j) % 32768 / 64) = x at *
                            go_wp2
                            go_roundw
                            case measure => simp [intOf]; omega
                            case rel =>
                              refine ⟨j + 1, by omega, by go_num, ?_⟩
                              rw [HW.out]
                              have := HT12.out.set ((b + j) % 32768 / 64) (orW x ((b + j) % 32768 % 64))
                              rw [show (b + j) % 32768 % 64 = (b + j) % 64 by omega] at this ⊢
                              exact this
                        · obtain rfl : j = 32768 := by omega
                          clear hT
                          go_wp2
                          go_meet
                          exact HT12.out
                    case rest =>
                      have hT : T12 w1.heap.size w1 wc L b s g2 g3 (hdF ids z b k) (FW b (hdF ids z b k) 32768) := hcut
                      clear hcut T0
                      go_upto_block 24 with fail
                      go_cut [] from 320 to 330 (fun wx => T12 w1.heap.size w1 wx L b s g2 g3 (hdF ids z b k) (FW b (hdF ids z b k) 32768))
                      case first =>
                        go_wp2_with fail
                        go_loopw [35] (fun i wr => ∃ j : Nat, j ≤ 512 ∧ i = .int .i64 j ∧ T12 w1.heap.size w1 wr L b s g2 g3 (hdF ids z b k) (FW b (hdF ids z b k) 32768)) (fun i _ => 512 - (intOf i).toNat)
                        case atStart => exact ⟨0, by omega, rfl, hT⟩
                        case round =>
                          clear hT
                          obtain ⟨j, hj, rfl, hT⟩ := hrel
                          have HT12 : Hid (T12 w1.heap.size w1 wr L b s g2 g3 (hdF ids z b k) (FW b (hdF ids z b k) 32768)) := hT
                          by_cases hlt : j < 512
                          · have c0 : wr.cell? ⟨g3, j, none⟩ = some (.int .u64 (FW b (hdF ids z b k) 32768 j)) := hT.r.cell hlt
                            have hti : (j : Int) < 512 := by omega
                            have HL : Hid (∀ d, Calls Tryd.prog 10 #[.pointer (some ⟨L.q, 0, none⟩), .int .i64 j] (wr.drewN d) fun e w' => e = .returned (.int .u64 (FW b (hdF ids z b k) 32768 j)) ∧ w' = wr.drewN d) := fun d => by
                              have := (hT.t.q.rep.drewN d).zzword j hlt
                              rw [HF.out.words j hlt] at this
                              exact this
                            clear hT
                            generalize FW b (hdF ids z b k) 32768 j = x at *
                            go_wp2
                            go_quiet ((go_at_call 10; exact Calls.quiet_of_same (HL.out _)))
                            go_wp2
                            go_roundw
                            case measure => simp [intOf]; omega
                            case rel => exact ⟨j + 1, by omega, by go_num, HT12.out.drewN _⟩
                          · obtain rfl : j = 512 := by omega
                            clear hT
                            go_wp2
                            go_meet
                            exact HT12.out
                      case rest =>
                        have HQ : Hid (Q0 w1.heap.size w1 wc L b s) := hcut.t.q
                        clear hcut hT
                        rcases Nat.eq_zero_or_pos k with hk0 | hk0
                        · subst hk0
                          have HL : Hid (Calls Tryd.prog 11 #[.pointer (some ⟨L.q, 0, none⟩)] wc fun e w' => e = .returned (.tuple #[.int .i64 0, .bool false]) ∧ w' = wc) := HQ.out.rep.zzfirst0 (HF.out.empty rfl)
                          go_wp2_with (go_at_call 11; refine HL.out.mono ?_; rintro e w4 ⟨rfl, hw4⟩; subst hw4)
                          go_ret
                          exact ⟨rfl, HQ.out.below⟩
                        · have HL : Hid (Calls Tryd.prog 11 #[.pointer (some ⟨L.q, 0, none⟩)] wc fun e w' => (∃ v : Int, e = .returned (.tuple #[.int .i64 v, .bool true]) ∧ ∃ off : Nat, off < 32768 ∧ v = ((b + off : Nat) : Int) ∧ s.H ((b + off) % 32768) ≠ -1 ∧ ∀ o, o < off → s.H ((b + o) % 32768) = -1) ∧ ∃ k, w' = wc.drewN k) :=
                            HQ.out.rep.zzfirst hb HF.out.wok (HT.out.at h0 HQ.out.below) (HF.out.full hk0).1 (HF.out.full hk0).2
                          have hkb : ((k : Int) == 0) = false := by simp; omega
                          obtain ⟨ga, oa, hao, hca⟩ := HA.out.at HQ.out.below hk0
                          obtain ⟨gz, oz, hazo, hcz⟩ := HZ.out.at HQ.out.below hk0
                          subst hao hazo
                          have cz0 : wc.cell? ⟨gz, oz, none⟩ = some (.int .i64 (z 0)) := hcz 0 hk0
                          have HCZ : Hid (∀ i, i < k → wc.cell? ⟨gz, oz + i, none⟩ = some (.int .i64 (z i))) := hcz
                          clear hca hcz
                          have hln : (0 : Int) < (ln : Int) := by omega
                          go_wp2_with (go_at_call 11; refine HL.out.mono ?_; rintro e w4 ⟨⟨v, rfl, off, hoff, rfl, hn1, hn2⟩, dd, rfl⟩)
                          have HN : Hid (s.H ((b + off) % 32768) ≠ -1 ∧ ∀ o, o < off → s.H ((b + o) % 32768) = -1) := ⟨hn1, hn2⟩
                          clear hn1 hn2 HL
                          go_loopw [38, 39] (fun l i wr => (∃ n, wr = wc.drewN n) ∧ ∃ j m : Nat, 1 ≤ j ∧ j ≤ k ∧ i = .int .i64 j ∧ l = .int .i64 m ∧ (∃ i, i < j ∧ z i = m) ∧ ∀ i, i < j → m ≤ z i) (fun _ i _ => k - (intOf i).toNat)
                          case atStart => exact ⟨⟨dd, rfl⟩, 1, z 0, by omega, by omega, rfl, rfl, ⟨0, by omega, rfl⟩, fun i hi => by rw [show i = 0 by omega]; exact Nat.le_refl _⟩
                          case round =>
                            obtain ⟨⟨nw, rfl⟩, j, m, hj1, hj2, rfl, rfl, hex, hall⟩ := hrel
                            have HE : Hid ((∃ i, i < j ∧ z i = m) ∧ ∀ i, i < j → m ≤ z i) := ⟨hex, hall⟩
                            clear hex hall
                            by_cases hlt : j < k
                            · have cj := HCZ.out j hlt
                              have hjl : (j : Int) < (ln : Int) := by omega
                              have hjk : (j : Int) < (k : Int) := by omega
                              by_cases hl : z j < m
                              · have hl' : (z j : Int) < (m : Int) := by omega
                                go_wp2
                                go_roundw
                                case measure => simp [intOf]; omega
                                case rel => exact ⟨⟨_, rfl⟩, j + 1, z j, by omega, by omega, by go_num, rfl, ⟨j, by omega, rfl⟩, fun i hi => by
                                  by_cases e : i = j
                                  · subst e; exact Nat.le_refl _
                                  · have := HE.out.2 i (by omega); omega⟩
                              · have hl' : ¬ ((z j : Int) < (m : Int)) := by omega
                                go_wp2
                                go_roundw
                                case measure => simp [intOf]; omega
                                case rel =>
                                  obtain ⟨⟨i0, hi0, e0⟩, ha⟩ := HE.out
                                  exact ⟨⟨_, rfl⟩, j + 1, m, by omega, by omega, by go_num, rfl, ⟨i0, by omega, e0⟩, fun i hi => by
                                  by_cases e : i = j
                                  · subst e; omega
                                  · exact ha i (by omega)⟩
                            · obtain rfl : j = k := by omega
                              have hfin := HF.out.least off hoff HN.out.1 HN.out.2 m HE.out.1 HE.out.2
                              have hfz : ((b : Int) + (off : Int) == (m : Int)) = true := by simp; omega
                              clear hfin
                              go_wp2
                              go_ret
                              exact ⟨rfl, HQ.out.below.trans (below_drewN _ _ _)⟩
end Go.Proofs.Qxb6609346aDoor
