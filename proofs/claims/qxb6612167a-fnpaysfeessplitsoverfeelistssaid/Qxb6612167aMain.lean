import Derived.Test.Qxb6612167aFits
namespace Go.Proofs.Qxb6612167a
open Go.ChangeShapes Go.WideShapes Go.ChangeAt Go.RowKit

theorem Built.congr {w : World} {m : Nat} {f g : Nat → Bool} (h : ∀ i, i < m → f i = g i) {e : Ending} {w' : World} (hb : Built w m f e w') : Built w m g e w' := by
  obtain ⟨t0, t1, t2, t4, t5, t6, t7, t8, t9, t10, g', c, q, he, hf, hq, hb⟩ := hb
  exact ⟨t0, t1, t2, t4, t5, t6, t7, t8, t9, t10, g', c, q, he, hf, fun i hi => (hq i hi).trans (h i hi), hb⟩

theorem FeesIn.below {w w' : World} {b off n : Nat} {N C : Nat → ByteArray} {P Q : Nat → Bool} {F T : Nat → Int} (h : FeesIn w b off n N C P Q F T) (hlt : b < w.heap.size) (hb : Below w.heap.size w w') : FeesIn w' b off n N C P Q F T := by
  intro i hi
  have e : ∀ o, w'.cell? ⟨b, o, none⟩ = w.cell? ⟨b, o, none⟩ := fun o => hb.cell (p := ⟨b, o, none⟩) hlt
  simp only [e]
  exact h i hi
theorem FeesView.below {w w' : World} {ao : Option Addr} {n : Nat} {N C : Nat → ByteArray} {P Q : Nat → Bool} {F T : Nat → Int} (h : FeesView w ao n N C P Q F T) (hb : Below w.heap.size w w') : FeesView w' ao n N C P Q F T := by
  intro hn
  obtain ⟨b, off, ha, hlt, hf⟩ := h hn
  exact ⟨b, off, ha, Nat.lt_of_lt_of_le hlt hb.size, hf.below hlt hb⟩
theorem FeesView.left {w : World} {ao : Option Addr} {n k : Nat} {N C : Nat → ByteArray} {P Q : Nat → Bool} {F T : Nat → Int} (h : FeesView w ao n N C P Q F T) (hk : k ≤ n) : FeesView w ao k N C P Q F T := by
  intro hn
  obtain ⟨b, off, ha, hlt, hf⟩ := h (by omega)
  exact ⟨b, off, ha, hlt, fun i hi => hf i (by omega)⟩
theorem FeesView.right {w : World} {ao : Option Addr} {n cap k : Nat} {N C : Nat → ByteArray} {P Q : Nat → Bool} {F T : Nat → Int} (h : FeesView w ao n N C P Q F T) (hk : k ≤ n) (_hc : n ≤ cap) (_hck : ¬ cap = k) :
    FeesView w (ao.map fun x => x.add (k * 6)) (n - k) (fun i => N (i + k)) (fun i => C (i + k)) (fun i => P (i + k)) (fun i => Q (i + k)) (fun i => F (i + k)) (fun i => T (i + k)) := by
  intro hn
  obtain ⟨b, off, ha, hlt, hf⟩ := h (by omega)
  have e : (⟨b, off, none⟩ : Addr).add (k * 6) = ⟨b, off + k * 6, none⟩ := by unfold Addr.add; split <;> simp_all
  refine ⟨b, off + k * 6, by rw [ha]; simp [e], hlt, fun i hi => ?_⟩
  have := hf (i + k) (by omega)
  have r : off + (i + k) * 6 = off + k * 6 + i * 6 := by omega
  rw [r] at this
  exact this

theorem keep_any (s0 s2 : ByteArray) (u : Int) (ca : Option Addr) (cl cc : Nat) (ao : Option Addr) (n cap : Nat) {N C : Nat → ByteArray} {P Q : Nat → Bool} {F T : Nat → Int} (w : World) (hn : n ≤ 16384) (hF : FeesView w ao n N C P Q F T) :
    Calls Try.prog 10 #[.string s0, .int .i64 u, .string s2, .slice ca cl cc, .slice ao n cap, .bool false, .bool false] w (Built w n P) := by
  rcases Nat.eq_zero_or_pos n with rfl | hpos
  · exact (build_keep0 s0 s2 u ca cl cc ao cap w).mono fun e w' h => h.congr fun i hi => by omega
  · obtain ⟨b, off, rfl, hlt, hf⟩ := hF hpos
    exact build_keep s0 s2 u ca cl cc b off n cap N C P Q F T w hn hlt hf
theorem extra_any (s0 s2 : ByteArray) (u : Int) (ca : Option Addr) (cl cc : Nat) (ao : Option Addr) (n cap : Nat) {N C : Nat → ByteArray} {P Q : Nat → Bool} {F T : Nat → Int} (w : World) (hn : n ≤ 16384) (hF : FeesView w ao n N C P Q F T) :
    Calls Try.prog 10 #[.string s0, .int .i64 u, .string s2, .slice ca cl cc, .slice ao n cap, .bool true, .bool false] w (Built w (n + 1) (extF n P)) := by
  rcases Nat.eq_zero_or_pos n with rfl | hpos
  · exact (build_extra0 s0 s2 u ca cl cc ao cap w).mono fun e w' h => h.congr fun i hi => by simp [extF, show i = 0 by omega]
  · obtain ⟨b, off, rfl, hlt, hf⟩ := hF hpos
    exact build_extra s0 s2 u ca cl cc b off n cap N C P Q F T w hn hlt hf
theorem clear_any (s0 s2 : ByteArray) (u : Int) (ca : Option Addr) (cl cc : Nat) (ao : Option Addr) (n cap : Nat) {N C : Nat → ByteArray} {P Q : Nat → Bool} {F T : Nat → Int} (w : World) (hn : n ≤ 16384) (hF : FeesView w ao n N C P Q F T) :
    Calls Try.prog 10 #[.string s0, .int .i64 u, .string s2, .slice ca cl cc, .slice ao n cap, .bool false, .bool true] w (Built w n (fun _ => false)) := by
  rcases Nat.eq_zero_or_pos n with rfl | hpos
  · exact build_clear0 s0 s2 u ca cl cc ao cap w
  · obtain ⟨b, off, rfl, hlt, hf⟩ := hF hpos
    exact build_clear s0 s2 u ca cl cc b off n cap N C P Q F T w hn hlt hf

theorem anyB_congr {n : Nat} {f g : Nat → Bool} (h : ∀ i, i < n → f i = g i) : anyB n f = anyB n g := by
  rw [Bool.eq_iff_iff, anyB_iff, anyB_iff]
  exact ⟨fun ⟨i, hi, e⟩ => ⟨i, hi, by rw [← h i hi]; exact e⟩, fun ⟨i, hi, e⟩ => ⟨i, hi, by rw [h i hi]; exact e⟩⟩
theorem anyB_split (n k : Nat) (f : Nat → Bool) (hk : k ≤ n) : anyB n f = (anyB k f || anyB (n - k) (fun i => f (i + k))) := by
  rw [Bool.eq_iff_iff, Bool.or_eq_true, anyB_iff, anyB_iff, anyB_iff]
  constructor
  · rintro ⟨i, hi, h⟩
    by_cases hik : i < k
    · exact .inl ⟨i, hik, h⟩
    · exact .inr ⟨i - k, by omega, by rw [show i - k + k = i by omega]; exact h⟩
  · rintro (⟨i, hi, h⟩ | ⟨i, hi, h⟩)
    · exact ⟨i, by omega, h⟩
    · exact ⟨i + k, by omega, h⟩
theorem anyB_extra (n : Nat) (f : Nat → Bool) : anyB (n + 1) (extF n f) = true := (anyB_iff _ _).2 ⟨n, by omega, by simp [extF]⟩
theorem anyB_none (n : Nat) : anyB n (fun _ => false) = false := by
  cases h : anyB n (fun _ => false) with
  | false => rfl
  | true => obtain ⟨_, _, h⟩ := (anyB_iff _ _).1 h; cases h

theorem pays_flag (t0 t1 t2 t4 t5 t6 t7 t8 t9 t10 : Value) (g n cap : Nat) (q : Nat → Option Addr) (flag : Nat → Bool) (w : World) (hn : n ≤ 16385) (hf : FeesAt w g n q) (hq : ∀ i, i < n → (q i).isSome = flag i) :
    Calls Try.prog 11 #[.agg #[t0, t1, t2, .slice (some ⟨g, 0, none⟩) n cap, t4, t5, t6, t7, t8, t9, t10]] w fun e w' => e = .returned (.bool (anyB n flag)) ∧ Below w.heap.size w w' := by
  refine (pays_any t0 t1 t2 t4 t5 t6 t7 t8 t9 t10 g n cap q w hn hf).mono ?_
  rintro e w' ⟨rfl, hb⟩
  exact ⟨by rw [anyB_congr hq], hb⟩

theorem below_drewN (w : World) (m : Nat) : Below w.heap.size w (w.drewN m) := by
  induction m with
  | zero => exact Below.refl _ _
  | succ m ih => exact ih.drew

set_option maxRecDepth 10000 in
set_option maxHeartbeats 1000000 in
theorem main_any (s0 s2 : ByteArray) (u kk : Int) (ca : Option Addr) (cl cc : Nat) (S : Nat → ByteArray) (ao : Option Addr) (n cap : Nat) (N C : Nat → ByteArray) (P Q : Nat → Bool) (F T : Nat → Int) (w : World)
    (hS : StrsView w ca cl S) (hF : FeesView w ao n N C P Q F T) (hcl : cl ≤ maxLen) (hnc : n ≤ cap) (hcap : cap ≤ maxLen) :
    Calls Try.prog 4 #[.string s0, .int .i64 u, .string s2, .slice ca cl cc, .slice ao n cap, .int .i64 kk] w fun e w' => e = .returned (.bool true) ∧ Below w.heap.size w w' := by
  have hn : n ≤ maxLen := by omega
  go_enter Try.func4, Try.ntmps4
  go_wp2_with fail
  refine (bytes_any s0 s2 u kk ca cl cc S ao n cap N C P Q F T _ hS hF hcl hn).mono ?_
  rintro e w' ⟨⟨b, rfl⟩, rfl⟩
  cases b with
  | false =>
    go_wp2
    go_ret
    exact ⟨rfl, Below.refl _ _⟩
  | true =>
    go_wp2_with fail
    refine (fits_any s0 s2 ca cl cc S ao n cap N C P Q F T _ hS hF hcl hn).mono ?_
    rintro e w1 ⟨b, rfl, hfew, m, rfl⟩
    have hb1 := below_drewN w' m
    cases b with
    | false =>
      go_wp2
      go_ret
      exact ⟨rfl, hb1⟩
    | true =>
      have hn4 : n ≤ 16384 := hfew rfl
      clear hfew
      unfold maxLen at hcl hn hcap
      by_cases k0 : kk < 0
      · go_wp2
        go_ret
        exact ⟨rfl, hb1⟩
      by_cases k1 : (n : Int) < kk
      · go_wp2
        go_ret
        exact ⟨rfl, hb1⟩
      obtain ⟨k, rfl⟩ : ∃ k : Nat, kk = k := ⟨kk.toNat, by omega⟩
      have hkn : k ≤ n := by omega
      have G0 := hF.below hb1
      have B0 := hb1
      clear hb1 hS
      generalize w'.drewN m = W0 at *
      go_wp2_with fail
      refine (keep_any s0 s2 u ca cl cc ao n cap _ hn4 G0).mono ?_
      rintro e V1 ⟨t0_1, t1_1, t2_1, t4_1, t5_1, t6_1, t7_1, t8_1, t9_1, t10_1, g_1, c_1, q_1, rfl, hf, hq, hb⟩
      have B1a : Below w'.heap.size w' V1 := B0.trans (hb.mono B0.size)
      go_wp2_with fail
      refine (pays_flag t0_1 t1_1 t2_1 t4_1 t5_1 t6_1 t7_1 t8_1 t9_1 t10_1 g_1 _ c_1 q_1 _ _ (by omega) hf hq).mono ?_
      rintro e W1 ⟨rfl, hb'⟩
      have B1 : Below w'.heap.size w' W1 := B1a.trans (hb'.mono B1a.size)
      have G1 : FeesView W1 ao n N C P Q F T := hF.below B1
      clear hf hq hb hb' B1a B0 G0
      go_wp2_with fail
      refine (keep_any s0 s2 u ca cl cc _ k cap _ (by omega) (G1.left hkn)).mono ?_
      rintro e V2 ⟨t0_2, t1_2, t2_2, t4_2, t5_2, t6_2, t7_2, t8_2, t9_2, t10_2, g_2, c_2, q_2, rfl, hf, hq, hb⟩
      have B2a : Below w'.heap.size w' V2 := B1.trans (hb.mono B1.size)
      go_wp2_with fail
      refine (pays_flag t0_2 t1_2 t2_2 t4_2 t5_2 t6_2 t7_2 t8_2 t9_2 t10_2 g_2 _ c_2 q_2 _ _ (by omega) hf hq).mono ?_
      rintro e W2 ⟨rfl, hb'⟩
      have B2 : Below w'.heap.size w' W2 := B2a.trans (hb'.mono B2a.size)
      have G2 : FeesView W2 ao n N C P Q F T := hF.below B2
      clear hf hq hb hb' B2a B1 G1
      by_cases hck : cap = k
      · subst hck
        go_wp2_with fail
        refine (keep_any (N := N) (C := C) (P := fun _ => false) (Q := Q) (F := F) (T := T) s0 s2 u ca cl cc ao 0 0 _ (by omega) (fun h => absurd h (by omega))).mono ?_
        rintro e V3 ⟨t0_3, t1_3, t2_3, t4_3, t5_3, t6_3, t7_3, t8_3, t9_3, t10_3, g_3, c_3, q_3, rfl, hf, hq, hb⟩
        have B3a : Below w'.heap.size w' V3 := B2.trans (hb.mono B2.size)
        go_wp2_with fail
        refine (pays_flag t0_3 t1_3 t2_3 t4_3 t5_3 t6_3 t7_3 t8_3 t9_3 t10_3 g_3 _ c_3 q_3 _ _ (by omega) hf hq).mono ?_
        rintro e W3 ⟨rfl, hb'⟩
        have B3 : Below w'.heap.size w' W3 := B3a.trans (hb'.mono B3a.size)
        have G3 : FeesView W3 ao n N C P Q F T := hF.below B3
        clear hf hq hb hb' B3a B2 G2
        go_wp2_with fail
        refine (extra_any s0 s2 u ca cl cc ao n cap _ hn4 G3).mono ?_
        rintro e V4 ⟨t0_4, t1_4, t2_4, t4_4, t5_4, t6_4, t7_4, t8_4, t9_4, t10_4, g_4, c_4, q_4, rfl, hf, hq, hb⟩
        have B4a : Below w'.heap.size w' V4 := B3.trans (hb.mono B3.size)
        go_wp2_with fail
        refine (pays_flag t0_4 t1_4 t2_4 t4_4 t5_4 t6_4 t7_4 t8_4 t9_4 t10_4 g_4 _ c_4 q_4 _ _ (by omega) hf hq).mono ?_
        rintro e W4 ⟨rfl, hb'⟩
        have B4 : Below w'.heap.size w' W4 := B4a.trans (hb'.mono B4a.size)
        have G4 : FeesView W4 ao n N C P Q F T := hF.below B4
        clear hf hq hb hb' B4a B3 G3
        go_wp2_with fail
        refine (clear_any s0 s2 u ca cl cc ao n cap _ hn4 G4).mono ?_
        rintro e V5 ⟨t0_5, t1_5, t2_5, t4_5, t5_5, t6_5, t7_5, t8_5, t9_5, t10_5, g_5, c_5, q_5, rfl, hf, hq, hb⟩
        have B5a : Below w'.heap.size w' V5 := B4.trans (hb.mono B4.size)
        go_wp2_with fail
        refine (pays_flag t0_5 t1_5 t2_5 t4_5 t5_5 t6_5 t7_5 t8_5 t9_5 t10_5 g_5 _ c_5 q_5 _ _ (by omega) hf hq).mono ?_
        rintro e W5 ⟨rfl, hb'⟩
        have B5 : Below w'.heap.size w' W5 := B5a.trans (hb'.mono B5a.size)
        have G5 : FeesView W5 ao n N C P Q F T := hF.below B5
        clear hf hq hb hb' B5a B4 G4
        obtain rfl : n = cap := by omega
        rw [anyB_extra, anyB_none, anyB_none]
        cases hl : anyB n P
        all_goals
          go_wp2
          go_ret
          exact ⟨rfl, B5⟩
      · skip
        go_wp2_with fail
        refine (keep_any s0 s2 u ca cl cc _ (n - k) (cap - k) _ (by omega) (G2.right hkn hnc hck)).mono ?_
        rintro e V3 ⟨t0_3, t1_3, t2_3, t4_3, t5_3, t6_3, t7_3, t8_3, t9_3, t10_3, g_3, c_3, q_3, rfl, hf, hq, hb⟩
        have B3a : Below w'.heap.size w' V3 := B2.trans (hb.mono B2.size)
        go_wp2_with fail
        refine (pays_flag t0_3 t1_3 t2_3 t4_3 t5_3 t6_3 t7_3 t8_3 t9_3 t10_3 g_3 _ c_3 q_3 _ _ (by omega) hf hq).mono ?_
        rintro e W3 ⟨rfl, hb'⟩
        have B3 : Below w'.heap.size w' W3 := B3a.trans (hb'.mono B3a.size)
        have G3 : FeesView W3 ao n N C P Q F T := hF.below B3
        clear hf hq hb hb' B3a B2 G2
        go_wp2_with fail
        refine (extra_any s0 s2 u ca cl cc ao n cap _ hn4 G3).mono ?_
        rintro e V4 ⟨t0_4, t1_4, t2_4, t4_4, t5_4, t6_4, t7_4, t8_4, t9_4, t10_4, g_4, c_4, q_4, rfl, hf, hq, hb⟩
        have B4a : Below w'.heap.size w' V4 := B3.trans (hb.mono B3.size)
        go_wp2_with fail
        refine (pays_flag t0_4 t1_4 t2_4 t4_4 t5_4 t6_4 t7_4 t8_4 t9_4 t10_4 g_4 _ c_4 q_4 _ _ (by omega) hf hq).mono ?_
        rintro e W4 ⟨rfl, hb'⟩
        have B4 : Below w'.heap.size w' W4 := B4a.trans (hb'.mono B4a.size)
        have G4 : FeesView W4 ao n N C P Q F T := hF.below B4
        clear hf hq hb hb' B4a B3 G3
        go_wp2_with fail
        refine (clear_any s0 s2 u ca cl cc ao n cap _ hn4 G4).mono ?_
        rintro e V5 ⟨t0_5, t1_5, t2_5, t4_5, t5_5, t6_5, t7_5, t8_5, t9_5, t10_5, g_5, c_5, q_5, rfl, hf, hq, hb⟩
        have B5a : Below w'.heap.size w' V5 := B4.trans (hb.mono B4.size)
        go_wp2_with fail
        refine (pays_flag t0_5 t1_5 t2_5 t4_5 t5_5 t6_5 t7_5 t8_5 t9_5 t10_5 g_5 _ c_5 q_5 _ _ (by omega) hf hq).mono ?_
        rintro e W5 ⟨rfl, hb'⟩
        have B5 : Below w'.heap.size w' W5 := B5a.trans (hb'.mono B5a.size)
        have G5 : FeesView W5 ao n N C P Q F T := hF.below B5
        clear hf hq hb hb' B5a B4 G4
        rw [anyB_split n k P hkn, anyB_extra, anyB_none]
        cases hl : anyB k P <;> cases hr : anyB (n - k) (fun i => P (i + k))
        all_goals
          go_wp2
          go_ret
          exact ⟨rfl, B5⟩
end Go.Proofs.Qxb6612167a
