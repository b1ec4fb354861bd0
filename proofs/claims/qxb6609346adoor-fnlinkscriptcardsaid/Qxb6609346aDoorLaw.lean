/-
  The plain laws of a script of links: what it leaves of heads, links, bitmap and count. No Go in sight.
-/
import Derived.Test.Qxb6609346aDoorFirst
namespace Go.Proofs.Qxb6609346aDoor
open Go.ChangeShapes Go.WideShapes Go.ChangeAt Go.RowKit

section
variable (ids z : Nat → Nat)
/-- v is the slot linked last into index p among the first m -/
def Hd (m p : Nat) (v : Int) : Prop := (v = -1 ∧ ∀ j, j < m → z j % 32768 ≠ p) ∨ ∃ j, j < m ∧ z j % 32768 = p ∧ (∀ i, j < i → i < m → z i % 32768 ≠ p) ∧ v = ids j
/-- v is the slot linked next behind the i-th into its bucket, among the first m -/
def Af (m i : Nat) (v : Int) : Prop := (v = -1 ∧ ∀ j, i < j → j < m → z j ≠ z i) ∨ ∃ j, i < j ∧ j < m ∧ z j = z i ∧ (∀ l, i < l → l < j → z l ≠ z i) ∧ v = ids j
/-- v is the slot linked last ahead of the i-th into its bucket -/
def Bf (i : Nat) (v : Int) : Prop := (v = -1 ∧ ∀ j, j < i → z j ≠ z i) ∨ ∃ j, j < i ∧ z j = z i ∧ (∀ l, j < l → l < i → z l ≠ z i) ∧ v = ids j
theorem Af.eq {m i : Nat} {u v : Int} (h : Af ids z m i u) (k : Af ids z m i v) : u = v := by
  rcases h with ⟨h1, h2⟩ | ⟨j, h1, h2, h3, h4, h5⟩ <;> rcases k with ⟨k1, k2⟩ | ⟨l, k1, k2, k3, k4, k5⟩
  · omega
  · exact absurd k3 (h2 l k1 k2)
  · exact absurd h3 (k2 j h1 h2)
  · rcases Nat.lt_trichotomy j l with e | e | e
    · exact absurd h3 (k4 j h1 e)
    · subst e; omega
    · exact absurd k3 (h4 l k1 e)
theorem Bf.eq {i : Nat} {u v : Int} (h : Bf ids z i u) (k : Bf ids z i v) : u = v := by
  rcases h with ⟨h1, h2⟩ | ⟨j, h1, h3, h4, h5⟩ <;> rcases k with ⟨k1, k2⟩ | ⟨l, k1, k3, k4, k5⟩
  · omega
  · exact absurd k3 (h2 l k1)
  · exact absurd h3 (k2 j h1)
  · rcases Nat.lt_trichotomy j l with e | e | e
    · exact absurd k3 (h4 l e k1)
    · subst e; omega
    · exact absurd h3 (k4 j e h1)

structure SI (m : Nat) (s : St) : Prop where
  hH : ∀ p, Hd ids z m p (s.H p)
  hA : ∀ i, i < m → Af ids z m i (s.A (ids i))
  hX : ∀ i, i < m → Bf ids z i (s.X (ids i))
  hU : ∀ g, (∀ i, i < m → ids i ≠ g) → s.A g = 0 ∧ s.X g = 0
theorem si_start : SI ids z 0 St0 := ⟨fun p => Or.inl ⟨rfl, fun j hj => by omega⟩, fun i hi => by omega, fun i hi => by omega, fun g _ => ⟨rfl, rfl⟩⟩

theorem si_head {m : Nat} {s : St} (h : SI ids z m s) (p : Nat) : s.H p = -1 ∨ ∃ g : Nat, s.H p = g ∧ ∃ j, j < m ∧ g = ids j ∧ z j % 32768 = p := by
  rcases h.hH p with ⟨h1, _⟩ | ⟨j, h1, h2, _, h3⟩
  · exact Or.inl h1
  · exact Or.inr ⟨ids j, h3, j, h1, rfl, h2⟩

theorem si_link {m : Nat} {s : St} (h : SI ids z m s) (hb : Nat) (hinj : ∀ i j, i < m + 1 → j < m + 1 → ids i = ids j → i = j) (hwin : ∀ i, i < m → z i % 32768 = z m % 32768 → z i = z m) :
    SI ids z (m + 1) (linkSt s hb (ids m) (z m % 32768)) := by
  -- the three parts of the new state
  have eH : ∀ p, (linkSt s hb (ids m) (z m % 32768)).H p = upd s.H (z m % 32768) (ids m) p := by intro p; unfold linkSt; split <;> rfl
  have eX : ∀ g, (linkSt s hb (ids m) (z m % 32768)).X g = upd s.X (ids m) (s.H (z m % 32768)) g := by
    intro g; unfold linkSt; split
    · rename_i hi; rw [hi]
    · rfl
  have eA0 : s.H (z m % 32768) = -1 → ∀ g, (linkSt s hb (ids m) (z m % 32768)).A g = upd s.A (ids m) (-1) g := by
    intro hi g; unfold linkSt; rw [if_pos hi]
  have eA1 : ∀ o : Nat, s.H (z m % 32768) = o → ∀ g, (linkSt s hb (ids m) (z m % 32768)).A g = upd (upd s.A (ids m) (-1)) o (ids m) g := by
    intro o ho g; unfold linkSt; rw [if_neg (by rw [ho]; omega), ho, show ((o : Int)).toNat = o by omega]
  have hne : ∀ i, i < m → ids i ≠ ids m := fun i hi e => by have := hinj i m (by omega) (by omega) e; omega
  refine ⟨fun p => ?_, fun i hi => ?_, fun i hi => ?_, fun g hg => ?_⟩
  · rw [eH]
    by_cases hp : p = z m % 32768
    · subst hp
      rw [upd_same]
      exact Or.inr ⟨m, by omega, rfl, fun i h1 h2 => by omega, rfl⟩
    · rw [upd_other _ _ hp]
      rcases h.hH p with ⟨h1, h2⟩ | ⟨j, h1, h2, h3, h4⟩
      · refine Or.inl ⟨h1, fun j hj => ?_⟩
        by_cases e : j = m
        · subst e; exact fun e => hp e.symm
        · exact h2 j (by omega)
      · refine Or.inr ⟨j, by omega, h2, fun i k1 k2 => ?_, h4⟩
        by_cases e : i = m
        · subst e; exact fun e => hp e.symm
        · exact h3 i k1 (by omega)
  · rcases h.hH (z m % 32768) with ⟨h1, h2⟩ | ⟨j, h1, h2, h3, h4⟩
    · rw [eA0 h1]
      by_cases him : i = m
      · subst him
        rw [upd_same]
        exact Or.inl ⟨rfl, fun j k1 k2 => by omega⟩
      · rw [upd_other _ _ (hne i (by omega))]
        rcases h.hA i (by omega) with ⟨g1, g2⟩ | ⟨j, g1, g2, g3, g4, g5⟩
        · refine Or.inl ⟨g1, fun j k1 k2 => ?_⟩
          by_cases e : j = m
          · subst e; exact fun e => h2 i (by omega) (by rw [e])
          · exact g2 j k1 (by omega)
        · exact Or.inr ⟨j, g1, by omega, g3, g4, g5⟩
    · have hzj : z j = z m := hwin j h1 h2
      rw [eA1 (ids j) h4]
      by_cases him : i = m
      · subst him
        rw [upd_other _ _ (Ne.symm (hne j h1)), upd_same]
        exact Or.inl ⟨rfl, fun j k1 k2 => by omega⟩
      · by_cases hij : i = j
        · subst hij
          rw [upd_same]
          exact Or.inr ⟨m, h1, by omega, hzj.symm, fun l k1 k2 e => h3 l k1 k2 (by rw [e, h2]), rfl⟩
        · rw [upd_other _ _ (fun e => hij (hinj i j (by omega) (by omega) e)), upd_other _ _ (hne i (by omega))]
          rcases h.hA i (by omega) with ⟨g1, g2⟩ | ⟨l, g1, g2, g3, g4, g5⟩
          · refine Or.inl ⟨g1, fun l k1 k2 => ?_⟩
            by_cases e : l = m
            · subst e
              intro e2
              rcases Nat.lt_or_ge i j with e3 | e3
              · exact g2 j e3 h1 (by rw [hzj, e2])
              · exact h3 i (by omega) (by omega) (by rw [← e2])
            · exact g2 l k1 (by omega)
          · exact Or.inr ⟨l, g1, by omega, g3, g4, g5⟩
  · rw [eX]
    by_cases him : i = m
    · subst him
      rw [upd_same]
      rcases h.hH (z i % 32768) with ⟨h1, h2⟩ | ⟨j, h1, h2, h3, h4⟩
      · exact Or.inl ⟨h1, fun j hj e => h2 j hj (by rw [e])⟩
      · exact Or.inr ⟨j, h1, hwin j h1 h2, fun l k1 k2 e => h3 l k1 k2 (by rw [e]), h4⟩
    · rw [upd_other _ _ (hne i (by omega))]
      exact h.hX i (by omega)
  · have hgm : g ≠ ids m := fun e => hg m (by omega) e.symm
    obtain ⟨u1, u2⟩ := h.hU g fun i hi => hg i (by omega)
    rw [eX, upd_other _ _ hgm]
    refine ⟨?_, u2⟩
    rcases si_head ids z h (z m % 32768) with h1 | ⟨o, h1, j, h2, h3, _⟩
    · rw [eA0 h1, upd_other _ _ hgm]
      exact u1
    · rw [eA1 o h1, upd_other _ _ (fun e => hg j (by omega) (by rw [← h3, e])), upd_other _ _ hgm]
      exact u1

/-- the heads as the law itself reckons them, by offsets from base b -/
def hdF (b : Nat) : Nat → Nat → Int
  | 0 => fun _ => -1
  | m + 1 => upd (hdF b m) (z m - b) (ids m)
/-- the number of buckets that hold a timer, as the law itself counts them -/
def dsF (b : Nat) : Nat → Int
  | 0 => 0
  | m + 1 => dsF b m + (if hdF ids z b m (z m - b) = -1 then 1 else 0)

/-- the queue's state behind m links of the script -/
def runS : Nat → St
  | 0 => St0
  | m + 1 => linkSt (runS m) 0 (ids m) (z m % 32768)

structure Good (k b N : Nat) : Prop where
  lt : ∀ i, i < k → ids i < N
  inj : ∀ i j, i < k → j < k → ids i = ids j → i = j
  win : ∀ i, i < k → b ≤ z i ∧ z i < b + 32768

theorem run_si {k b N : Nat} (g : Good ids z k b N) : ∀ m, m ≤ k → SI ids z m (runS ids z m)
  | 0, _ => si_start ids z
  | m + 1, hm => si_link ids z (run_si g m (by omega)) 0 (fun i j hi hj => g.inj i j (by omega) (by omega)) (fun i hi e => by
    have := g.win i (by omega); have := g.win m (by omega); omega)
theorem run_fresh {k b N : Nat} (g : Good ids z k b N) (m : Nat) (hm : m < k) (p : Nat) : (runS ids z m).H p ≠ (ids m : Int) := by
  rcases si_head ids z (run_si ids z g m (by omega)) p with h | ⟨o, h1, j, h2, h3, _⟩
  · omega
  · intro e
    have := g.inj j m (by omega) hm (by omega)
    omega
theorem run_ok {k b N : Nat} (g : Good ids z k b N) : ∀ m, m ≤ k → Ok N m (runS ids z m)
  | 0, _ => ok_start N
  | m + 1, hm => ok_link (run_ok g m (by omega)) 0 (ids m) _ (g.lt m (by omega)) (run_fresh ids z g m (by omega))
theorem run_heads {k b N : Nat} (g : Good ids z k b N) : ∀ m, m ≤ k → (∀ off, off < 32768 → (runS ids z m).H ((b + off) % 32768) = hdF ids z b m off) ∧ (runS ids z m).filled = dsF ids z b m
  | 0, _ => ⟨fun _ _ => rfl, rfl⟩
  | m + 1, hm => by
    obtain ⟨h1, h2⟩ := run_heads g m (by omega)
    have hw := g.win m (by omega)
    have eH : ∀ p, (runS ids z (m + 1)).H p = upd (runS ids z m).H (z m % 32768) (ids m) p := by intro p; show (linkSt _ _ _ _).H p = _; unfold linkSt; split <;> rfl
    have hpos : (runS ids z m).H (z m % 32768) = hdF ids z b m (z m - b) := by
      have := h1 (z m - b) (by omega)
      rw [show (b + (z m - b)) % 32768 = z m % 32768 by omega] at this
      exact this
    refine ⟨fun off ho => ?_, ?_⟩
    · rw [eH]
      show _ = upd (hdF ids z b m) (z m - b) (ids m) off
      by_cases e : off = z m - b
      · rw [e, show (b + (z m - b)) % 32768 = z m % 32768 by omega, upd_same, upd_same]
      · rw [upd_other _ _ e, upd_other _ _ (by omega)]
        exact h1 off ho
    · show (linkSt _ _ _ _).filled = dsF ids z b m + _
      unfold linkSt
      rw [hpos]
      split
      · show _ + 1 = _; rw [h2]
      · show _ = _ + 0; rw [h2]; omega

/-! ### The bitmap as the law itself reckons it -/
def FW (b : Nat) (hd : Nat → Int) : Nat → Nat → Int
  | 0 => fun _ => 0
  | t + 1 => if hd t = -1 then FW b hd t else upd (FW b hd t) ((b + t) % 32768 / 64) (orW (FW b hd t ((b + t) % 32768 / 64)) ((b + t) % 32768 % 64))
theorem fw_bit (b : Nat) (hd : Nat → Int) : ∀ t, t ≤ 32768 → ∀ j, ∃ x : Nat, x < 18446744073709551616 ∧ FW b hd t j = x ∧ ∀ r, r < 64 → (x.testBit r = true ↔ ∃ o, o < t ∧ (b + o) % 32768 = 64 * j + r ∧ hd o ≠ -1)
  | 0, _, j => ⟨0, by omega, rfl, fun r _ => by simp⟩
  | t + 1, ht, j => by
    obtain ⟨x, hx, he, hb⟩ := fw_bit b hd t (by omega) j
    show ∃ x : Nat, x < 18446744073709551616 ∧ (if hd t = -1 then FW b hd t else upd (FW b hd t) ((b + t) % 32768 / 64) (orW (FW b hd t ((b + t) % 32768 / 64)) ((b + t) % 32768 % 64))) j = x ∧ _
    by_cases h0 : hd t = -1
    · rw [if_pos h0]
      refine ⟨x, hx, he, fun r hr => ?_⟩
      rw [hb r hr]
      constructor
      · rintro ⟨o, h1, h2, h3⟩; exact ⟨o, by omega, h2, h3⟩
      · rintro ⟨o, h1, h2, h3⟩
        refine ⟨o, ?_, h2, h3⟩
        rcases Nat.lt_or_ge o t with h | h
        · exact h
        · have : o = t := by omega
          rw [this] at h3
          exact absurd h0 h3
    · rw [if_neg h0]
      by_cases hj : j = (b + t) % 32768 / 64
      · refine ⟨x ||| 2 ^ ((b + t) % 32768 % 64), or_lt x _ hx (by omega), ?_, fun r hr => ?_⟩
        · rw [← hj, upd_same, he, orW_nat x _ hx (by omega)]
        · rw [testBit_or, Bool.or_eq_true, hb r hr, decide_eq_true_eq]
          constructor
          · rintro (⟨o, h1, h2, h3⟩ | h1)
            · exact ⟨o, by omega, h2, h3⟩
            · exact ⟨t, by omega, by omega, h0⟩
          · rintro ⟨o, h1, h2, h3⟩
            rcases Nat.lt_or_ge o t with h | h
            · exact Or.inl ⟨o, h, h2, h3⟩
            · have : o = t := by omega
              subst this
              exact Or.inr (by omega)
      · refine ⟨x, hx, by rw [upd_other _ _ hj, he], fun r hr => ?_⟩
        rw [hb r hr]
        constructor
        · rintro ⟨o, h1, h2, h3⟩; exact ⟨o, by omega, h2, h3⟩
        · rintro ⟨o, h1, h2, h3⟩
          rcases Nat.lt_or_ge o t with h | h
          · exact ⟨o, h, h2, h3⟩
          · have : o = t := by omega
            subst this
            exact absurd (by omega) hj
theorem fw_law {k b N : Nat} (g : Good ids z k b N) (j : Nat) (hj : j < 512) : FW b (hdF ids z b k) 32768 j = (runS ids z k).W j := by
  obtain ⟨x, hx, he, hb⟩ := fw_bit b (hdF ids z b k) 32768 (by omega) j
  obtain ⟨y, hy, hw, hc⟩ := (run_ok ids z g k (by omega)).word j
  obtain ⟨hH, _⟩ := run_heads ids z g k (by omega)
  rw [he, hw]
  congr 1
  apply Nat.eq_of_testBit_eq
  intro r
  by_cases hr : r < 64
  · rw [Bool.eq_iff_iff, hb r hr, hc r hr]
    constructor
    · rintro ⟨o, h1, h2, h3⟩
      rw [← h2, hH o h1]
      exact h3
    · intro h
      refine ⟨(64 * j + r + 32768 - b % 32768) % 32768, by omega, by omega, ?_⟩
      rw [← hH _ (by omega), show (b + (64 * j + r + 32768 - b % 32768) % 32768) % 32768 = 64 * j + r by omega]
      exact h
  · have hp : 18446744073709551616 ≤ 2 ^ r := by have := Nat.pow_le_pow_right (n := 2) (by omega) (show 64 ≤ r by omega); omega
    rw [Nat.testBit_lt_two_pow (Nat.lt_of_lt_of_le hx hp), Nat.testBit_lt_two_pow (Nat.lt_of_lt_of_le hy hp)]

/-! ### first is the least -/
theorem first_law {k b N : Nat} (g : Good ids z k b N) (off : Nat) (ho : off < 32768) (h1 : (runS ids z k).H ((b + off) % 32768) ≠ -1) (h2 : ∀ o, o < off → (runS ids z k).H ((b + o) % 32768) = -1)
    (l : Nat) (hl1 : ∃ i, i < k ∧ z i = l) (hl2 : ∀ i, i < k → l ≤ z i) : b + off = l := by
  have hS := run_si ids z g k (by omega)
  obtain ⟨i, hi, rfl⟩ := hl1
  have hwi := g.win i hi
  rcases hS.hH ((b + off) % 32768) with ⟨e, _⟩ | ⟨j, hj, e2, _, _⟩
  · exact absurd e h1
  · have hwj := g.win j hj
    have hle := hl2 j hj
    have ej : z j = b + off := by omega
    rcases Nat.lt_or_ge (z i - b) off with h | h
    · exfalso
      have h3 := h2 (z i - b) h
      rw [show (b + (z i - b)) % 32768 = z i % 32768 by omega] at h3
      rcases hS.hH (z i % 32768) with ⟨_, e4⟩ | ⟨j', hj', _, _, e5⟩
      · exact e4 i hi rfl
      · rw [h3] at e5; omega
    · omega
theorem some_head {k b N : Nat} (g : Good ids z k b N) (hk : 0 < k) : (∃ p, p < 32768 ∧ (runS ids z k).H p ≠ -1) ∧ (runS ids z k).filled ≠ 0 := by
  have hS := run_si ids z g k (by omega)
  refine ⟨⟨z 0 % 32768, by omega, ?_⟩, ?_⟩
  · rcases hS.hH (z 0 % 32768) with ⟨_, e⟩ | ⟨j, _, _, _, e⟩
    · exact absurd rfl (e 0 hk)
    · rw [e]; omega
  · have h0 : ∀ m, 0 < m → 0 < dsF ids z b m := by
      intro m
      induction m with
      | zero => intro h; omega
      | succ m ih =>
        intro _
        show 0 < dsF ids z b m + _
        rcases Nat.eq_zero_or_pos m with rfl | h
        · show (0 : Int) < 0 + (if (-1 : Int) = -1 then 1 else 0)
          simp
        · have := ih h
          split <;> omega
    rw [(run_heads ids z g k (by omega)).2]
    have := h0 k hk
    omega
end
end Go.Proofs.Qxb6609346aDoor
