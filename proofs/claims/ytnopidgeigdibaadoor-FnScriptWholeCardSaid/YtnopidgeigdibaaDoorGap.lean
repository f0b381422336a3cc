/-
  Plain facts on the zeros inside one word: shrinking all runs of zeros finds the longest. No program stands here. Conditions stand in each statement.
-/
import Derived.Test.YtnopidgeigdibaaDoorMask
namespace Go.Proofs.YtnopidgeigdibaaDoor

/-- n zeros of x from i on, a one somewhere below them and a one somewhere above. -/
def Gap (x i n : Nat) : Prop := (∃ b, b < i ∧ x.testBit b = true) ∧ (∃ c, i + n ≤ c ∧ x.testBit c = true) ∧ ∀ j, j < n → x.testBit (i + j) = false

theorem Gap.le {x i n : Nat} (hx : x < 18446744073709551616) (h : Gap x i n) : n ≤ 62 := by
  obtain ⟨⟨b, hb, _⟩, ⟨c, hc, hc1⟩, _⟩ := h
  have : c < 64 := by
    apply Nat.lt_of_not_le
    intro hle
    rw [tb_high hx hle] at hc1
    cases hc1
  omega

/-- No zero lies below a one. -/
def Solid (x : Nat) : Prop := ∀ i j, i < j → x.testBit j = true → x.testBit i = true

theorem solid_of : ∀ x : Nat, x &&& (x + 1) = 0 → Solid x := by
  intro x
  induction x using Nat.strongRecOn with
  | ind x ih =>
    intro h
    by_cases h0 : x = 0
    · subst h0
      intro i j _ hj
      rw [Nat.zero_testBit] at hj
      cases hj
    · have hodd : x % 2 = 1 := by
        apply Classical.byContradiction
        intro hc
        apply h0
        apply Nat.eq_of_testBit_eq
        intro i
        have hi : (x &&& (x + 1)).testBit i = false := by rw [h, Nat.zero_testBit]
        rw [Nat.testBit_and] at hi
        rw [Nat.zero_testBit]
        cases i with
        | zero => rw [Nat.testBit_zero]; simp; omega
        | succ i =>
          rw [Nat.testBit_succ, Nat.testBit_succ, show (x + 1) / 2 = x / 2 by omega] at hi
          rw [Nat.testBit_succ]
          simpa using hi
      have hy := ih (x / 2) (by omega) (by
        apply Nat.eq_of_testBit_eq
        intro i
        have hi : (x &&& (x + 1)).testBit (i + 1) = false := by rw [h, Nat.zero_testBit]
        rw [Nat.testBit_and, Nat.testBit_succ, Nat.testBit_succ, show (x + 1) / 2 = x / 2 + 1 by omega] at hi
        rw [Nat.testBit_and, Nat.zero_testBit]
        exact hi)
      intro i j hij hj
      cases i with
      | zero => rw [Nat.testBit_zero]; simp [hodd]
      | succ i =>
        obtain ⟨j, rfl⟩ : ∃ m, j = m + 1 := ⟨j - 1, by omega⟩
        rw [Nat.testBit_succ] at hj ⊢
        exact hy i j (by omega) hj

theorem Solid.form {x : Nat} (hx : x < 18446744073709551616) (h : Solid x) : ∃ m, m ≤ 64 ∧ x = 2 ^ m - 1 := by
  obtain ⟨m, hm, hmin⟩ := first_of (fun i => x.testBit i = false) ⟨64, tb_high hx (Nat.le_refl _)⟩
  have hm64 : m ≤ 64 := Nat.le_of_not_lt fun hlt => hmin 64 hlt (tb_high hx (Nat.le_refl _))
  refine ⟨m, hm64, ?_⟩
  apply Nat.eq_of_testBit_eq
  intro i
  rw [Nat.testBit_two_pow_sub_one]
  by_cases hi : i < m
  · have := hmin i hi
    simp [hi] at this ⊢
    exact this
  · have : x.testBit i = false := by
      apply Classical.byContradiction
      intro hc
      have hc' : x.testBit i = true := by simpa using hc
      by_cases he : m = i
      · subst he; rw [hm] at hc'; cases hc'
      · have := h m i (by omega) hc'
        rw [hm] at this; cases this
    simp [hi, this]

/-- The code's test: x & (x+1) is 0 just where no zero lies below a one. -/
theorem solid_iff {x : Nat} (hx : x < 18446744073709551616) : x &&& (x + 1) % 18446744073709551616 = 0 ↔ Solid x := by
  by_cases hm : x = 18446744073709551615
  · subst hm
    refine ⟨fun _ i j hij hj => ?_, fun _ => by decide⟩
    rw [show (18446744073709551615 : Nat) = 2 ^ 64 - 1 from rfl, Nat.testBit_two_pow_sub_one] at hj ⊢
    simp at hj ⊢
    omega
  · rw [Nat.mod_eq_of_lt (by omega)]
    refine ⟨solid_of x, fun h => ?_⟩
    obtain ⟨m, hm64, rfl⟩ := h.form hx
    have h0 : 0 < 2 ^ m := Nat.pow_pos (by decide)
    rw [Nat.sub_add_cancel h0]
    apply Nat.eq_of_testBit_eq
    intro i
    rw [Nat.testBit_and, Nat.testBit_two_pow_sub_one, Nat.testBit_two_pow, Nat.zero_testBit]
    by_cases hi : i < m
    · have : ¬ m = i := by omega
      simp [this]
    · simp [hi]

/-- The word's state: x0's runs of zeros, from off on, are shrunk by s. -/
structure Shr (x0 m0 most x p k off s : Nat) : Prop where
  lt : x < 18446744073709551616
  bit : ∀ i, x.testBit i = true ↔ ∃ d, d ≤ s ∧ x0.testBit (off + i + d) = true
  sum : s + p = most
  k1 : 1 ≤ k
  ks : k ≤ s + 1
  low : x.testBit 0 = true
  old : ∀ i n, Gap x0 i n → i < off → n ≤ most
  att : most = m0 ∨ ∃ i, Gap x0 i most
  mono : m0 ≤ most
  small : most ≤ 62

/-- The word is done: most is what it was, or a gap of the word, and no gap is longer. -/
def Done (x0 m0 most : Nat) : Prop := m0 ≤ most ∧ most ≤ 62 ∧ (most = m0 ∨ ∃ i, Gap x0 i most) ∧ ∀ i n, Gap x0 i n → n ≤ most

theorem Shr.start {x0 m0 t : Nat} (hx : x0 < 18446744073709551616) (h0 : x0 ≠ 0) (ht : IsTz x0 t) (hm : m0 ≤ 62) : t < 64 ∧ Shr x0 m0 m0 (x0 / 2 ^ t) m0 1 t 0 := by
  obtain ⟨t0, t1, t2⟩ := ht
  have hlt : t < 64 := by
    apply Nat.lt_of_not_le
    intro hle
    apply h0
    apply Nat.eq_of_testBit_eq
    intro i
    rw [Nat.zero_testBit]
    by_cases hi : i < t
    · exact t1 i hi
    · exact tb_high hx (by omega)
  refine ⟨hlt, ⟨Nat.lt_of_le_of_lt (Nat.div_le_self _ _) hx, fun i => ?_, by omega, by omega, by omega, ?_, fun i n hg hi => ?_, Or.inl rfl, Nat.le_refl _, hm⟩⟩
  · rw [tb_div]
    constructor
    · intro h; exact ⟨0, by omega, by rwa [show t + i + 0 = i + t by omega]⟩
    · rintro ⟨d, hd, h⟩
      obtain rfl : d = 0 := by omega
      rwa [show t + i + 0 = i + t by omega] at h
  · rw [tb_div, Nat.zero_add]; exact t2 hlt
  · obtain ⟨⟨b, hb, hb1⟩, _⟩ := hg
    rw [t1 b (by omega)] at hb1
    cases hb1

/-- All runs of zeros shrunk by q more. -/
theorem Shr.more {x0 m0 most x p k off s q : Nat} (h : Shr x0 m0 most x p k off s) (hqk : q ≤ k) (hqp : q ≤ p) {k' : Nat} (hk1 : 1 ≤ k') (hk' : k' ≤ s + q + 1) :
    Shr x0 m0 most (x ||| x / 2 ^ q) (p - q) k' off (s + q) := by
  refine ⟨or_lt h.lt (Nat.lt_of_le_of_lt (Nat.div_le_self _ _) h.lt), fun i => ?_, by have := h.sum; omega, hk1, hk', ?_, h.old, h.att, h.mono, h.small⟩
  · rw [Nat.testBit_or, tb_div, Bool.or_eq_true, h.bit, h.bit]
    have hks := h.ks
    constructor
    · rintro (⟨d, hd, hb⟩ | ⟨d, hd, hb⟩)
      · exact ⟨d, by omega, hb⟩
      · exact ⟨q + d, by omega, by rwa [show off + i + (q + d) = off + (i + q) + d by omega]⟩
    · rintro ⟨d, hd, hb⟩
      by_cases hds : d ≤ s
      · exact Or.inl ⟨d, hds, hb⟩
      · exact Or.inr ⟨d - q, by omega, by rwa [show off + (i + q) + (d - q) = off + i + d by omega]⟩
  · rw [Nat.testBit_or, h.low]; rfl

/-- No zero is left below a one: done. -/
theorem Shr.done {x0 m0 most x p k off s : Nat} (h : Shr x0 m0 most x p k off s) (hs : Solid x) : Done x0 m0 most := by
  refine ⟨h.mono, h.small, h.att, fun i n hg => ?_⟩
  by_cases hi : i < off
  · exact h.old i n hg hi
  · have hsum := h.sum
    apply Nat.le_of_not_lt
    intro hn
    obtain ⟨_, ⟨c, hc, hc1⟩, hz⟩ := hg
    have h1 : x.testBit (c - off) = true := (h.bit _).2 ⟨0, by omega, by rwa [show off + (c - off) + 0 = c by omega]⟩
    have h2 := hs (i - off) (c - off) (by omega) h1
    obtain ⟨d, hd, hb⟩ := (h.bit _).1 h2
    have := hz d (by omega)
    rw [show off + (i - off) + d = i + d by omega, this] at hb
    cases hb

/-- The lowest run of zeros that is left is an increment of the greatest. -/
theorem Shr.step {x0 m0 most x k off s j1 j2 : Nat} (hx0 : x0 < 18446744073709551616) (h : Shr x0 m0 most x 0 k off s) (hs : ¬ Solid x) (h1 : IsTz (cpl x) j1) (h2 : IsTz (x / 2 ^ j1) j2) :
    j1 < 64 ∧ 1 ≤ j2 ∧ j2 ≤ 62 ∧ Shr x0 m0 (most + j2) (x / 2 ^ j1 / 2 ^ j2) j2 k (off + j1 + j2) s := by
  have hx := h.lt
  have hsum := h.sum
  obtain ⟨a0, a1, a2⟩ := h1
  obtain ⟨b0, b1, b2⟩ := h2
  -- a zero below a one
  have hex : ∃ i j, i < j ∧ x.testBit j = true ∧ x.testBit i = false := by
    apply Classical.byContradiction
    intro hc
    apply hs
    intro i j hij hj
    apply Classical.byContradiction
    intro hi
    exact hc ⟨i, j, hij, hj, by simpa using hi⟩
  obtain ⟨z, o, hzo, ho, hz⟩ := hex
  have ho64 : o < 64 := by
    apply Nat.lt_of_not_le
    intro hle
    rw [tb_high hx hle] at ho
    cases ho
  have hcz : (cpl x).testBit z = true := (cpl_ones hx).2 ⟨by omega, hz⟩
  have hj1z : j1 ≤ z := by
    apply Nat.le_of_not_lt
    intro hlt
    rw [a1 z hlt] at hcz
    cases hcz
  have hj1 : j1 < 64 := by omega
  have hzero1 : x.testBit j1 = false := ((cpl_ones hx).1 (a2 hj1)).2
  have hones : ∀ i, i < j1 → x.testBit i = true := fun i hi => by
    have := a1 i hi
    rw [cpl_tb hx] at this
    simpa [show i < 64 by omega] using this
  have hj1pos : 1 ≤ j1 := by
    apply Nat.pos_of_ne_zero
    intro e
    subst e
    rw [h.low] at hzero1
    cases hzero1
  have hj2o : j1 + j2 ≤ o := by
    apply Nat.le_of_not_lt
    intro hlt
    have := b1 (o - j1) (by omega)
    rw [tb_div, show o - j1 + j1 = o by omega, ho] at this
    cases this
  have hj2lt : j2 < 64 := by omega
  have hone2 : x.testBit (j1 + j2) = true := by
    have := b2 hj2lt
    rwa [tb_div, Nat.add_comm j2 j1] at this
  have hj2pos : 1 ≤ j2 := by
    apply Nat.pos_of_ne_zero
    intro e
    subst e
    rw [Nat.add_zero, hzero1] at hone2
    cases hone2
  have hzeros : ∀ q, q < j2 → x.testBit (j1 + q) = false := fun q hq => by
    have := b1 q hq
    rwa [tb_div, Nat.add_comm q j1] at this
  -- the zeros of x0
  have x0zero : ∀ i, x.testBit i = false → ∀ d, d ≤ s → x0.testBit (off + i + d) = false := fun i hi d hd => by
    apply Classical.byContradiction
    intro hc
    have : x.testBit i = true := (h.bit i).2 ⟨d, hd, by simpa using hc⟩
    rw [hi] at this
    cases this
  have hrun : ∀ q, q < s + j2 → x0.testBit (off + j1 + q) = false := fun q hq => by
    by_cases hqj : q < j2
    · have := x0zero _ (hzeros q hqj) 0 (by omega)
      rwa [show off + (j1 + q) + 0 = off + j1 + q by omega] at this
    · have := x0zero _ (hzeros (j2 - 1) (by omega)) (q - (j2 - 1)) (by omega)
      rwa [show off + (j1 + (j2 - 1)) + (q - (j2 - 1)) = off + j1 + q by omega] at this
  have htop : x0.testBit (off + j1 + j2 + s) = true := by
    obtain ⟨d, hd, hb⟩ := (h.bit _).1 hone2
    by_cases hds : d = s
    · subst hds; rwa [show off + (j1 + j2) + d = off + j1 + j2 + d by omega] at hb
    · have := hrun (j2 + d) (by omega)
      rw [show off + j1 + (j2 + d) = off + (j1 + j2) + d by omega, hb] at this
      cases this
  have hbelow : x0.testBit (off + j1 - 1) = true := by
    obtain ⟨d, hd, hb⟩ := (h.bit _).1 (hones (j1 - 1) (by omega))
    by_cases hd0 : d = 0
    · subst hd0; rwa [show off + (j1 - 1) + 0 = off + j1 - 1 by omega] at hb
    · have := hrun (d - 1) (by omega)
      rw [show off + j1 + (d - 1) = off + (j1 - 1) + d by omega, hb] at this
      cases this
  have hgap : Gap x0 (off + j1) (s + j2) := ⟨⟨off + j1 - 1, by omega, hbelow⟩, ⟨off + j1 + j2 + s, by omega, htop⟩, hrun⟩
  have hle := hgap.le hx0
  refine ⟨hj1, hj2pos, by omega, ⟨?_, fun i => ?_, by omega, h.k1, h.ks, ?_, fun i n hg hi => ?_, Or.inr ⟨off + j1, by rwa [show most + j2 = s + j2 by omega]⟩, by have := h.mono; omega, by omega⟩⟩
  · exact Nat.lt_of_le_of_lt (Nat.div_le_self _ _) (Nat.lt_of_le_of_lt (Nat.div_le_self _ _) hx)
  · rw [tb_div, tb_div, h.bit]
    constructor
    · rintro ⟨d, hd, hb⟩
      exact ⟨d, hd, by rwa [show off + j1 + j2 + i + d = off + (i + j2 + j1) + d by omega]⟩
    · rintro ⟨d, hd, hb⟩
      exact ⟨d, hd, by rwa [show off + (i + j2 + j1) + d = off + j1 + j2 + i + d by omega]⟩
  · rw [tb_div, tb_div, show 0 + j2 + j1 = j1 + j2 by omega]; exact hone2
  · by_cases hio : i < off
    · have := h.old i n hg hio; omega
    · by_cases hij : i < off + j1
      · obtain ⟨d, hd, hb⟩ := (h.bit _).1 (hones (i - off) (by omega))
        apply Nat.le_of_not_lt
        intro hn
        have := hg.2.2 d (by omega)
        rw [show off + (i - off) + d = i + d by omega, this] at hb
        cases hb
      · apply Nat.le_of_not_lt
        intro hn
        have := hg.2.2 (off + j1 + j2 + s - i) (by omega)
        rw [show i + (off + j1 + j2 + s - i) = off + j1 + j2 + s by omega, htop] at this
        cases this

end Go.Proofs.YtnopidgeigdibaaDoor
