/-
  Plain facts on numbers below 2^64 and their bits: trailing zeros, leading zeros, and, or, not, shifts, as bits. No program stands here. Conditions stand in each statement.
-/
import Derived.Lib.TrailingZeros
import Derived.Lib.BitFns
import Derived.Laws.BitsAll
import Derived.Laws.Bits64b
namespace Go.Proofs.YtnopidgeigdibaaDoor

/-- t is how many zeros x has at its low end (64 at 0). -/
def IsTz (x t : Nat) : Prop := t ≤ 64 ∧ (∀ j, j < t → x.testBit j = false) ∧ (t < 64 → x.testBit t = true)
/-- l is how many zeros x has at its high end (64 at 0). -/
def IsLz (x l : Nat) : Prop := l ≤ 64 ∧ (∀ j, 64 - l ≤ j → x.testBit j = false) ∧ (l < 64 → x.testBit (63 - l) = true)

theorem tb_high {x j : Nat} (hx : x < 18446744073709551616) (hj : 64 ≤ j) : x.testBit j = false :=
  Nat.testBit_lt_two_pow (Nat.lt_of_lt_of_le hx (show 2 ^ 64 ≤ 2 ^ j from Nat.pow_le_pow_right (by decide) hj))

theorem ctz_is (x : Nat) (hx : x < 18446744073709551616) : IsTz x (Lib.ctz 64 x) := by
  by_cases h0 : x = 0
  · subst h0
    exact ⟨by decide, fun j _ => Nat.zero_testBit j, fun h => absurd h (by decide)⟩
  · obtain ⟨m, hm, hk⟩ := Lib.ctzFrom_spec 64 x (by omega) hx
    have e : Lib.ctz 64 x = Lib.ctzFrom 64 x := by simp [Lib.ctz, h0]
    rw [e]
    generalize Lib.ctzFrom 64 x = c at hm hk
    refine ⟨by omega, fun j hj => ?_, fun _ => ?_⟩
    · rw [hm, Nat.testBit_two_pow_mul]
      simp; omega
    · rw [hm, Nat.testBit_two_pow_mul]
      simp [Nat.testBit_zero]

theorem bitLenAux_spec : ∀ (f x : Nat), x < 2 ^ f → Lib.bitLenAux f x ≤ f ∧ x < 2 ^ Lib.bitLenAux f x ∧ (x ≠ 0 → 0 < Lib.bitLenAux f x ∧ 2 ^ (Lib.bitLenAux f x - 1) ≤ x)
  | 0, x, h => by simp at h; subst h; simp [Lib.bitLenAux]
  | f + 1, x, h => by
    unfold Lib.bitLenAux
    by_cases h0 : x = 0
    · subst h0; simp
    · rw [if_neg h0]
      obtain ⟨a, b, c⟩ := bitLenAux_spec f (x / 2) (by rw [Nat.pow_succ] at h; omega)
      refine ⟨by omega, by rw [Nat.add_comm, Nat.pow_succ]; omega, fun _ => ⟨by omega, ?_⟩⟩
      by_cases h1 : x / 2 = 0
      · rw [h1] at b ⊢
        have e0 : Lib.bitLenAux f 0 = 0 := by cases f <;> simp [Lib.bitLenAux]
        rw [e0]; simp; omega
      · obtain ⟨c1, c2⟩ := c h1
        rw [show 1 + Lib.bitLenAux f (x / 2) - 1 = (Lib.bitLenAux f (x / 2) - 1) + 1 by omega, Nat.pow_succ]
        omega

theorem lz_is (x : Nat) (hx : x < 18446744073709551616) : IsLz x (64 - Lib.bitLen x) ∧ Lib.bitLen x ≤ 64 := by
  by_cases h0 : x = 0
  · subst h0
    exact ⟨⟨by decide, fun j _ => Nat.zero_testBit j, fun h => absurd h (by decide)⟩, by decide⟩
  obtain ⟨a, b, c⟩ := bitLenAux_spec 64 x hx
  change Lib.bitLen x ≤ 64 at a
  change x < 2 ^ Lib.bitLen x at b
  change x ≠ 0 → 0 < Lib.bitLen x ∧ 2 ^ (Lib.bitLen x - 1) ≤ x at c
  generalize Lib.bitLen x = l at a b c
  refine ⟨⟨by omega, fun j hj => ?_, fun h => ?_⟩, a⟩
  · exact Nat.testBit_lt_two_pow (Nat.lt_of_lt_of_le b (Nat.pow_le_pow_right (by decide) (by omega)))
  · obtain ⟨c1, c2⟩ := c h0
    rw [show 63 - (64 - l) = l - 1 by omega]
    obtain ⟨n, rfl⟩ : ∃ n, l = n + 1 := ⟨l - 1, by omega⟩
    rw [Nat.add_sub_cancel] at c2 ⊢
    rw [Nat.testBit_eq_decide_div_mod_eq]
    have : x / 2 ^ n = 1 := by
      rw [Nat.pow_succ] at b
      exact Nat.div_eq_of_lt_le (by omega) (by omega)
    simp [this]

theorem and63 (p : Nat) (h : p < 64) : bits .and .u64 (p : Int) 63 = (p : Int) := by
  rw [show (63 : Int) = ((63 : Nat) : Int) from rfl, bits_and_u64_nat p 63 (by omega) (by omega)]
  rw [show (63 : Nat) = 2 ^ 6 - 1 from rfl, Nat.and_two_pow_sub_one_eq_mod]
  rw [Nat.mod_eq_of_lt (by omega)]

/-- The first of what there is. -/
theorem first_of (P : Nat → Prop) (h : ∃ i, P i) : ∃ r, P r ∧ ∀ i, i < r → ¬ P i := by
  obtain ⟨i, hi⟩ := h
  induction i using Nat.strongRecOn with
  | ind i ih =>
    by_cases hs : ∃ j, j < i ∧ P j
    · obtain ⟨j, hj, hp⟩ := hs
      exact ih j hj hp
    · exact ⟨i, hi, fun j hj hp => hs ⟨j, hj, hp⟩⟩

/-- c has m ones from i on. -/
def Ones (c i m : Nat) : Prop := ∀ j, j < m → c.testBit (i + j) = true

theorem Ones.add {c i a b k : Nat} (h1 : Ones c i a) (h2 : Ones c (i + k) b) (hk : k ≤ a) : Ones c i (k + b) := by
  intro j hj
  by_cases h : j < a
  · exact h1 j h
  · have := h2 (j - k) (by omega)
    rwa [show i + k + (j - k) = i + j by omega] at this

theorem Ones.le {c i a b : Nat} (h : Ones c i a) (hb : b ≤ a) : Ones c i b := fun j hj => h j (by omega)
theorem Ones.right {c i k a b : Nat} (h : Ones c i a) (hb : k + b ≤ a) : Ones c (i + k) b := fun j hj => by
  have := h (k + j) (by omega)
  rwa [← Nat.add_assoc] at this

theorem tb_div (c p i : Nat) : (c / 2 ^ p).testBit i = c.testBit (i + p) := by
  rw [← Nat.shiftRight_eq_div_pow, Nat.testBit_shiftRight, Nat.add_comm]

/-- findBitRange64's state: of c0's runs of ones the top ones are struck but for n - p. -/
def Fb (c0 n c p k : Nat) : Prop := c < 18446744073709551616 ∧ 1 ≤ k ∧ p < n ∧ n ≤ 64 ∧ k ≤ n - p ∧ ∀ i, c.testBit i = true ↔ Ones c0 i (n - p)

theorem Fb.start {c0 n : Nat} (hc : c0 < 18446744073709551616) (hn1 : 1 ≤ n) (hn : n ≤ 64) : Fb c0 n c0 (n - 1) 1 :=
  ⟨hc, Nat.le_refl _, by omega, hn, by omega, fun i => by
    rw [show n - (n - 1) = 1 by omega]
    exact ⟨fun h j hj => by rw [show j = 0 by omega]; exact h, fun h => h 0 (by omega)⟩⟩

theorem and_lt {a b : Nat} (ha : a < 18446744073709551616) : a &&& b < 18446744073709551616 := Nat.lt_of_le_of_lt Nat.and_le_left ha

theorem Fb.bit {c0 n c p k q : Nat} (h : Fb c0 n c p k) (hq : q ≤ k) (i : Nat) : (c &&& c / 2 ^ q).testBit i = true ↔ Ones c0 i (n - p + q) := by
  obtain ⟨_, _, _, _, h5, h6⟩ := h
  rw [Nat.testBit_and, tb_div, Bool.and_eq_true, h6, h6]
  constructor
  · rintro ⟨a, b⟩
    rw [Nat.add_comm]
    exact a.add b (by omega)
  · intro a
    exact ⟨a.le (by omega), a.right (by omega)⟩

theorem Fb.last {c0 n c p k : Nat} (h : Fb c0 n c p k) (hp : p ≤ k) (i : Nat) : (c &&& c / 2 ^ p).testBit i = true ↔ Ones c0 i n := by
  rw [h.bit hp]
  obtain ⟨_, _, _, _, h5, h6⟩ := h
  rw [show n - p + p = n by omega]

theorem Fb.half {c0 n c p k : Nat} (h : Fb c0 n c p k) (hp : k < p) : Fb c0 n (c &&& c / 2 ^ k) (p - k) (2 * k) := by
  have hb := h.bit (Nat.le_refl k)
  obtain ⟨h1, h2, h3, h4, h5, h6⟩ := h
  refine ⟨and_lt h1, by omega, by omega, h4, by omega, fun i => ?_⟩
  rw [hb, show n - (p - k) = n - p + k by omega]

/-- r is where the first run of n ones of c0 begins; 64 where there is none. -/
def IsRange (c0 n r : Nat) : Prop := r ≤ 64 ∧ (∀ i, i < r → ¬ Ones c0 i n) ∧ (r < 64 → Ones c0 r n)

theorem IsRange.uniq {c0 n r s : Nat} (hr : IsRange c0 n r) (hs : IsRange c0 n s) : r = s := by
  obtain ⟨a, b, c⟩ := hr
  obtain ⟨a', b', c'⟩ := hs
  rcases Nat.lt_trichotomy r s with h | h | h
  · exact absurd (c (by omega)) (b' r h)
  · exact h
  · exact absurd (c' (by omega)) (b s h)

theorem IsRange.of_tz {c0 n c r : Nat} (h : ∀ i, c.testBit i = true ↔ Ones c0 i n) (hr : IsTz c r) : IsRange c0 n r := by
  obtain ⟨a, b, d⟩ := hr
  exact ⟨a, fun i hi ho => (by have := b i hi; rw [(h i).2 ho] at this; exact absurd this (by decide)), fun hl => (h r).1 (d hl)⟩

theorem IsRange.none {c0 n c p k : Nat} (h : Fb c0 n c p k) (hc : c = 0) : IsRange c0 n 64 := by
  obtain ⟨h1, h2, h3, h4, h5, h6⟩ := h
  refine ⟨by omega, fun i _ ho => ?_, fun h => by omega⟩
  have := (h6 i).2 (ho.le (by omega))
  rw [hc, Nat.zero_testBit] at this
  cases this

/-- All 64 bits turned. -/
def cpl (x : Nat) : Nat := 18446744073709551615 - x

theorem cpl_lt (x : Nat) : cpl x < 18446744073709551616 := by unfold cpl; omega

theorem cpl_tb {x : Nat} (hx : x < 18446744073709551616) (i : Nat) : (cpl x).testBit i = (decide (i < 64) && !x.testBit i) := by
  have := Nat.testBit_two_pow_sub_succ (x := x) (n := 64) hx i
  rw [← this]
  unfold cpl
  congr 1
  omega

theorem not_eq (x : Nat) (hx : x < 18446744073709551616) : bits BinOp.xor IntKind.u64 (if IntKind.u64.signed = true then -1 else IntKind.u64.max) (x : Int) = ((cpl x : Nat) : Int) := by
  have e : (if IntKind.u64.signed = true then -1 else IntKind.u64.max : Int) = ((18446744073709551615 : Nat) : Int) := by decide
  rw [e, bits_xor_u64_nat _ _ (by omega) hx]
  congr 1
  apply Nat.eq_of_testBit_eq
  intro i
  rw [Nat.testBit_xor, cpl_tb hx, show (18446744073709551615 : Nat) = 2 ^ 64 - 1 from rfl, Nat.testBit_two_pow_sub_one]
  by_cases hi : i < 64
  · simp [hi]
  · simp [hi, tb_high hx (by omega : 64 ≤ i)]

theorem full_of {x : Nat} (hx : x < 18446744073709551616) (h : cpl x = 0) (i : Nat) (hi : i < 64) : x.testBit i = true := by
  have := cpl_tb hx i
  rw [h, Nat.zero_testBit] at this
  simpa [hi] using this.symm

/-- A zero that is the low one of x: by x's own bits. -/
theorem cpl_ones {x i : Nat} (hx : x < 18446744073709551616) : (cpl x).testBit i = true ↔ i < 64 ∧ x.testBit i = false := by
  rw [cpl_tb hx]
  simp

end Go.Proofs.YtnopidgeigdibaaDoor
