/-
  Plain facts: masks of a word (the bits from s to t), set and cleared, and what that does to the pages. No program stands here. Conditions stand in each statement.
-/
import Derived.Test.YtnopidgeigdibaaDoorPgs
namespace Go.Proofs.YtnopidgeigdibaaDoor

/-- The bits from s on, below t. -/
def msk (s t : Nat) : Nat := 2 ^ t - 2 ^ s

theorem msk_tb {s t : Nat} (h : s ≤ t) (i : Nat) : (msk s t).testBit i = (decide (s ≤ i) && decide (i < t)) := by
  have e : msk s t = 2 ^ s * (2 ^ (t - s) - 1) := by
    unfold msk
    rw [Nat.mul_sub, ← Nat.pow_add, Nat.mul_one, show s + (t - s) = t by omega]
  rw [e, Nat.testBit_two_pow_mul, Nat.testBit_two_pow_sub_one]
  by_cases h1 : s ≤ i
  · simp [h1]; omega
  · simp [h1]

theorem pow64 {t : Nat} (h : t ≤ 64) : 2 ^ t ≤ 18446744073709551616 := Nat.pow_le_pow_right (n := 2) (by decide) h

theorem msk_lt {s t : Nat} (h : t ≤ 64) : msk s t < 18446744073709551616 := by
  have := pow64 h
  have : 0 < 2 ^ s := Nat.pow_pos (by decide)
  unfold msk
  omega

theorem wm1 {s : Nat} (h : s < 64) : IntKind.u64.wrap (2 ^ s : Int) = ((msk s (s + 1) : Nat) : Int) := by
  have h1 : 2 ^ (s + 1) ≤ 18446744073709551616 := pow64 (by omega)
  have h0 : 0 < 2 ^ s := Nat.pow_pos (by decide)
  rw [IntKind.wrap_u64]
  unfold msk
  rw [Nat.pow_succ] at h1 ⊢
  have e : (2 ^ s : Int) = ((2 ^ s : Nat) : Int) := by simp
  rw [e]
  omega

theorem wm4 {t : Nat} (h : t ≤ 64) : IntKind.u64.wrap (IntKind.u64.wrap (2 ^ t : Int) - 1) = ((msk 0 t : Nat) : Int) := by
  have h1' := pow64 h
  have h0 : 0 < 2 ^ t := Nat.pow_pos (by decide)
  rw [IntKind.wrap_u64, IntKind.wrap_u64]
  unfold msk
  have e : (2 ^ t : Int) = ((2 ^ t : Nat) : Int) := by simp
  rw [e]
  omega

theorem wm2 {s n : Nat} (h : s + n ≤ 64) : IntKind.u64.wrap (IntKind.u64.wrap (IntKind.u64.wrap (2 ^ n : Int) - 1) * 2 ^ s) = ((msk s (s + n) : Nat) : Int) := by
  rw [wm4 (by omega), IntKind.wrap_u64]
  have e : (2 ^ s : Int) = ((2 ^ s : Nat) : Int) := by simp
  rw [e]
  have hm : msk 0 n * 2 ^ s = msk s (s + n) := by
    unfold msk
    rw [Nat.sub_mul, ← Nat.pow_add, ← Nat.pow_add, Nat.zero_add, Nat.add_comm n s]
  have hl : msk s (s + n) < 18446744073709551616 := msk_lt h
  rw [← hm] at hl ⊢
  rw [← Int.natCast_mul]
  omega

theorem wm3 {s : Nat} (h : s < 64) : IntKind.u64.wrap (18446744073709551615 * 2 ^ s : Int) = ((msk s 64 : Nat) : Int) := by
  have h1 : 2 ^ s < 18446744073709551616 := Nat.lt_of_lt_of_le (Nat.pow_lt_pow_right (a := 2) (by decide) h) (by decide)
  have h0 : 0 < 2 ^ s := Nat.pow_pos (by decide)
  rw [IntKind.wrap_u64]
  have e : (2 ^ s : Int) = ((2 ^ s : Nat) : Int) := by simp
  rw [e]
  unfold msk
  rw [show (2 : Nat) ^ 64 = 18446744073709551616 from rfl]
  omega

theorem or_nat (x m : Nat) (hx : x < 18446744073709551616) (hm : m < 18446744073709551616) : bits .or .u64 (x : Int) (m : Int) = ((x ||| m : Nat) : Int) := bits_or_u64_nat x m hx hm

theorem andNot_nat (x m : Nat) (hx : x < 18446744073709551616) (hm : m < 18446744073709551616) : bits .andNot .u64 (x : Int) (m : Int) = ((x &&& cpl m : Nat) : Int) := by
  have h1 : (BitVec.ofInt 64 (x : Int)).toNat = x := by
    rw [BitVec.ofInt_natCast, BitVec.toNat_ofNat]; exact Nat.mod_eq_of_lt (by omega)
  have h2 : (BitVec.ofInt 64 (m : Int)).toNat = m := by
    rw [BitVec.ofInt_natCast, BitVec.toNat_ofNat]; exact Nat.mod_eq_of_lt (by omega)
  show IntKind.u64.wrap ((BitVec.ofInt 64 (x : Int) &&& ~~~ BitVec.ofInt 64 (m : Int)).toNat : Int) = _
  have e : (~~~ BitVec.ofInt 64 (m : Int)).toNat = cpl m := by
    rw [BitVec.toNat_not, h2]; unfold cpl; omega
  rw [BitVec.toNat_and, h1, e, IntKind.wrap_u64]
  have := and_lt (b := cpl m) hx
  omega

theorem or_lt {x m : Nat} (hx : x < 18446744073709551616) (hm : m < 18446744073709551616) : x ||| m < 18446744073709551616 := Nat.or_lt_two_pow (n := 64) hx hm

/-- Word k is y, the others as they were. -/
def upd (ws : Nat → Nat) (k y : Nat) : Nat → Nat := fun j => if j = k then y else ws j

theorem upd_same (ws : Nat → Nat) (k y : Nat) : upd ws k y k = y := if_pos rfl
theorem upd_other (ws : Nat → Nat) {k y j : Nat} (h : j ≠ k) : upd ws k y j = ws j := if_neg h

/-- The pages from i on, n of them, hold u; the others as they were. -/
def PutPg (p : Nat → Bool) (i n : Nat) (u : Bool) (p' : Nat → Bool) : Prop := ∀ q, q < 512 → p' q = if i ≤ q ∧ q < i + n then u else p q

/-- One word written by a mask, set or cleared: so are the pages. -/
def Turn (x s t : Nat) (u : Bool) (y : Nat) : Prop := y < 18446744073709551616 ∧ ∀ i, i < 64 → y.testBit i = if s ≤ i ∧ i < t then u else x.testBit i

theorem turn_or {x s t : Nat} (hx : x < 18446744073709551616) (h : s ≤ t) (ht : t ≤ 64) : Turn x s t true (x ||| msk s t) := by
  refine ⟨or_lt hx (msk_lt ht), fun i _ => ?_⟩
  rw [Nat.testBit_or, msk_tb h]
  by_cases h1 : s ≤ i ∧ i < t
  · rw [if_pos h1]; simp [h1.1, h1.2]
  · rw [if_neg h1]
    have : (decide (s ≤ i) && decide (i < t)) = false := by simp; omega
    rw [this]; simp

theorem turn_andNot {x s t : Nat} (hx : x < 18446744073709551616) (h : s ≤ t) (ht : t ≤ 64) : Turn x s t false (x &&& cpl (msk s t)) := by
  refine ⟨and_lt hx, fun i hi => ?_⟩
  rw [Nat.testBit_and, cpl_tb (msk_lt ht), msk_tb h]
  by_cases h1 : s ≤ i ∧ i < t
  · rw [if_pos h1]; simp [h1.1, h1.2]
  · rw [if_neg h1]
    have : (decide (s ≤ i) && decide (i < t)) = false := by simp; omega
    rw [this]; simp [hi]

/-- The words' pages, one word turned. -/
theorem putPg_word {ws : Nat → Nat} {k s t y : Nat} {u : Bool} (ht : t ≤ 64) (h : Turn (ws k) s t u y) : PutPg (page ws) (64 * k + s) (t - s) u (page (upd ws k y)) := by
  intro q hq
  by_cases hk : q / 64 = k
  · unfold page
    rw [hk, upd_same, h.2 _ (by omega)]
    by_cases hc : s ≤ q % 64 ∧ q % 64 < t
    · rw [if_pos hc, if_pos (by omega)]
    · rw [if_neg hc, if_neg (by omega)]
  · unfold page
    rw [upd_other ws hk, if_neg (by omega)]

theorem PutPg.join {p p' p'' : Nat → Bool} {i n m : Nat} {u : Bool} (h1 : PutPg p i n u p') (h2 : PutPg p' (i + n) m u p'') : PutPg p i (n + m) u p'' := by
  intro q hq
  rw [h2 q hq]
  by_cases hc : i + n ≤ q ∧ q < i + n + m
  · rw [if_pos hc, if_pos (by omega)]
  · rw [if_neg hc, h1 q hq]
    by_cases hd : i ≤ q ∧ q < i + n
    · rw [if_pos hd, if_pos (by omega)]
    · rw [if_neg hd, if_neg (by omega)]

theorem PutPg.same {p p' : Nat → Bool} {i n j m : Nat} {u : Bool} (h : PutPg p i n u p') (h1 : i = j) (h2 : n = m) : PutPg p j m u p' := by subst h1; subst h2; exact h

end Go.Proofs.YtnopidgeigdibaaDoor
