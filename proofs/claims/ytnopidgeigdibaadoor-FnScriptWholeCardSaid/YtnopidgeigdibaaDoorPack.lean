/-
  A summary packed into one word and taken apart again is the same three numbers. Conditions: each of the three is at most 512.
-/
import Derived.Test.YtnopidgeigdibaaDoorClr
import Derived.Test.YtnopidgeigdibaaDoorSumm
namespace Go.Proofs.YtnopidgeigdibaaDoor
open Go.RowKit

theorem and_mask (x : Nat) (hx : x < 18446744073709551616) : bits .and .u64 (x : Int) 2097151 = ((x % 2097152 : Nat) : Int) := by
  rw [show (2097151 : Int) = ((2097151 : Nat) : Int) from rfl, bits_and_u64_nat x 2097151 hx (by omega)]
  rw [show (2097151 : Nat) = 2 ^ 21 - 1 from rfl, Nat.and_two_pow_sub_one_eq_mod]

theorem or_add1 (s m : Nat) (hs : s < 2097152) (hm : m ≤ 512) : bits .or .u64 (s : Int) ((m : Int) * 2097152) = ((s + m * 2097152 : Nat) : Int) := by
  rw [show (m : Int) * 2097152 = ((m * 2097152 : Nat) : Int) by simp, bits_or_u64_nat s _ (by omega) (by omega)]
  congr 1
  have h := Nat.two_pow_add_eq_or_of_lt (i := 21) (b := s) hs m
  rw [Nat.or_comm, Nat.mul_comm m, show (2097152 : Nat) = 2 ^ 21 from rfl, ← h, Nat.add_comm]

theorem or_add2 (a e : Nat) (ha : a < 4398046511104) (he : e ≤ 512) : bits .or .u64 (a : Int) ((e : Int) * 4398046511104) = ((a + e * 4398046511104 : Nat) : Int) := by
  rw [show (e : Int) * 4398046511104 = ((e * 4398046511104 : Nat) : Int) by simp, bits_or_u64_nat a _ (by omega) (by omega)]
  congr 1
  have h := Nat.two_pow_add_eq_or_of_lt (i := 42) (b := a) ha e
  rw [Nat.or_comm, Nat.mul_comm e, show (4398046511104 : Nat) = 2 ^ 42 from rfl, ← h, Nat.add_comm]

theorem and_top (v : Nat) (hv : v < 9223372036854775808) : bits .and .u64 (v : Int) 9223372036854775808 = 0 := by
  rw [show (9223372036854775808 : Int) = ((9223372036854775808 : Nat) : Int) from rfl, bits_and_u64_nat v _ (by omega) (by omega)]
  have : v &&& 9223372036854775808 = 0 := by
    apply Nat.eq_of_testBit_eq
    intro i
    rw [Nat.testBit_and, show (9223372036854775808 : Nat) = 2 ^ 63 from rfl, Nat.testBit_two_pow, Nat.zero_testBit]
    by_cases hi : 63 = i
    · subst hi
      rw [Nat.testBit_lt_two_pow (show v < 2 ^ 63 from hv)]; rfl
    · simp [hi]
  rw [this]
  rfl

/-- The three numbers in one word. -/
def packed (s m e : Nat) : Nat := s + m * 2097152 + e * 4398046511104

theorem pack_core (s m e : Nat) (hs : s ≤ 512) (hm : m ≤ 512) (he : e ≤ 512) (w : World) :
    Calls Tryd.prog 38 #[.int .u64 s, .int .u64 m, .int .u64 e] w fun e' w' => e' = .returned (.int .u64 (packed s m e : Nat)) ∧ w = w' := by
  have a1 : bits .and .u64 (s : Int) 2097151 = (s : Int) := by rw [and_mask s (by omega), Nat.mod_eq_of_lt (by omega)]
  have a2 : bits .and .u64 (m : Int) 2097151 = (m : Int) := by rw [and_mask m (by omega), Nat.mod_eq_of_lt (by omega)]
  have a3 : bits .and .u64 (e : Int) 2097151 = (e : Int) := by rw [and_mask e (by omega), Nat.mod_eq_of_lt (by omega)]
  have o1 := or_add1 s m (by omega) hm
  have o2 := or_add2 (s + m * 2097152) e (by omega) he
  have hf : packed s m e = s + m * 2097152 + e * 4398046511104 := rfl
  rw [← hf] at o2
  generalize packed s m e = v at o2
  generalize s + m * 2097152 = a at o1 o2
  have hb : ((m : Int) == 2097152) = false := by rw [beq_eq_false_iff_ne]; omega
  clear hf
  go_enter Tryd.func38, Tryd.ntmps38
  go_wp2
  go_ret
  exact ⟨rfl, rfl⟩

theorem unpack_core (s m e : Nat) (hs : s ≤ 512) (hm : m ≤ 512) (he : e ≤ 512) (w : World) :
    Calls Tryd.prog 36 #[.int .u64 (packed s m e : Nat)] w fun e' w' => e' = .returned (.tuple #[.int .u64 s, .int .u64 m, .int .u64 e]) ∧ w = w' := by
  have hv : packed s m e < 9223372036854775808 := by unfold packed; omega
  have a0 := and_top _ hv
  have a1 : bits .and .u64 ((packed s m e : Nat) : Int) 2097151 = (s : Int) := by rw [and_mask _ (by omega)]; unfold packed; omega
  have a2 : bits .and .u64 (((packed s m e : Nat) : Int) / 2097152) 2097151 = (m : Int) := by
    rw [show ((packed s m e : Nat) : Int) / 2097152 = ((packed s m e / 2097152 : Nat) : Int) by simp, and_mask _ (by omega)]; unfold packed; omega
  have a3 : bits .and .u64 (((packed s m e : Nat) : Int) / 4398046511104) 2097151 = (e : Int) := by
    rw [show ((packed s m e : Nat) : Int) / 4398046511104 = ((packed s m e / 4398046511104 : Nat) : Int) by simp, and_mask _ (by omega)]; unfold packed; omega
  generalize packed s m e = v at a0 a1 a2 a3 hv
  go_enter Tryd.func36, Tryd.ntmps36
  go_wp2
  go_ret3
  exact ⟨rfl, rfl⟩

/-- A summary is handed back; of what was there nothing has turned. -/
def SumB (s m e : Nat) (w : World) (e' : Ending) (w' : World) : Prop := e' = .returned (.agg #[.int .u64 s, .int .u64 m, .int .u64 e]) ∧ Below w.heap.size w w'

theorem munpack_core (s m e : Nat) (hs : s ≤ 512) (hm : m ≤ 512) (he : e ≤ 512) (w : World) :
    Calls Tryd.prog 28 #[.int .u64 (packed s m e : Nat)] w (SumB s m e w) := by
  have HC := Lib.hid fun w => unpack_core s m e hs hm he w
  generalize packed s m e = v at HC
  go_enter Tryd.func28, Tryd.ntmps28
  go_wp2_with (go_at_call 36; ((refine (HC.out _).mono ?_); rintro e' w' ⟨rfl, rfl⟩))
  refine bodyPost_ret (v := .agg #[.int .u64 s, .int .u64 m, .int .u64 e]) (by simp [results, Tryd.results28, go_sem]) rfl ?_
  refine ⟨rfl, ?_⟩
  repeat (first | exact (Below.refl _ _).alloc (Nat.le_refl _) _ | apply Below.setCell)

end Go.Proofs.YtnopidgeigdibaaDoor
