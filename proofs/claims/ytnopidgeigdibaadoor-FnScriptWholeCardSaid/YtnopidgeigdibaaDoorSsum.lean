/-
  The reference's Summary returns how many pages are free at the start, in the longest run, and at the end. Conditions: the slice holds 512 bools.
-/
import Derived.Test.YtnopidgeigdibaaDoorFst
namespace Go.Proofs.YtnopidgeigdibaaDoor
open Go.RowKit

/-- m is the longest of the runs that begin below k. -/
def MxTo (p : Nat → Bool) (k m : Nat) : Prop := m ≤ 512 ∧ (m = 0 ∨ ∃ a, RunAt p a m) ∧ ∀ a, a < k → ∀ n, RunAt p a n → n ≤ m

theorem MxTo.step {p : Nat → Bool} {k m n : Nat} (h : MxTo p k m) (hr : IsRun p k n) : MxTo p (k + 1) (max m n) := by
  obtain ⟨h1, h2, h3⟩ := h
  have hn := hr.1.1
  refine ⟨by omega, ?_, fun a ha q hq => ?_⟩
  · by_cases hmn : m ≤ n
    · exact Or.inr ⟨k, by rw [Nat.max_eq_right hmn]; exact hr.1⟩
    · rw [Nat.max_eq_left (by omega)]; exact h2
  · by_cases hak : a < k
    · have := h3 a hak q hq; omega
    · obtain rfl : a = k := by omega
      have : q ≤ n := by
        apply Nat.le_of_not_lt
        intro hlt
        have h1 := hr.2 (by have := hq.1; omega)
        rw [hq.2 n hlt] at h1
        cases h1
      omega

theorem MxTo.last {p : Nat → Bool} {m : Nat} (h : MxTo p 512 m) : IsMax p m := by
  obtain ⟨h1, h2, h3⟩ := h
  refine ⟨?_, fun a n hr => ?_⟩
  · rcases h2 with rfl | h2
    · exact ⟨0, by omega, fun k hk => by omega⟩
    · exact h2
  · by_cases ha : a < 512
    · exact h3 a ha n hr
    · have := hr.1; omega

theorem BAt.lt {w : World} {g : Nat} {p : Nat → Bool} (h : BAt w g p) : g < w.heap.size := World.block_lt_of_cell? w _ (h 0 (by omega))
theorem BAt.below {w w' : World} {g B : Nat} {p : Nat → Bool} (h : BAt w g p) (hg : g < B) (hb : Below B w w') : BAt w' g p := fun i hi => by rw [hb.cell (p := ⟨g, i, none⟩) hg]; exact h i hi
theorem BAt.alloc {w : World} {g : Nat} {p : Nat → Bool} (h : BAt w g p) (o : Obj) : BAt (w.alloc o) g p := h.below h.lt ((Below.refl _ _).alloc (Nat.le_refl _) _)

set_option maxRecDepth 100000 in
set_option maxHeartbeats 1000000 in
theorem ssum_core (p : Nat → Bool) (s m e : Nat) (hs : IsRun p 0 s) (hm : IsMax p m) (he : IsEnd p e) (g c : Nat) (w : World) (hc : BAt w g p) :
    Calls Tryd.prog 14 #[.slice (some ⟨g, 0, none⟩) 512 c] w (SumB s m e w) := by
  have hs5 : s ≤ 512 := by have := hs.1.1; omega
  have he5 := he.1
  have HC := Lib.hid fun i n h => run_core p i n h g c (w.alloc (.cells #[.int .u64 0, .int .u64 0, .int .u64 0] 44)) (hc.alloc _)
  have HB := Lib.hid (hc.alloc (.cells #[.int .u64 0, .int .u64 0, .int .u64 0] 44))
  have HS := Lib.hid hs
  have HM := Lib.hid hm
  have HE := Lib.hid he
  clear hc hs hm he
  go_enter Tryd.func14, Tryd.ntmps14
  go_wp2_with fail
  go_loop [3, 5] (fun mo v => ∃ k mn : Nat, k ≤ 512 ∧ Hid (MxTo p k mn) ∧ mo = .int .i64 mn ∧ v = .int .i64 k) (fun _ v => 512 - (intOf v).toNat)
  case atStart => exact ⟨0, 0, by omega, ⟨by omega, Or.inl rfl, fun a ha => absurd ha (by omega)⟩, rfl, rfl⟩
  case round =>
    obtain ⟨k, mn, hk, HF, rfl, rfl⟩ := hrel
    by_cases hlt : k < 512
    · obtain ⟨n, hn⟩ := run_ex p k hk
      have HC1 := Lib.hid (HC.out k n hn)
      have HX := Lib.hid (HF.out.step hn)
      have hn5 : n ≤ 512 := by have := hn.1.1; omega
      clear hn
      go_wp2_with (go_at_call 22; ((refine (HC1.out).mono ?_); rintro e' w' ⟨rfl, rfl⟩))
      go_round
      case rel => exact ⟨k + 1, max mn n, by omega, HX, by rw [max_cast], by go_num⟩
      case measure => simp [intOf]; omega
    · obtain rfl : k = 512 := by omega
      obtain rfl := HF.out.last.uniq HM.out
      have hm5 := HF.out.1
      have HC1 := Lib.hid (HC.out 0 s HS.out)
      go_wp2_with fail
      go_loop [4] (fun v => ∃ k : Nat, k ≤ e ∧ v = .int .i64 k) (fun v => 512 - (intOf v).toNat)
      case atStart => exact ⟨0, by omega, rfl⟩
      case round =>
        obtain ⟨k, hk, rfl⟩ := hrel
        by_cases hlt : k < e
        · have hp := HE.out.2.1 (e - 1 - k) (by omega)
          have hc := HB.out (511 - k) (by omega)
          rw [show 512 - e + (e - 1 - k) = 511 - k by omega] at hp
          rw [hp] at hc
          clear hp
          go_wp2_with fail
          go_round
          case rel => exact ⟨k + 1, by omega, by go_num⟩
          case measure => simp [intOf]; omega
        · obtain rfl : k = e := by omega
          by_cases hk5 : k < 512
          · have hp := HE.out.2.2 hk5
            have hc := HB.out (511 - k) (by omega)
            rw [hp] at hc
            clear hp
            go_wp2_with (go_at_call 22; ((refine (HC1.out).mono ?_); rintro e' w' ⟨rfl, rfl⟩))
            refine bodyPost_ret (v := .agg #[.int .u64 s, .int .u64 mn, .int .u64 k]) (by simp [results, Tryd.results14, go_sem]) rfl ?_
            refine ⟨rfl, ?_⟩
            repeat (first | exact (Below.refl _ _).alloc (Nat.le_refl _) _ | apply Below.setCell)
          · go_wp2_with (go_at_call 22; ((refine (HC1.out).mono ?_); rintro e' w' ⟨rfl, rfl⟩))
            refine bodyPost_ret (v := .agg #[.int .u64 s, .int .u64 mn, .int .u64 k]) (by simp [results, Tryd.results14, go_sem]) rfl ?_
            refine ⟨rfl, ?_⟩
            repeat (first | exact (Below.refl _ _).alloc (Nat.le_refl _) _ | apply Below.setCell)

end Go.Proofs.YtnopidgeigdibaaDoor
