/-
  The reference's Pages returns the 512 pages of eight words in new memory. Conditions: the slice holds the eight words, each below 2^64.
-/
import Derived.Test.YtnopidgeigdibaaDoorPut
namespace Go.Proofs.YtnopidgeigdibaaDoor
open Go.RowKit

/-- The first n bools as cells. -/
def bls (p : Nat → Bool) (n : Nat) : List Value := (List.range n).map fun i => Value.bool (p i)
theorem bls_snoc (p : Nat → Bool) (n : Nat) : bls p n ++ [.bool (p n)] = bls p (n + 1) := by
  unfold bls
  rw [List.range_succ, List.map_append]
  rfl
theorem bls_bl (p : Nat → Bool) : bls p 512 = bl p := rfl

theorem bit_test (x k : Nat) (hx : x < 18446744073709551616) : (bits BinOp.and IntKind.u64 ((x : Int) / 2 ^ k) 1 == 1) = x.testBit k := by
  rw [div_cast, show (1 : Int) = ((1 : Nat) : Int) from rfl, bits_and_u64_nat _ 1 (Nat.lt_of_le_of_lt (Nat.div_le_self _ _) hx) (by omega)]
  rw [Nat.and_one_is_mod, Nat.testBit_eq_decide_div_mod_eq]
  by_cases h : x / 2 ^ k % 2 = 1
  · rw [h]; rfl
  · have : x / 2 ^ k % 2 = 0 := by omega
    rw [this]; rfl

theorem new_one (w : World) (v : Value) (e : TypeId) : ∀ j u, [v][j]? = some u → (w.alloc (.cells #[v] e)).cell? (Addr.add ⟨w.heap.size, 0, none⟩ j) = some u := by
  intro j u hj
  cases j with
  | zero =>
    obtain rfl : v = u := by simpa using hj
    rw [show Addr.add ⟨w.heap.size, 0, none⟩ 0 = ⟨w.heap.size, 0, none⟩ from rfl, World.cell?_alloc_at _ _ _ _ rfl]
    rfl
  | succ j => simp at hj

theorem own_ge {w : World} {base : Nat} {e : TypeId} {size n : Nat} {v : Value} {xs : List Value} (h : w.ownsRow base e size v n xs) : ∀ k, v.ownBlock = some k → base ≤ k := by
  intro k hk
  obtain ⟨_, ⟨rfl, _⟩ | ⟨g, cap, cur, rfl, hg, _⟩⟩ := h
  · cases hk
  · have : g = k := by injection hk
    omega

theorem one_bool (b : Bool) : ∀ u ∈ [Value.bool b], u.oneCell' = true := by
  intro u hu
  obtain rfl : u = .bool b := by simpa using hu
  rfl

set_option maxRecDepth 100000 in
set_option maxHeartbeats 1000000 in
theorem pages_core (ws : Nat → Nat) (hw : W64 ws) (b c : Nat) (w : World) (hc : At8 w b ws) :
    Calls Tryd.prog 4 #[.slice (some ⟨b, 0, none⟩) 8 c] w (Bools (page ws) w) := by
  obtain ⟨i0, hi0, hz0, hz1, hz2⟩ := info_parts info4
  have HI := Lib.hid (And.intro hi0 (And.intro hz0 (And.intro hz1 hz2)))
  have hb : b < w.heap.size := World.block_lt_of_cell? w _ (hc 0 (by omega))
  have HC := Lib.hid hc
  clear hc hi0 hz0 hz1 hz2
  go_enter Tryd.func4, Tryd.ntmps4
  go_wp2_with fail
  go_loopw [3, 4] (fun out v wr => ∃ i : Nat, i ≤ 8 ∧ v = .int .i64 i ∧ Hid (wr.ownsRow w.heap.size 4 1 out (64 * i) (bls (page ws) (64 * i))) ∧ Hid (Below w.heap.size w wr)) (fun _ v _ => 8 - (intOf v).toNat)
  case atStart => exact ⟨0, by omega, rfl, ⟨rfl, Or.inl ⟨rfl, rfl⟩⟩, Below.refl _ _⟩
  case round =>
    obtain ⟨i, hi, rfl, HO, HB⟩ := hrel
    by_cases hlt : i < 8
    · have hx := hw i hlt
      have hltb : decide ((i : Int) < 8) = true := by simp; omega
      go_wp2_with fail
      obtain ⟨wo, rfl⟩ : ∃ wo : World, wo = wr := ⟨_, rfl⟩
      go_loopw [3, 5] (fun out v wr => ∃ k : Nat, k ≤ 64 ∧ v = .int .i64 k ∧ Hid (wr.ownsRow w.heap.size 4 1 out (64 * i + k) (bls (page ws) (64 * i + k))) ∧ Hid (Below w.heap.size w wr)) (fun _ v _ => 64 - (intOf v).toNat)
      case atStart => exact ⟨0, by omega, rfl, HO, HB⟩
      case round =>
        clear HO HB
        obtain ⟨k, hk, rfl, HO, HB⟩ := hrel
        by_cases hlk : k < 64
        · have hcell := HC.out i hlt
          rw [← HB.out.cell (p := ⟨b, i, none⟩) hb] at hcell
          have hbt := bit_test (ws i) k hx
          rw [← page_at ws i k hlk] at hbt
          have HSZ : Hid (w.heap.size ≤ wr.heap.size) := HB.out.size
          have HOA := Lib.hid fun o => HO.out.alloc (w := wr) o
          have HP : Hid (bls (page ws) (64 * i + k) ++ [.bool (page ws (64 * i + k))] = bls (page ws) (64 * i + (k + 1))) := bls_snoc _ _
          have HOX := HO
          clear HO
          generalize page ws (64 * i + k) = pb at hbt HP
          generalize ws i = x at hcell hbt hx
          go_wp2_with (at_builtin; (refine wpList_append_own _ rfl (.tmp 16) (.tmp 25) 25 rfl w.heap.size 4 i0 (.bool false) 1 1 Tryd.underlying25 HI.out.1 HI.out.2.1 HI.out.2.2.1 HI.out.2.2.2 rfl (by decide) _ _ _ rfl (HOA.out _) ⟨wr.heap.size, 0, none⟩ 1 1 [.bool pb] rfl rfl (new_one wr (.bool pb) 4) (one_bool pb) (by unfold maxLen; omega) (by omega) (by have := HSZ.out; simp; omega) ?_); intro v' w1 hown1 hgrow _)
          have HG : Hid (Below w.heap.size w w1) := (Below.alloc HB.out HSZ.out _).grown hgrow (by have := HSZ.out; simp; omega) (own_ge HOX.out)
          have HN : Hid (w1.ownsRow w.heap.size 4 1 v' (64 * i + (k + 1)) (bls (page ws) (64 * i + (k + 1)))) := by rw [← HP.out]; exact hown1
          clear hown1 hgrow HOA HP HB HOX HSZ
          go_wp2_with fail
          go_roundw
          case rel => exact ⟨k + 1, by omega, by go_num, HN, HG⟩
          case measure => simp [intOf]; omega
        · obtain rfl : k = 64 := by omega
          go_wp2_with fail
          go_roundw
          case rel => exact ⟨i + 1, by omega, by go_num, HO, HB⟩
          case measure => simp [intOf]; omega
    · obtain rfl : i = 8 := by omega
      obtain ⟨g', cap, hv, hgg, hrow⟩ := row_of_own HO.out
      subst hv
      have HR := Lib.hid hrow
      clear hrow HO
      go_wp2_with fail
      go_ret
      exact ⟨g', cap, rfl, hgg, HR.out, HB.out⟩

end Go.Proofs.YtnopidgeigdibaaDoor
