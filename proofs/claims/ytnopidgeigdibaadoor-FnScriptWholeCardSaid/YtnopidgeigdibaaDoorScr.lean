/-
  The reference's Script returns at most 60 steps in new memory, each of a kind from 0 to 2 and with a number from 0 to 255. Conditions: the bytes are at most 2147483647.
-/
import Derived.Test.YtnopidgeigdibaaDoorPag
namespace Go.Proofs.YtnopidgeigdibaaDoor
open Go.RowKit

/-- Steps as cells. -/
def enc (l : List (Nat × Nat)) : List Value := l.flatMap fun x => [.int .i64 (x.1 : Nat), .int .i64 (x.2 : Nat)]

theorem info32 : (Tryd.prog.info? 32).map (fun i => (i.zero, i.size, i.bytes)) = some (some (.agg #[.int .i64 0, .int .i64 0]), 2, 16) := by kernel_rfl

theorem own_shape {w : World} {base : Nat} {e : TypeId} {size n : Nat} {v : Value} {xs : List Value} (h : w.ownsRow base e size v n xs) : ∃ A cap, v = .slice A n cap := by
  obtain ⟨_, ⟨rfl, rfl⟩ | ⟨g, cap, cur, rfl, _⟩⟩ := h
  · exact ⟨_, _, rfl⟩
  · exact ⟨_, _, rfl⟩

theorem new_two (w : World) (v1 v2 : Value) (e : TypeId) (n : Nat) (hn : n = w.heap.size) : ∀ j u, [v1, v2][j]? = some u → (w.alloc (.cells #[v1, v2] e)).cell? (Addr.add ⟨n, 0, none⟩ j) = some u := by
  intro j u hj
  have e1 : Addr.add ⟨n, 0, none⟩ j = ⟨n, j, none⟩ := by unfold Addr.add; split <;> simp_all
  rw [e1, World.cell?_alloc_at _ _ _ _ hn]
  match j, hj with
  | 0, hj => exact hj
  | 1, hj => exact hj
  | j + 2, hj => simp at hj

theorem one_two (a b : Nat) : ∀ u ∈ [Value.int .i64 (a : Nat), Value.int .i64 (b : Nat)], u.oneCell' = true := by
  intro u hu
  simp at hu
  rcases hu with rfl | rfl <;> rfl

theorem table4 (x : Nat) : ∃ kd : Nat, (∀ h : x % 4 < 4, ([Value.int .i64 0, .int .i64 0, .int .i64 1, .int .i64 2] : List Value)[x % 4]'h = .int .i64 (kd : Nat)) ∧ kd ≤ 2 := by
  have h4 : x % 4 = 0 ∨ x % 4 = 1 ∨ x % 4 = 2 ∨ x % 4 = 3 := by omega
  generalize x % 4 = r at h4
  rcases h4 with rfl | rfl | rfl | rfl
  · exact ⟨0, fun _ => rfl, by omega⟩
  · exact ⟨0, fun _ => rfl, by omega⟩
  · exact ⟨1, fun _ => rfl, by omega⟩
  · exact ⟨2, fun _ => rfl, by omega⟩

theorem enc_snoc (l : List (Nat × Nat)) (a b : Nat) : enc (l ++ [(a, b)]) = enc l ++ [.int .i64 (a : Nat), .int .i64 (b : Nat)] := by
  unfold enc
  rw [List.flatMap_append]
  rfl

/-- Each step is of a kind from 0 to 2, its number from 0 to 255. -/
def StOk (l : List (Nat × Nat)) : Prop := ∀ x, x ∈ l → x.1 ≤ 2 ∧ x.2 ≤ 255

theorem stOk_nil : StOk [] := fun x hx => by cases hx

theorem StOk.snoc {l : List (Nat × Nat)} (h : StOk l) {a b : Nat} (ha : a ≤ 2) (hb : b ≤ 255) : StOk (l ++ [(a, b)]) := by
  intro x hx
  rcases List.mem_append.mp hx with hx | hx
  · exact h x hx
  · obtain rfl : x = (a, b) := by simpa using hx
    exact ⟨ha, hb⟩

/-- At most 60 steps are handed back in new memory; of what was there nothing has turned. -/
def Steps (w : World) (e : Ending) (w' : World) : Prop := ∃ (l : List (Nat × Nat)) (v : Value), e = .returned v ∧ l.length ≤ 60 ∧ StOk l ∧ w'.ownsRow w.heap.size 32 2 v l.length (enc l) ∧ Below w.heap.size w w'

set_option maxRecDepth 100000 in
set_option maxHeartbeats 4000000 in
theorem script_core (len cap b off : Nat) (z : Nat → Nat) (hlen : len ≤ 2147483647) (hz : ∀ j, j < len → z j ≤ 255) (w : World) (hc : ∀ j, j < len → w.cell? ⟨b, off + j, none⟩ = some (.int .u8 (z j : Nat))) :
    Calls Tryd.prog 5 #[.slice (some ⟨b, off, none⟩) len cap] w (Steps w) := by
  obtain ⟨i0, hi0, hz0, hz1, hz2⟩ := info_parts info32
  have HI := Lib.hid (And.intro hi0 (And.intro hz0 (And.intro hz1 hz2)))
  have HC := Lib.hid hc
  have HZ := Lib.hid hz
  clear hc hi0 hz0 hz1 hz2 hz
  go_enter Tryd.func5, Tryd.ntmps5
  go_wp2_with fail
  go_loopw [3, 4] (fun out v wr => ∃ (i m : Nat) (l : List (Nat × Nat)), v = .int .i64 i ∧ Hid (i = 2 * m) ∧ m ≤ 60 ∧ Hid (l.length = m) ∧ Hid (StOk l) ∧ Hid (wr.ownsRow w.heap.size 32 2 out m (enc l)) ∧ Hid (Below w.heap.size w wr)) (fun _ v _ => 200 - (intOf v).toNat)
  case atStart => exact ⟨0, 0, [], rfl, rfl, by omega, rfl, stOk_nil, ⟨rfl, Or.inl ⟨rfl, rfl⟩⟩, Below.refl _ _⟩
  case round =>
    obtain ⟨i, m, l, rfl, HM, hm, HL, HSK, HO, HB⟩ := hrel
    have hi : i ≤ 120 := by have := HM.out; omega
    obtain ⟨A, cap', hv⟩ := own_shape HO.out
    subst hv
    by_cases h1 : i + 1 < len
    · by_cases h2 : m < 60
      · have hi2 : i < 120 := by have := HM.out; omega
        have hb : b < w.heap.size := World.block_lt_of_cell? w _ (HC.out 0 (by omega))
        have hb' : b < wr.heap.size := Nat.lt_of_lt_of_le hb HB.out.size
        have c0 := HC.out i (by omega)
        have c1 := HC.out (i + 1) (by omega)
        have z0 := HZ.out i (by omega)
        have z1 := HZ.out (i + 1) (by omega)
        rw [← HB.out.cell (p := ⟨b, off + i, none⟩) hb] at c0
        rw [← HB.out.cell (p := ⟨b, off + (i + 1), none⟩) hb] at c1
        generalize z i = x at c0 z0
        generalize z (i + 1) = y at c1 z1
        obtain ⟨kd, hkd, hkd2⟩ := table4 x
        have hr : x % 4 < 4 := by omega
        have hr1 : (x : Int) % 4 < 4 := by omega
        have hr0 : 0 ≤ (x : Int) % 4 := by omega
        have HSZ : Hid (w.heap.size ≤ wr.heap.size) := HB.out.size
        clear hb
        by_cases h3 : x / 4 % 3 = 0
        · have h3b : ((x : Int) / 4 % 3 == 0) = true := by rw [beq_iff_eq]; omega
          clear h3
          go_wp2_with fail
          go_region
          all_goals
            go_wp2_with (at_builtin; refine wpList_append_own _ rfl (.tmp 44) (.tmp 46) 29 rfl w.heap.size 32 i0 (.agg #[.int .i64 0, .int .i64 0]) 2 16 Tryd.underlying29 HI.out.1 HI.out.2.1 HI.out.2.2.1 HI.out.2.2.2 rfl (by decide) _ _ _ rfl (by repeat (first | exact HO.out | apply World.ownsRow.alloc | apply World.ownsRow.drew)) _ 1 1 [.int .i64 kd, .int .i64 (y % 20 : Nat)] rfl rfl (new_two _ _ _ _ _ (by simp)) (one_two _ _) (by unfold maxLen; omega) (by omega) (by have := HSZ.out; simp; omega) ?_; intro v' w1 hown1 hgrow _)
            have HG : Hid (Below w.heap.size w w1) := by
              show Below w.heap.size w w1
              refine Below.grown ?_ hgrow (by have := HSZ.out; simp; omega) (own_ge HO.out)
              repeat (first | exact HB.out | refine Below.drew ?_ | refine Below.alloc ?_ (by have := HSZ.out; simp; omega) _)
            have HN : Hid (w1.ownsRow w.heap.size 32 2 v' (m + 1) (enc (l ++ [(kd, y % 20)]))) := by rw [enc_snoc]; exact hown1
            clear hown1 hgrow
            go_roundw
            case rel => exact ⟨i + 2, m + 1, l ++ [(kd, y % 20)], by go_num, by have := HM.out; show i + 2 = 2 * (m + 1); omega, by omega, by have := HL.out; show (l ++ [(kd, y % 20)]).length = m + 1; simp; omega, HSK.out.snoc hkd2 (by omega), HN, HG⟩
            case measure => simp [intOf]; omega
        · have h3b : ((x : Int) / 4 % 3 == 0) = false := by rw [beq_eq_false_iff_ne]; omega
          clear h3
          go_wp2_with fail
          go_region
          all_goals
            go_wp2_with (at_builtin; refine wpList_append_own _ rfl (.tmp 44) (.tmp 46) 29 rfl w.heap.size 32 i0 (.agg #[.int .i64 0, .int .i64 0]) 2 16 Tryd.underlying29 HI.out.1 HI.out.2.1 HI.out.2.2.1 HI.out.2.2.2 rfl (by decide) _ _ _ rfl (by repeat (first | exact HO.out | apply World.ownsRow.alloc | apply World.ownsRow.drew)) _ 1 1 [.int .i64 kd, .int .i64 (y : Nat)] rfl rfl (new_two _ _ _ _ _ (by simp)) (one_two _ _) (by unfold maxLen; omega) (by omega) (by have := HSZ.out; simp; omega) ?_; intro v' w1 hown1 hgrow _)
            have HG : Hid (Below w.heap.size w w1) := by
              show Below w.heap.size w w1
              refine Below.grown ?_ hgrow (by have := HSZ.out; simp; omega) (own_ge HO.out)
              repeat (first | exact HB.out | refine Below.drew ?_ | refine Below.alloc ?_ (by have := HSZ.out; simp; omega) _)
            have HN : Hid (w1.ownsRow w.heap.size 32 2 v' (m + 1) (enc (l ++ [(kd, y)]))) := by rw [enc_snoc]; exact hown1
            clear hown1 hgrow
            go_roundw
            case rel => exact ⟨i + 2, m + 1, l ++ [(kd, y)], by go_num, by have := HM.out; show i + 2 = 2 * (m + 1); omega, by omega, by have := HL.out; show (l ++ [(kd, y)]).length = m + 1; simp; omega, HSK.out.snoc hkd2 (by omega), HN, HG⟩
            case measure => simp [intOf]; omega
      · obtain rfl : m = 60 := by omega
        go_wp2_with fail
        go_ret
        exact ⟨l, _, rfl, by have := HL.out; omega, HSK.out, by rw [HL.out]; exact HO.out, HB.out⟩
    · go_wp2_with fail
      go_ret
      exact ⟨l, _, rfl, by have := HL.out; omega, HSK.out, by rw [HL.out]; exact HO.out, HB.out⟩

theorem script_nil (w : World) : Calls Tryd.prog 5 #[.slice none 0 0] w (Steps w) := by
  go_enter Tryd.func5, Tryd.ntmps5
  go_wp2_with fail
  go_loopw [3, 4] (fun out v wr => out = .slice none 0 0 ∧ v = .int .i64 0 ∧ Hid (wr = w)) (fun _ v _ => 200 - (intOf v).toNat)
  case atStart => exact ⟨rfl, rfl, rfl⟩
  case round =>
    obtain ⟨rfl, rfl, HW⟩ := hrel
    go_wp2_with fail
    go_ret
    exact ⟨[], .slice none 0 0, rfl, by simp, stOk_nil, ⟨rfl, Or.inl ⟨rfl, rfl⟩⟩, by rw [HW.out]; exact Below.refl _ _⟩

end Go.Proofs.YtnopidgeigdibaaDoor
