/-
  What the law asks behind each step: the words of the pages are the words, and both summaries agree. Conditions: what the law's loop keeps.
-/
import Derived.Test.YtnopidgeigdibaaDoorInv
import Derived.ChangeKeysEq
namespace Go.Proofs.YtnopidgeigdibaaDoor
open Go.RowKit

theorem info23 : ∃ i, Tryd.prog.info? 23 = some i := ⟨_, rfl⟩
theorem cells23 : Tryd.prog.cellsOf 23 = 1 := by kernel_rfl
/-- Eight words equal themselves. -/
theorem eq8_run (ws : Nat → Nat) (w : World) : (Op.equalIn 10000 24 (.agg (arr8 ws)) (.agg (arr8 ws))).run Tryd.prog w = .ok true w := by
  obtain ⟨i, hi⟩ := info23
  rw [run_equalIn_array w 9999 _ _ Tryd.underlying24 hi, cells23]
  simp only [List.range, List.range.loop, Op.eqItems]
  simp [go_sem, part]

theorem mx_ex (p : Nat → Bool) : ∀ k, k ≤ 512 → ∃ m, MxTo p k m
  | 0, _ => ⟨0, by omega, Or.inl rfl, fun a ha => absurd ha (by omega)⟩
  | k + 1, hk => by
    obtain ⟨m, hm⟩ := mx_ex p k (by omega)
    obtain ⟨n, hn⟩ := run_ex p k (by omega)
    exact ⟨_, hm.step hn⟩

theorem end_ex (p : Nat → Bool) : ∃ e, IsEnd p e := by
  obtain ⟨e, he, hmin⟩ := first_of (fun e => 512 ≤ e ∨ p (511 - e) = true) ⟨512, Or.inl (by omega)⟩
  have hle : e ≤ 512 := by
    apply Nat.le_of_not_lt
    intro hlt
    exact hmin 512 hlt (Or.inl (by omega))
  refine ⟨e, hle, fun j hj => ?_, fun hlt => ?_⟩
  · have := hmin (e - 1 - j) (by omega)
    rw [show 511 - (e - 1 - j) = 512 - e + j by omega] at this
    cases hp : p (512 - e + j) with
    | true => exact absurd (Or.inr hp) this
    | false => rfl
  · rcases he with h | h
    · omega
    · exact h

theorem sum_ex (p : Nat → Bool) : ∃ s m e, IsRun p 0 s ∧ IsMax p m ∧ IsEnd p e := by
  obtain ⟨s, hs⟩ := run_ex p 0 (by omega)
  obtain ⟨m, hm⟩ := mx_ex p 512 (by omega)
  obtain ⟨e, he⟩ := end_ex p
  exact ⟨s, m, e, hs, hm.last, he⟩

section
variable {W1 : World} {B H g n : Nat} {ws : Nat → Nat} {p : Nat → Bool} {v5 : Value} {ta : List (Nat × Nat)} {w : World}

/-- The reference's Words at the words' own pages hands back the words. -/
theorem words_I (h : Hid (Inv W1 B H g ws (page ws) v5 n ta w)) (c : Nat) :
    Calls Tryd.prog 12 #[.slice (some ⟨g, 0, none⟩) 512 c] w fun e w' => e = .returned (.agg (arr8 ws)) ∧ Hid (Inv W1 B H g ws (page ws) v5 n ta w') :=
  (words_core (page ws) g c w h.out.row.bat).mono fun e w' ⟨ws', he, hw', hp, hb⟩ => ⟨by rw [he, words_uniq hw' h.out.w64 hp], h.out.below hb⟩

theorem isum_I {s m e : Nat} (h : Hid (Inv W1 B H g ws p v5 n ta w)) (hs : IsStart (page ws) s) (hm : IsMax (page ws) m) (he : IsEnd (page ws) e) :
    Calls Tryd.prog 13 #[.agg (arr8 ws)] w fun e' w' => e' = .returned (.agg #[.int .u64 (s : Nat), .int .u64 (m : Nat), .int .u64 (e : Nat)]) ∧ Hid (Inv W1 B H g ws p v5 n ta w') :=
  (isum_core ws h.out.w64 s m e hs hm he w h.out.tab).mono fun _ _ ⟨he, hb⟩ => ⟨he, h.out.below hb⟩

theorem ssum_I {s m e : Nat} (h : Hid (Inv W1 B H g ws p v5 n ta w)) (hs : IsRun p 0 s) (hm : IsMax p m) (he : IsEnd p e) (c : Nat) :
    Calls Tryd.prog 14 #[.slice (some ⟨g, 0, none⟩) 512 c] w fun e' w' => e' = .returned (.agg #[.int .u64 (s : Nat), .int .u64 (m : Nat), .int .u64 (e : Nat)]) ∧ Hid (Inv W1 B H g ws p v5 n ta w') :=
  (ssum_core p s m e hs hm he g c w h.out.row.bat).mono fun _ _ ⟨he, hb⟩ => ⟨he, h.out.below hb⟩

theorem first_I {k r : Nat} (h : Hid (Inv W1 B H g ws p v5 n ta w)) (hk : k ≤ 512) (hr : IsFirst p k r) (c : Nat) :
    Calls Tryd.prog 8 #[.slice (some ⟨g, 0, none⟩) 512 c, .int .i64 k] w fun e' w' => e' = .returned (.int .i64 (r : Nat)) ∧ w = w' :=
  first_core p k r hk hr g c w h.out.row.bat

theorem find_I {k r : Nat} (h : Hid (Inv W1 B H g ws p v5 n ta w)) (hk1 : 1 ≤ k) (hk : k ≤ 512) (hr : IsFind (page ws) k r) :
    Calls Tryd.prog 9 #[.agg (arr8 ws), .int .u64 k, .int .u64 0] w fun e' w' => ∃ s : Int, e' = .returned (.tuple #[.int .u64 (r : Nat), .int .u64 s]) ∧ Below w.heap.size w w' ∧ Hid (Inv W1 B H g ws p v5 n ta w') :=
  (ifind_core ws h.out.w64 k hk1 hk r hr w h.out.tab).mono fun _ _ ⟨s, he, hb⟩ => ⟨s, he, hb, h.out.below hb⟩

theorem find1_I {r : Nat} (h : Hid (Inv W1 B H g ws p v5 n ta w)) (hr : IsFind (page ws) 1 r) :
    Calls Tryd.prog 10 #[.agg (arr8 ws), .int .u64 0] w fun e' w' => e' = .returned (.int .u64 (r : Nat)) ∧ Below w.heap.size w w' ∧ Hid (Inv W1 B H g ws p v5 n ta w') :=
  (ifind1_core ws h.out.w64 r hr w h.out.tab).mono fun _ _ ⟨he, hb⟩ => ⟨he, hb, h.out.below hb⟩

theorem alloc_I {i k : Nat} (h : Hid (Inv W1 B H g ws p v5 n ta w)) (hk1 : 1 ≤ k) (hk : i + k ≤ 512) :
    Calls Tryd.prog 11 #[.agg (arr8 ws), .int .u64 i, .int .u64 k] w fun e' w' => ∃ ws', e' = .returned (.agg (arr8 ws')) ∧ W64 ws' ∧ PutPg (page ws) i k true (page ws') ∧ Below w.heap.size w w' ∧ Hid (Inv W1 B H g ws p v5 n ta w') :=
  (ialloc_core ws h.out.w64 i k w hk hk1).mono fun _ _ ⟨ws', he, hw, hp, hb⟩ => ⟨ws', he, hw, hp, hb, h.out.below hb⟩

theorem free_I {i k : Nat} (h : Hid (Inv W1 B H g ws p v5 n ta w)) (hk1 : 1 ≤ k) (hk : i + k ≤ 512) :
    Calls Tryd.prog 6 #[.agg (arr8 ws), .int .u64 i, .int .u64 k] w fun e' w' => ∃ ws', e' = .returned (.agg (arr8 ws')) ∧ W64 ws' ∧ PutPg (page ws) i k false (page ws') ∧ Below w.heap.size w w' ∧ Hid (Inv W1 B H g ws p v5 n ta w') :=
  (ifree_core ws h.out.w64 i k w hk hk1).mono fun _ _ ⟨ws', he, hw, hp, hb⟩ => ⟨ws', he, hw, hp, hb, h.out.below hb⟩

/-- Put behind the words' own change: the pages are the words' again. -/
theorem put_I {i k : Nat} {u : Bool} {ws0 : Nat → Nat} (h : Hid (Inv W1 B H g ws (page ws0) v5 n ta w)) (hp : PutPg (page ws0) i k u (page ws)) (hk : i + k ≤ 512) (c : Nat) :
    Calls Tryd.prog 7 #[.slice (some ⟨g, 0, none⟩) 512 c, .int .i64 i, .int .i64 k, .bool u] w fun e' w' => ∃ g' c', e' = .returned (.slice (some ⟨g', 0, none⟩) 512 c') ∧ Below w.heap.size w w' ∧ Hid (Inv W1 B H g' ws (page ws) v5 n ta w') :=
  (put_core (page ws0) i k u hk g c w h.out.row.bat).mono fun _ _ ⟨g', c', he, hg, hr, hb⟩ => ⟨g', c', he, hb, (h.out.put hg hr hb).pages fun q hq => by rw [hp q hq]; rfl⟩
end

end Go.Proofs.YtnopidgeigdibaaDoor
