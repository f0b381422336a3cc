/-
  Plain facts on the summary of 512 pages: free at the start, in the longest run, at the end; found word by word. No program stands here. Conditions stand in each statement.
-/
import Derived.Test.YtnopidgeigdibaaDoorGap
namespace Go.Proofs.YtnopidgeigdibaaDoor

/-- s pages are free at the start. -/
def IsStart (p : Nat → Bool) (s : Nat) : Prop := s ≤ 512 ∧ (∀ j, j < s → p j = false) ∧ (s < 512 → p s = true)
/-- e pages are free at the end. -/
def IsEnd (p : Nat → Bool) (e : Nat) : Prop := e ≤ 512 ∧ (∀ j, j < e → p (512 - e + j) = false) ∧ (e < 512 → p (511 - e) = true)
/-- m pages are free in the longest run. -/
def IsMax (p : Nat → Bool) (m : Nat) : Prop := (∃ a, RunAt p a m) ∧ ∀ a n, RunAt p a n → n ≤ m

theorem IsStart.uniq {p : Nat → Bool} {s t : Nat} (hs : IsStart p s) (ht : IsStart p t) : s = t := by
  obtain ⟨a, b, c⟩ := hs
  obtain ⟨a', b', c'⟩ := ht
  rcases Nat.lt_trichotomy s t with h | h | h
  · have := b' s h; rw [c (by omega)] at this; cases this
  · exact h
  · have := b t h; rw [c' (by omega)] at this; cases this

theorem IsEnd.uniq {p : Nat → Bool} {s t : Nat} (hs : IsEnd p s) (ht : IsEnd p t) : s = t := by
  obtain ⟨a, b, c⟩ := hs
  obtain ⟨a', b', c'⟩ := ht
  rcases Nat.lt_trichotomy s t with h | h | h
  · have := b' (t - s - 1) (by omega); rw [show 512 - t + (t - s - 1) = 511 - s by omega, c (by omega)] at this; cases this
  · exact h
  · have := b (s - t - 1) (by omega); rw [show 512 - s + (s - t - 1) = 511 - t by omega, c' (by omega)] at this; cases this

theorem IsMax.uniq {p : Nat → Bool} {s t : Nat} (hs : IsMax p s) (ht : IsMax p t) : s = t := by
  obtain ⟨⟨a, ha⟩, b⟩ := hs
  obtain ⟨⟨a', ha'⟩, b'⟩ := ht
  have := b _ _ ha'
  have := b' _ _ ha
  omega

/-- A run inside a word, between two pages in use of that word, in one of the first i words. -/
def Inner (ws : Nat → Nat) (i a n : Nat) : Prop := ∃ k, k < i ∧ ∃ g, a = 64 * k + g ∧ Gap (ws k) g n

/-- summarize's first loop at word i. st: the start, the greatest number while none is found. -/
structure Ph (ws : Nat → Nat) (i st most cur : Nat) : Prop where
  c1 : cur ≤ 64 * i
  c2 : ∀ j, j < cur → page ws (64 * i - cur + j) = false
  c3 : cur < 64 * i → page ws (64 * i - cur - 1) = true
  s1 : (st = 18446744073709551615 ∧ cur = 64 * i ∧ most = 0) ∨ (st < 512 ∧ page ws st = true ∧ ∀ j, j < st → page ws j = false)
  m1 : most ≤ 512
  m2 : ∃ a, a + most ≤ 64 * i ∧ ∀ j, j < most → page ws (a + j) = false
  m3 : ∀ a n, a + n ≤ 64 * i → (∀ j, j < n → page ws (a + j) = false) → n ≤ most ∨ n ≤ cur ∨ Inner ws i a n

theorem Ph.start (ws : Nat → Nat) : Ph ws 0 18446744073709551615 0 0 :=
  ⟨by omega, fun j hj => by omega, fun h => by omega, Or.inl ⟨rfl, by omega, rfl⟩, by omega, ⟨0, by omega, fun j hj => by omega⟩, fun a n h _ => Or.inl (by omega)⟩

theorem Inner.mono {ws : Nat → Nat} {i a n : Nat} (h : Inner ws i a n) : Inner ws (i + 1) a n := by
  obtain ⟨k, hk, r⟩ := h
  exact ⟨k, by omega, r⟩

/-- A word that is wholly free. -/
theorem Ph.zero {ws : Nat → Nat} {i st most cur : Nat} (h : Ph ws i st most cur) (h0 : ws i = 0) : Ph ws (i + 1) st most (cur + 64) := by
  obtain ⟨c1, c2, c3, s1, m1, ⟨a0, ma, mb⟩, m3⟩ := h
  have free : ∀ q, q < 64 → page ws (64 * i + q) = false := fun q hq => by rw [page_at ws i q hq, h0, Nat.zero_testBit]
  refine ⟨by omega, fun j hj => ?_, fun hlt => ?_, ?_, m1, ⟨a0, by omega, mb⟩, fun a n hn hf => ?_⟩
  · by_cases hjc : j < cur
    · have := c2 j hjc
      rwa [show 64 * i - cur + j = 64 * (i + 1) - (cur + 64) + j by omega] at this
    · have := free (j - cur) (by omega)
      rwa [show 64 * i + (j - cur) = 64 * (i + 1) - (cur + 64) + j by omega] at this
  · have := c3 (by omega)
    rwa [show 64 * i - cur - 1 = 64 * (i + 1) - (cur + 64) - 1 by omega] at this
  · rcases s1 with ⟨e1, e2, e3⟩ | r
    · exact Or.inl ⟨e1, by omega, e3⟩
    · exact Or.inr r
  · by_cases hn0 : a + n ≤ 64 * i
    · rcases m3 a n hn0 hf with r | r | r
      · exact Or.inl r
      · exact Or.inr (Or.inl (by omega))
      · exact Or.inr (Or.inr r.mono)
    · by_cases ha : 64 * i - cur ≤ a
      · exact Or.inr (Or.inl (by omega))
      · have := hf (64 * i - cur - 1 - a) (by omega)
        rw [show a + (64 * i - cur - 1 - a) = 64 * i - cur - 1 by omega, c3 (by omega)] at this
        cases this

/-- A word that holds a page in use. -/
theorem Ph.next {ws : Nat → Nat} {i st most cur t l st' most' : Nat} (h : Ph ws i st most cur) (hi : i < 8) (ht : IsTz (ws i) t) (htl : t < 64) (hl : IsLz (ws i) l)
    (hst : st' = if st = 18446744073709551615 then cur + t else st) (hm : most' = max most (cur + t)) : Ph ws (i + 1) st' most' l ∧ l < 64 := by
  obtain ⟨c1, c2, c3, s1, m1, ⟨a0, ma, mb⟩, m3⟩ := h
  have l0 := hl.1
  have used1 := tz_used ht htl
  have hll : l < 64 := by
    apply Nat.lt_of_not_le
    intro hle
    have := hl.2.1 t (by omega)
    rw [ht.2.2 htl] at this
    cases this
  have used2 := lz_used hl hll
  have pre : ∀ j, j < cur + t → page ws (64 * i - cur + j) = false := fun j hj => by
    by_cases hjc : j < cur
    · exact c2 j hjc
    · have := tz_free ht (j := j - cur) (by omega)
      rwa [show 64 * i + (j - cur) = 64 * i - cur + j by omega] at this
  have htlz : t ≤ 63 - l := by
    apply Nat.le_of_not_lt
    intro hlt
    have := hl.2.1 t (by omega)
    rw [ht.2.2 htl] at this
    cases this
  refine ⟨⟨by omega, fun q hq => lz_free hl hq, fun _ => ?_, ?_, by omega, ?_, fun a n hn hf => ?_⟩, hll⟩
  · rwa [show 64 * (i + 1) - l - 1 = 64 * i + (63 - l) by omega]
  · rcases s1 with ⟨e1, e2, e3⟩ | r
    · rw [if_pos e1] at hst
      refine Or.inr ⟨by omega, ?_, fun j hj => ?_⟩
      · rwa [show st' = 64 * i + t by omega]
      · have := pre j (by omega)
        rwa [show 64 * i - cur + j = j by omega] at this
    · rw [if_neg (by omega)] at hst
      subst hst
      exact Or.inr r
  · by_cases hc : most ≤ cur + t
    · exact ⟨64 * i - cur, by omega, fun j hj => pre j (by omega)⟩
    · exact ⟨a0, by omega, fun j hj => mb j (by omega)⟩
  · by_cases hn0 : a + n ≤ 64 * i
    · rcases m3 a n hn0 hf with r | r | r
      · exact Or.inl (by omega)
      · exact Or.inl (by omega)
      · exact Or.inr (Or.inr r.mono)
    · by_cases hu1 : a + n ≤ 64 * i + t
      · by_cases ha : 64 * i - cur ≤ a
        · exact Or.inl (by omega)
        · have := hf (64 * i - cur - 1 - a) (by omega)
          rw [show a + (64 * i - cur - 1 - a) = 64 * i - cur - 1 by omega, c3 (by omega)] at this
          cases this
      · by_cases ha1 : a ≤ 64 * i + t
        · have := hf (64 * i + t - a) (by omega)
          rw [show a + (64 * i + t - a) = 64 * i + t by omega, used1] at this
          cases this
        · by_cases ha2 : 64 * i + (63 - l) < a
          · exact Or.inr (Or.inl (by omega))
          · by_cases hu2 : a + n ≤ 64 * i + (63 - l)
            · refine Or.inr (Or.inr ⟨i, by omega, a - 64 * i, by omega, ⟨t, by omega, ht.2.2 htl⟩, ⟨63 - l, by omega, hl.2.2 hll⟩, fun j hj => ?_⟩)
              have := hf j hj
              rw [page_of (k := i) (by omega) (by omega)] at this
              rwa [show a + j - 64 * i = a - 64 * i + j by omega] at this
            · have := hf (64 * i + (63 - l) - a) (by omega)
              rw [show a + (64 * i + (63 - l) - a) = 64 * i + (63 - l) by omega, used2] at this
              cases this

/-- All pages are free. -/
theorem Ph.all {ws : Nat → Nat} {st most cur : Nat} (h : Ph ws 8 st most cur) (hs : st = 18446744073709551615) : IsStart (page ws) 512 ∧ IsMax (page ws) 512 ∧ IsEnd (page ws) 512 := by
  obtain ⟨c1, c2, c3, s1, m1, m2, m3⟩ := h
  have hc : cur = 512 := by rcases s1 with ⟨_, e, _⟩ | ⟨e, _⟩ <;> omega
  subst hc
  have free : ∀ j, j < 512 → page ws j = false := fun j hj => by have := c2 j hj; rwa [show 64 * 8 - 512 + j = j by omega] at this
  exact ⟨⟨by omega, free, fun h => by omega⟩, ⟨⟨0, by omega, fun k hk => by rw [Nat.zero_add]; exact free k hk⟩, fun a n hr => by have := hr.1; omega⟩, ⟨by omega, fun j hj => by rw [show 512 - 512 + j = j by omega]; exact free j hj, fun h => by omega⟩⟩

theorem Ph.ends {ws : Nat → Nat} {st most cur : Nat} (h : Ph ws 8 st most cur) (hs : st ≠ 18446744073709551615) : IsStart (page ws) st ∧ IsEnd (page ws) cur := by
  obtain ⟨c1, c2, c3, s1, m1, m2, m3⟩ := h
  rcases s1 with ⟨e, _⟩ | ⟨e1, e2, e3⟩
  · exact absurd e hs
  · exact ⟨⟨by omega, e3, fun _ => e2⟩, ⟨by omega, fun j hj => c2 j hj, fun hlt => by have := c3 (by omega); rwa [show 64 * 8 - cur - 1 = 511 - cur by omega] at this⟩⟩

/-- summarize's second loop at word i: most is a run's length, and as long as every run but the gaps of the words from i on. -/
structure Ph2 (ws : Nat → Nat) (i most : Nat) : Prop where
  m1 : most ≤ 512
  m2 : ∃ a, RunAt (page ws) a most
  m3 : ∀ a n, RunAt (page ws) a n → n ≤ most ∨ ∃ k, i ≤ k ∧ k < 8 ∧ ∃ g, Gap (ws k) g n

theorem Ph.second {ws : Nat → Nat} {st most cur most' : Nat} (h : Ph ws 8 st most cur) (hm : most' = max most cur) : Ph2 ws 0 most' := by
  obtain ⟨c1, c2, c3, s1, m1, ⟨a0, ma, mb⟩, m3⟩ := h
  refine ⟨by omega, ?_, fun a n hr => ?_⟩
  · by_cases hc : most ≤ cur
    · exact ⟨512 - cur, by omega, fun j hj => c2 j (by omega)⟩
    · exact ⟨a0, by omega, fun j hj => mb j (by omega)⟩
  · rcases m3 a n hr.1 hr.2 with r | r | ⟨k, hk, g, _, hg⟩
    · exact Or.inl (by omega)
    · exact Or.inl (by omega)
    · exact Or.inr ⟨k, by omega, hk, g, hg⟩

theorem Ph2.max {ws : Nat → Nat} {most : Nat} (hw : ∀ k, k < 8 → ws k < 18446744073709551616) (h : Ph2 ws 0 most) (hm : 62 ≤ most) : IsMax (page ws) most := by
  refine ⟨h.m2, fun a n hr => ?_⟩
  rcases h.m3 a n hr with r | ⟨k, _, hk, g, hg⟩
  · exact r
  · have := hg.le (hw k hk)
    omega

theorem Ph2.last {ws : Nat → Nat} {most : Nat} (h : Ph2 ws 8 most) : IsMax (page ws) most := by
  refine ⟨h.m2, fun a n hr => ?_⟩
  rcases h.m3 a n hr with r | ⟨k, h1, h2, _⟩
  · exact r
  · omega

/-- While the longest is short, no word is wholly free. -/
theorem Ph2.ne {ws : Nat → Nat} {i most : Nat} (hw : ∀ k, k < 8 → ws k < 18446744073709551616) (h : Ph2 ws i most) (hm : most ≤ 62) (k : Nat) (hk : k < 8) : ws k ≠ 0 := by
  intro h0
  have hr : RunAt (page ws) (64 * k) 64 := ⟨by omega, fun q hq => by rw [page_at ws k q hq, h0, Nat.zero_testBit]⟩
  rcases h.m3 _ _ hr with r | ⟨k', _, hk', g, hg⟩
  · omega
  · have := hg.le (hw k' hk')
    omega

theorem Ph2.step {ws : Nat → Nat} {i most most' : Nat} (hw : ∀ k, k < 8 → ws k < 18446744073709551616) (h : Ph2 ws i most) (hi : i < 8) (hd : Done (ws i) most most') : Ph2 ws (i + 1) most' := by
  obtain ⟨d1, d2, d3, d4⟩ := hd
  refine ⟨by omega, ?_, fun a n hr => ?_⟩
  · rcases d3 with rfl | ⟨g, hg⟩
    · exact h.m2
    · have hc : g + most' ≤ 64 := by
        obtain ⟨_, ⟨c, hc, hc1⟩, _⟩ := hg
        have : c < 64 := by
          apply Nat.lt_of_not_le
          intro hle
          rw [tb_high (hw i hi) hle] at hc1
          cases hc1
        omega
      refine ⟨64 * i + g, by omega, fun q hq => ?_⟩
      rw [show 64 * i + g + q = 64 * i + (g + q) by omega, page_at ws i _ (by omega)]
      exact hg.2.2 q hq
  · rcases h.m3 a n hr with r | ⟨k, h1, h2, g, hg⟩
    · exact Or.inl (by omega)
    · by_cases hki : k = i
      · subst hki
        exact Or.inl (d4 g n hg)
      · exact Or.inr ⟨k, by omega, h2, g, hg⟩

end Go.Proofs.YtnopidgeigdibaaDoor
