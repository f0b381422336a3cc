/-
  Plain facts on 512 pages told by eight words: the first run of free pages, found word by word. No program stands here. Conditions stand in each statement.
-/
import Derived.Test.YtnopidgeigdibaaDoorNums
namespace Go.Proofs.YtnopidgeigdibaaDoor

/-- Is page i in use? -/
def page (ws : Nat → Nat) (i : Nat) : Bool := (ws (i / 64)).testBit (i % 64)
/-- n pages from i on are free, and lie in the chunk. -/
def RunAt (p : Nat → Bool) (i n : Nat) : Prop := i + n ≤ 512 ∧ ∀ k, k < n → p (i + k) = false
/-- r is the first place of a run of n free pages; 512 where there is none. -/
def IsFirst (p : Nat → Bool) (n r : Nat) : Prop := r ≤ 512 ∧ (∀ j, j < r → ¬ RunAt p j n) ∧ (r < 512 → RunAt p r n)
/-- What the finders hand back: the first place, or the greatest number. -/
def IsFind (p : Nat → Bool) (n r : Nat) : Prop := (r < 512 ∧ IsFirst p n r) ∨ (r = 18446744073709551615 ∧ IsFirst p n 512)

theorem IsFirst.uniq {p : Nat → Bool} {n r s : Nat} (hr : IsFirst p n r) (hs : IsFirst p n s) : r = s := by
  obtain ⟨a, b, c⟩ := hr
  obtain ⟨a', b', c'⟩ := hs
  rcases Nat.lt_trichotomy r s with h | h | h
  · exact absurd (c (by omega)) (b' r h)
  · exact h
  · exact absurd (c' (by omega)) (b s h)

theorem IsFind.uniq {p : Nat → Bool} {n r s : Nat} (hr : IsFind p n r) (hs : IsFind p n s) : r = s := by
  rcases hr with ⟨a, b⟩ | ⟨a, b⟩ <;> rcases hs with ⟨c, d⟩ | ⟨c, d⟩ <;> have := b.uniq d <;> omega

theorem first_ex (p : Nat → Bool) (n : Nat) : ∃ r, IsFirst p n r := by
  by_cases h : ∃ i, i < 512 ∧ RunAt p i n
  · obtain ⟨r, ⟨h1, h2⟩, hm⟩ := first_of _ h
    exact ⟨r, by omega, fun i hi ho => hm i hi ⟨by omega, ho⟩, fun _ => h2⟩
  · exact ⟨512, by omega, fun i hi ho => h ⟨i, hi, ho⟩, fun h => by omega⟩

theorem find_ex (p : Nat → Bool) (n : Nat) : ∃ r, IsFind p n r := by
  obtain ⟨r, hr⟩ := first_ex p n
  by_cases h : r < 512
  · exact ⟨r, Or.inl ⟨h, hr⟩⟩
  · exact ⟨_, Or.inr ⟨rfl, by have := hr.1; rwa [show r = 512 by omega] at hr⟩⟩

theorem IsFind.le {p : Nat → Bool} {n r : Nat} (h : IsFind p n r) : r < 18446744073709551616 := by
  rcases h with ⟨a, _⟩ | ⟨a, _⟩ <;> omega

/-- A page of word k. -/
theorem page_at (ws : Nat → Nat) (k t : Nat) (ht : t < 64) : page ws (64 * k + t) = (ws k).testBit t := by
  unfold page
  rw [show (64 * k + t) / 64 = k by omega, show (64 * k + t) % 64 = t by omega]

theorem page_of {ws : Nat → Nat} {i k : Nat} (h0 : 64 * k ≤ i) (h1 : i < 64 * k + 64) : page ws i = (ws k).testBit (i - 64 * k) := by
  have := page_at ws k (i - 64 * k) (by omega)
  rwa [show 64 * k + (i - 64 * k) = i by omega] at this

theorem not_run {p : Nat → Bool} {i n u : Nat} (h0 : i ≤ u) (h1 : u < i + n) (hu : p u = true) : ¬ RunAt p i n := by
  rintro ⟨_, h⟩
  have := h (u - i) (by omega)
  rw [show i + (u - i) = u by omega, hu] at this
  cases this

/-- find1: word k is the first that is not full. -/
theorem find1_found {ws : Nat → Nat} {k t : Nat} (hw : ∀ k, k < 8 → ws k < 18446744073709551616) (hk : k < 8) (hf : ∀ j, j < k → cpl (ws j) = 0) (h0 : cpl (ws k) ≠ 0) (ht : IsTz (cpl (ws k)) t) :
    t < 64 ∧ IsFind (page ws) 1 (k * 64 + t) := by
  obtain ⟨t0, t1, t2⟩ := ht
  have hlt : t < 64 := by
    apply Nat.lt_of_not_le
    intro hle
    apply h0
    apply Nat.eq_of_testBit_eq
    intro i
    rw [Nat.zero_testBit]
    by_cases hi : i < t
    · exact t1 i hi
    · exact tb_high (cpl_lt _) (by omega)
  refine ⟨hlt, Or.inl ⟨by omega, by omega, fun j hj hr => ?_, fun _ => ⟨by omega, fun q hq => ?_⟩⟩⟩
  · have hp := hr.2 0 (by omega)
    rw [Nat.add_zero] at hp
    by_cases hjk : j / 64 < k
    · have := full_of (hw (j / 64) (by omega)) (hf _ hjk) (j % 64) (by omega)
      unfold page at hp
      rw [this] at hp
      cases hp
    · rw [page_of (k := k) (by omega) (by omega)] at hp
      have := t1 (j - 64 * k) (by omega)
      have h2 := (cpl_ones (hw k hk)).2 ⟨(by omega : j - 64 * k < 64), hp⟩
      rw [this] at h2
      cases h2
  · rw [show k * 64 + t + q = 64 * k + t by omega, page_at ws k t hlt]
    exact ((cpl_ones (hw k hk)).1 (t2 hlt)).2

theorem find1_none {ws : Nat → Nat} (hw : ∀ k, k < 8 → ws k < 18446744073709551616) (hf : ∀ j, j < 8 → cpl (ws j) = 0) : IsFind (page ws) 1 18446744073709551615 := by
  refine Or.inr ⟨rfl, by omega, fun j hj hr => ?_, fun h => by omega⟩
  have hp := hr.2 0 (by omega)
  rw [Nat.add_zero] at hp
  have := full_of (hw (j / 64) (by omega)) (hf (j / 64) (by omega)) (j % 64) (by omega)
  unfold page at hp
  rw [this] at hp
  cases hp

theorem ones_cpl {x : Nat} (hx : x < 18446744073709551616) {q n : Nat} (hn : 1 ≤ n) : Ones (cpl x) q n ↔ q + n ≤ 64 ∧ ∀ m, m < n → x.testBit (q + m) = false := by
  constructor
  · intro h
    have h1 := (cpl_ones hx).1 (h (n - 1) (by omega))
    exact ⟨by omega, fun m hm => ((cpl_ones hx).1 (h m hm)).2⟩
  · rintro ⟨h1, h2⟩ m hm
    exact (cpl_ones hx).2 ⟨by omega, h2 m hm⟩

/-- findSmallN's state at word i: the e pages ahead of it are free, and no run begins before these. -/
def Sm (p : Nat → Bool) (n i e : Nat) : Prop := e ≤ 64 * i ∧ e < n ∧ (∀ j, j < e → p (64 * i - e + j) = false) ∧ ∀ a, a + e < 64 * i → ¬ RunAt p a n

theorem Sm.start (p : Nat → Bool) {n : Nat} (hn : 1 ≤ n) : Sm p n 0 0 := ⟨by omega, by omega, fun j hj => by omega, fun a ha => by omega⟩

theorem Sm.full {ws : Nat → Nat} {n i e : Nat} (hw : ∀ k, k < 8 → ws k < 18446744073709551616) (h : Sm (page ws) n i e) (hi : i < 8) (hf : cpl (ws i) = 0) : Sm (page ws) n (i + 1) 0 := by
  obtain ⟨h1, h2, h3, h4⟩ := h
  refine ⟨by omega, by omega, fun j hj => by omega, fun a ha => ?_⟩
  have used : ∀ q, q < 64 → page ws (64 * i + q) = true := fun q hq => by rw [page_at ws i q hq]; exact full_of (hw i hi) hf q hq
  by_cases ha0 : a + e < 64 * i
  · exact h4 a ha0
  · by_cases ha1 : a < 64 * i
    · exact not_run (u := 64 * i) (by omega) (by omega) (used 0 (by omega))
    · have := used (a - 64 * i) (by omega)
      rw [show 64 * i + (a - 64 * i) = a by omega] at this
      exact not_run (u := a) (by omega) (by omega) this

theorem tz_free {ws : Nat → Nat} {i t j : Nat} (ht : IsTz (ws i) t) (hj : j < t) : page ws (64 * i + j) = false := by
  have := ht.1
  rw [page_at ws i j (by omega)]
  exact ht.2.1 j hj

theorem tz_used {ws : Nat → Nat} {i t : Nat} (ht : IsTz (ws i) t) (h : t < 64) : page ws (64 * i + t) = true := by
  rw [page_at ws i t h]
  exact ht.2.2 h

theorem lz_free {ws : Nat → Nat} {i l j : Nat} (hl : IsLz (ws i) l) (hj : j < l) : page ws (64 * (i + 1) - l + j) = false := by
  have := hl.1
  rw [page_of (k := i) (by omega) (by omega)]
  exact hl.2.1 _ (by omega)

theorem lz_used {ws : Nat → Nat} {i l : Nat} (hl : IsLz (ws i) l) (h : l < 64) : page ws (64 * i + (63 - l)) = true := by
  rw [page_at ws i _ (by omega)]
  exact hl.2.2 h

theorem Sm.joined {ws : Nat → Nat} {n i e t : Nat} (h : Sm (page ws) n i e) (hi : i < 8) (ht : IsTz (ws i) t) (hn : n ≤ e + t) : IsFind (page ws) n (i * 64 - e) := by
  obtain ⟨h1, h2, h3, h4⟩ := h
  have t0 := ht.1
  refine Or.inl ⟨by omega, by omega, fun j hj => h4 j (by omega), fun _ => ⟨by omega, fun k hk => ?_⟩⟩
  by_cases hke : k < e
  · have := h3 k hke
    rwa [Nat.mul_comm 64 i] at this
  · have := tz_free ht (j := k - e) (by omega)
    rwa [show 64 * i + (k - e) = i * 64 - e + k by omega] at this

theorem Sm.cross {ws : Nat → Nat} {n i e t a : Nat} (h : Sm (page ws) n i e) (ht : IsTz (ws i) t) (hn : e + t < n) (hn64 : n ≤ 64) (ha : a < 64 * i) : ¬ RunAt (page ws) a n := by
  obtain ⟨h1, h2, h3, h4⟩ := h
  by_cases ha0 : a + e < 64 * i
  · exact h4 a ha0
  · exact not_run (u := 64 * i + t) (by omega) (by omega) (tz_used ht (by omega))

theorem Sm.inside {ws : Nat → Nat} {n i e t j : Nat} (hw : ∀ k, k < 8 → ws k < 18446744073709551616) (h : Sm (page ws) n i e) (hi : i < 8) (ht : IsTz (ws i) t) (hn : e + t < n) (hn64 : n ≤ 64)
    (hj : IsRange (cpl (ws i)) n j) (hj64 : j < 64) : IsFind (page ws) n (i * 64 + j) := by
  obtain ⟨j0, j1, j2⟩ := hj
  obtain ⟨f1, f2⟩ := (ones_cpl (hw i hi) (by omega)).1 (j2 hj64)
  have free : ∀ m, m < n → page ws (i * 64 + j + m) = false := fun m hm => by
    rw [show i * 64 + j + m = 64 * i + (j + m) by omega, page_at ws i _ (by omega)]
    exact f2 m hm
  refine Or.inl ⟨by omega, by omega, fun a ha hr => ?_, fun _ => ⟨by omega, free⟩⟩
  by_cases ha0 : a < 64 * i
  · exact h.cross ht hn hn64 ha0 hr
  · refine j1 (a - 64 * i) (by omega) ((ones_cpl (hw i hi) (by omega)).2 ⟨by omega, fun m hm => ?_⟩)
    have := hr.2 m hm
    rw [page_of (k := i) (by omega) (by omega)] at this
    rwa [show a + m - 64 * i = a - 64 * i + m by omega] at this

theorem Sm.next {ws : Nat → Nat} {n i e t j l : Nat} (hw : ∀ k, k < 8 → ws k < 18446744073709551616) (h : Sm (page ws) n i e) (hi : i < 8) (ht : IsTz (ws i) t) (hn : e + t < n) (hn64 : n ≤ 64)
    (hj : IsRange (cpl (ws i)) n j) (hj64 : 64 ≤ j) (hl : IsLz (ws i) l) : Sm (page ws) n (i + 1) l := by
  obtain ⟨j0, j1, j2⟩ := hj
  have l0 := hl.1
  have hln : l < n := by
    apply Nat.lt_of_not_le
    intro hle
    refine j1 (64 - l) (by have := ht.1; omega) ((ones_cpl (hw i hi) (by omega)).2 ⟨by omega, fun m hm => hl.2.1 _ (by omega)⟩)
  refine ⟨by omega, hln, fun q hq => lz_free hl hq, fun a ha hr => ?_⟩
  by_cases ha0 : a < 64 * i
  · exact h.cross ht hn hn64 ha0 hr
  · by_cases ha1 : a + n ≤ 64 * i + 64
    · refine j1 (a - 64 * i) (by omega) ((ones_cpl (hw i hi) (by omega)).2 ⟨by omega, fun m hm => ?_⟩)
      have := hr.2 m hm
      rw [page_of (k := i) (by omega) (by omega)] at this
      rwa [show a + m - 64 * i = a - 64 * i + m by omega] at this
    · exact not_run (u := 64 * i + (63 - l)) (by omega) (by omega) (lz_used hl (by omega)) hr

theorem Sm.none {p : Nat → Bool} {n e : Nat} (h : Sm p n 8 e) : IsFind p n 18446744073709551615 := by
  obtain ⟨h1, h2, h3, h4⟩ := h
  refine Or.inr ⟨rfl, by omega, fun a ha hr => ?_, fun h => by omega⟩
  by_cases ha0 : a + e < 64 * 8
  · exact h4 a ha0 hr
  · have := hr.1
    omega

/-- findLargeN's state at word i: the s pages ahead of it are free, and no run begins before these. -/
def La (p : Nat → Bool) (n i s : Nat) : Prop := s ≤ 64 * i ∧ s < n ∧ (∀ j, j < s → p (64 * i - s + j) = false) ∧ ∀ a, a + s < 64 * i → ¬ RunAt p a n

theorem La.joined {ws : Nat → Nat} {n i s t : Nat} (h : La (page ws) n i s) (hi : i < 8) (ht : IsTz (ws i) t) (hn : n ≤ s + t) : IsFind (page ws) n (i * 64 - s) :=
  Sm.joined h hi ht hn

theorem La.full {ws : Nat → Nat} {n i s : Nat} (hw : ∀ k, k < 8 → ws k < 18446744073709551616) (h : La (page ws) n i s) (hi : i < 8) (hf : cpl (ws i) = 0) : La (page ws) n (i + 1) 0 :=
  Sm.full hw h hi hf

/-- The word holds a page in use: what stands at its end is all that goes on. -/
theorem La.next {ws : Nat → Nat} {n i s t l : Nat} (h : La (page ws) n i s) (ht : IsTz (ws i) t) (htl : t < 64) (hn : s + t < n) (hn64 : 64 < n) (hl : IsLz (ws i) l) : La (page ws) n (i + 1) l := by
  obtain ⟨h1, h2, h3, h4⟩ := h
  have l0 := hl.1
  refine ⟨by omega, by omega, fun q hq => lz_free hl hq, fun a ha hr => ?_⟩
  by_cases ha0 : a + s < 64 * i
  · exact h4 a ha0 hr
  · by_cases ha1 : a ≤ 64 * i + t
    · exact not_run (u := 64 * i + t) (by omega) (by omega) (tz_used ht htl) hr
    · exact not_run (u := 64 * i + (63 - l)) (by omega) (by omega) (lz_used hl (by omega)) hr

/-- Nothing free stood ahead of the word: its own end alone goes on. -/
theorem La.fresh {ws : Nat → Nat} {n i l : Nat} (h : La (page ws) n i 0) (hn64 : 64 < n) (hl : IsLz (ws i) l) : La (page ws) n (i + 1) l := by
  obtain ⟨h1, h2, h3, h4⟩ := h
  have l0 := hl.1
  refine ⟨by omega, by omega, fun q hq => lz_free hl hq, fun a ha hr => ?_⟩
  by_cases ha0 : a + 0 < 64 * i
  · exact h4 a ha0 hr
  · exact not_run (u := 64 * i + (63 - l)) (by omega) (by omega) (lz_used hl (by omega)) hr

/-- The word is wholly free. -/
theorem La.more {ws : Nat → Nat} {n i s t : Nat} (h : La (page ws) n i s) (ht : IsTz (ws i) t) (htl : 64 ≤ t) (hn : s + t < n) : La (page ws) n (i + 1) (s + 64) := by
  obtain ⟨h1, h2, h3, h4⟩ := h
  refine ⟨by omega, by omega, fun q hq => ?_, fun a ha hr => h4 a (by omega) hr⟩
  by_cases hqs : q < s
  · have := h3 q hqs
    rwa [show 64 * i - s + q = 64 * (i + 1) - (s + 64) + q by omega] at this
  · have := tz_free ht (j := q - s) (by omega)
    rwa [show 64 * i + (q - s) = 64 * (i + 1) - (s + 64) + q by omega] at this

end Go.Proofs.YtnopidgeigdibaaDoor
