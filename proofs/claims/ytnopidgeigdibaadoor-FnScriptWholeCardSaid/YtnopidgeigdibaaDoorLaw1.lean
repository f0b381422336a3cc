/-
  The law FnScriptWhole returns true and writes nothing that was there. Conditions: the input holds at most 2147483647 bytes, the reference's Script reads it as steps, the table deBruijn64tab lies as laid.
-/
import Derived.Test.YtnopidgeigdibaaDoorLaw0
import Derived.Deep.LoopGhost
import Derived.Deep.DeepCutAuto
import Derived.Deep.CutBlock
import Derived.Deep.RegionHeld3
namespace Go.Proofs.YtnopidgeigdibaaDoor
open Go.RowKit

theorem info36 : (Tryd.prog.info? 36).map (fun i => (i.zero, i.size, i.bytes)) = some (some (.agg #[.int .i64 0, .int .i64 0]), 2, 16) := by kernel_rfl

theorem one_two_int (a b : Int) : ∀ u ∈ [Value.int .i64 a, Value.int .i64 b], u.oneCell' = true := by
  intro u hu
  simp at hu
  rcases hu with rfl | rfl <;> rfl

/-- The step's own block, behind a callee. -/
theorem x_cell {wr w3 : World} {a b : Value} (hb : Below (wr.alloc (.cells #[a, b] 32)).heap.size (wr.alloc (.cells #[a, b] 32)) w3) : w3.cell? ⟨wr.heap.size, 0, none⟩ = some a := by
  rw [hb.cell (p := ⟨wr.heap.size, 0, none⟩) (by simp), World.cell?_alloc_at _ _ _ _ rfl]
  rfl

set_option maxRecDepth 100000 in
set_option maxHeartbeats 4000000 in
theorem law_core (v0 : Value) (len cap : Nat) (A0 : Option Addr) (hv0 : v0 = .slice A0 len cap) (hlen : len ≤ 2147483647) (w : World) (hT : Tab w) 
  (h5 : ∀ w1 : World, Below w.heap.size w w1 → Calls Tryd.prog 5 #[.slice A0 len cap] w1 (Steps w1)) :
    Calls Tryd.prog 3 #[v0] w fun e w' => e = .returned (.bool true) ∧ Below w.heap.size w w' := by
  subst hv0
  obtain ⟨i36, hi0, hi1, hi2, hi3⟩ := info_parts info36
  have HQ := Lib.hid (And.intro hi0 (And.intro hi1 (And.intro hi2 hi3)))
  clear hi0 hi1 hi2 hi3
  have hB0 : Below w.heap.size w (w.alloc (.cells zero8 24)) := (Below.refl _ _).alloc (Nat.le_refl _) _
  have H4 := Lib.hid (pages_core (fun _ => 0) zero_w64 w.heap.size 8 (w.alloc (.cells zero8 24)) (At8.new w (fun _ => 0) 24 _ rfl))
  have H5 := Lib.hid h5
  have HT := Lib.hid hT
  have HB0 := Lib.hid hB0
  have hlb : decide ((2147483647 : Int) < len) = false := by simp; omega
  clear h5 hT hB0
  go_enter Tryd.func3, Tryd.ntmps3
  go_wp2_with (first | (go_at_call 4; refine (H4.out).mono ?_; rintro e w1 ⟨g, c, rfl, hg, hrow, hbel⟩) | (go_at_call 5; refine (H5.out w1 (HB0.out.trans (hbel.mono (by simp)))).mono ?_; rintro e w2 ⟨l, v, rfl, hl60, hst, hown, hbel2⟩; obtain ⟨A, cs, hv⟩ := own_shape hown; subst hv))
  have hBW1 : Below w.heap.size w w2 := (HB0.out.trans (hbel.mono (by simp))).trans (hbel2.mono (by have := hbel.size; simp at this; omega))
  have hz1 : w.heap.size + 1 ≤ w1.heap.size := by have := hbel.size; simpa using this
  have hz2 := hbel2.size
  have hgz : w.heap.size + 1 ≤ g := by simpa using hg
  have hrow2 : Row w2 g (page fun _ => 0) := hrow.kept (hbel2.block _ hrow.lt)
  have hblk2 : Blk w2 w.heap.size 24 (fun _ => 0) := ((Blk.new w (fun _ => 0) 24 _ rfl).kept (hbel.block _ (by simp))).kept (hbel2.block _ (by omega))
  have hinv : Inv w2 w.heap.size w2.heap.size g (fun _ => 0) (page fun _ => 0) (.slice none 0 0) 0 [] w2 :=
    ⟨Keep.refl _ _ _, Nat.le_refl _, by omega, HT.out.lt, HT.out.below HT.out.lt hBW1, zero_w64, hblk2, hrow2, by omega, ⟨rfl, Or.inl ⟨rfl, rfl⟩⟩, TaOk.nil, rfl, by intro h; cases h⟩
  have HI := Lib.hid hinv
  have HBW := Lib.hid hBW1
  have HST := Lib.hid hst
  have HOWN := Lib.hid hown
  have HZ : Hid (w.heap.size + 1 ≤ w1.heap.size ∧ w1.heap.size ≤ w2.heap.size ∧ 0 < w.heap.size) := ⟨hz1, hz2, HT.out.lt⟩
  clear hrow hbel hst hown hbel2 hBW1 hz1 hz2 hrow2 hblk2 hinv H4 H5 HB0
  go_loopg [4, 5, 21] 60 (fun gh v4 v5 v21 wr => ∃ (i g' c' n : Nat) (ws : Nat → Nat) (ta : List (Nat × Nat)), v4 = .slice (some ⟨g', 0, none⟩) 512 c' ∧ v21 = .int .i64 i ∧ i ≤ l.length ∧ l.length ≤ i + gh ∧ n ≤ i ∧ Hid (Inv w2 w.heap.size w2.heap.size g' ws (page ws) v5 n ta wr))
  case atStart => exact ⟨0, g, c, 0, fun _ => 0, [], rfl, rfl, by omega, by omega, by omega, HI⟩
  case round =>
    clear HI hg hgz
    obtain ⟨i, gp, cp, n, ws, ta, rfl, rfl, hil, hgh, hni, HI⟩ := hrel
    obtain ⟨A5, c5, hv⟩ := own_shape HI.out.own
    subst hv
    by_cases hlt : i < l.length
    · obtain ⟨-, gs, hA, hgs, hgsl, hs0, hs1, -⟩ := own_at HOWN.out i hlt
      subst hA
      obtain ⟨hk2, hn255⟩ := HST.out _ (List.getElem_mem hlt)
      have hz := HZ.out
      have hc0 : wr.cell? ⟨gs, i * 2, none⟩ = some (.int .i64 (l[i].1 : Nat)) := by rw [HI.out.keep.cell (p := ⟨gs, i * 2, none⟩) hgsl (by show gs ≠ _; omega)]; exact hs0
      have hc1 : wr.cell? ⟨gs, i * 2 + 1, none⟩ = some (.int .i64 (l[i].2 : Nat)) := by rw [HI.out.keep.cell (p := ⟨gs, i * 2 + 1, none⟩) hgsl (by show gs ≠ _; omega)]; exact hs1
      clear hs0 hs1 hz hgs hgsl
      generalize l[i].1 = kd at hk2 hc0
      generalize l[i].2 = nn at hn255 hc1
      go_upto_block 2 with (fail)
      go_cut [4, 5, 8, 9, 10, 11, 12] (fun v4 v5 _ _ _ _ _ wc => ∃ (g' c' n' : Nat) (ws' : Nat → Nat) (ta' : List (Nat × Nat)), v4 = .slice (some ⟨g', 0, none⟩) 512 c' ∧ n' ≤ i + 1 ∧ Hid (Inv w2 w.heap.size w2.heap.size g' ws' (page ws') v5 n' ta' wc))
      case first =>
        have HI0 := Lib.hid (HI.out.alloc (.cells #[.int .i64 (kd : Nat), .int .i64 (nn : Nat)] 32))
        clear hc0 hc1
        by_cases hk1 : kd = 1
        · subst hk1
          by_cases hn0 : n = 0
          · subst hn0
            go_wp2_with fail
            go_meet
            exact ⟨gp, cp, 0, ws, ta, rfl, by omega, HI0⟩
          · have HI0 : Hid (Inv w2 w.heap.size w2.heap.size gp ws (page ws) (.slice A5 n c5) n ta (wr.alloc (.cells #[.int .i64 1, .int .i64 (nn : Nat)] 32))) := HI.out.alloc _
            have hjn : nn % n < n := Nat.mod_lt _ (by omega)
            have hmod : (nn : Int) % (n : Int) = ((nn % n : Nat) : Int) := by simp
            have hnb : ((n : Int) == 0) = false := by rw [beq_eq_false_iff_ne]; omega
            have hnd : decide ((0 : Int) < (n : Int)) = true := by simp; omega
            generalize nn % n = j at hjn hmod
            obtain ⟨at1, nt1, htj⟩ : ∃ a b, ta[j]? = some (a, b) := ⟨_, _, List.getElem?_eq_getElem (by rw [HI0.out.len]; exact hjn)⟩
            obtain ⟨-, -, ga, hA5, hga, hgal, hca, hcb, hcf⟩ := own_at2 HI0.out.own htj
            subst hA5
            obtain ⟨htk1, htk2⟩ := HI0.out.tak _ (List.mem_of_getElem? htj)
            have HTJ := Lib.hid htj
            clear htj
            obtain ⟨d0, d1, d2, d3, d4, d5, d6, d7, -⟩ := inv8 HI0
            go_wp2_with fail
            try simp only [hmod]
            have HID := Lib.hid HI0.out.drew
            have hwa : IntKind.u64.wrap (at1 : Int) = (at1 : Int) := wrap_u64_small at1 (by omega)
            have hwn : IntKind.u64.wrap (nt1 : Int) = (nt1 : Int) := wrap_u64_small nt1 (by omega)
            go_cut [10] (fun _ wc => ∃ ws4, Hid (Inv w2 w.heap.size w2.heap.size gp ws4 (page ws) (.slice (some ⟨ga, 0, none⟩) n c5) n ta wc) ∧ Hid (PutPg (page ws) at1 nt1 false (page ws4)))
            case first =>
              go_region_with (first | (go_at_call 6; refine (free_I HID htk1 htk2).mono ?_; rintro e' w4 ⟨ws4, rfl, hw4, hp4, hb4, HI4⟩; obtain ⟨e0, e1, e2, e3, e4, e5, e6, e7, -⟩ := inv8 HI4; have hfz := fun k => HI4.out.blk.free k))
              all_goals (go_wp2_with fail; go_meet; exact ⟨ws4, HI4.out.store8 hw4, hp4⟩)
            case rest =>
              clear hca hcb d0 d1 d2 d3 d4 d5 d6 d7 hwa hwn HID HI0 hgal hcf
              obtain ⟨ws4, HI4, HP4⟩ := hcut
              obtain ⟨-, -, ga', hga', -, hgal, hca, hcb, -⟩ := own_at2 HI4.out.own HTJ.out
              obtain rfl : ga = ga' := by injection hga' with e; injection e
              clear hga'
              go_wp2_with fail
              have HID := Lib.hid HI4.out.drew
              go_region_held3 (fun w' => w'.cell? ⟨ga, j * 2, none⟩ = some (.int .i64 (at1 : Nat)) ∧ w'.cell? ⟨ga, j * 2 + 1, none⟩ = some (.int .i64 (nt1 : Nat)))
                (first | exact ⟨hca, hcb⟩ | exact ⟨f0, f1⟩)
                (first | (go_at_call 7; refine (put_I HID HP4.out htk2 _).mono ?_; rintro e' w6 ⟨g6, c6, rfl, hb6, HI6⟩; have f0 := (hb6.cell (p := ⟨ga, j * 2, none⟩) hgal).trans hca; have f1 := (hb6.cell (p := ⟨ga, j * 2 + 1, none⟩) hgal).trans hcb))
              go_split_ands
              obtain ⟨a2, b2, hlast⟩ : ∃ a b, ta[n - 1]? = some (a, b) := ⟨_, _, List.getElem?_eq_getElem (by rw [HI6.out.len]; omega)⟩
              obtain ⟨-, -, gb, hgb, -, -, hla, hlb2, hfz⟩ := own_at2 HI6.out.own hlast
              obtain rfl : ga = gb := by injection hgb with e; injection e
              have hcap := own_cap HI6.out.own
              have hcap1 : (n : Int) - 1 ≤ (c5 : Int) := by omega
              have hcap0 : 0 ≤ (n : Int) - 1 := by omega
              have HF := Lib.hid (HI6.out.drop hjn hlast)
              clear hlast hgb HI6 hca hcb
              go_wp2_with fail
              go_meet
              exact ⟨g6, c6, n - 1, ws4, _, rfl, by omega, HF⟩
        · obtain ⟨r, hr⟩ := first_ex (page ws) (1 + nn)
          have hk0 : ((kd : Int) == 1) = false := by rw [beq_eq_false_iff_ne]; omega
          have hk0' : ((kd : Int) != 1) = true := by rw [bne_iff_ne]; omega
          by_cases hk2' : kd = 2
          · subst hk2'
            have hrf : IsFind (page ws) (1 + nn) (if r < 512 then r else 18446744073709551615) := by
              by_cases h : r < 512
              · rw [if_pos h]; exact Or.inl ⟨h, hr⟩
              · rw [if_neg h]; exact Or.inr ⟨rfl, by have := hr.1; rwa [show r = 512 by omega] at hr⟩
            have HC8 := Lib.hid (first_I HI0 (by omega : 1 + nn ≤ 512) hr cp)
            have HC9 := Lib.hid (find_I HI0 (by omega : 1 ≤ 1 + nn) (by omega) hrf)
            have hB0 := HI0.out.blk
            clear hrf hr hk1
            generalize (if r < 512 then r else 18446744073709551615) = at0 at HC9
            obtain ⟨r1, hr1⟩ := first_ex (page ws) 1
            have HR1 := Lib.hid hr1
            have hr1512 := hr1.1
            clear hr1
            by_cases hr5 : r1 < 512
            · have HF1 : Hid (IsFind (page ws) 1 r1) := Or.inl ⟨hr5, HR1.out⟩
              have HRR := Lib.hid (HR1.out.2.2 hr5).1
              have hr5b : ((r1 : Int) == 512) = false := by rw [beq_eq_false_iff_ne]; omega
              clear hr1512
              go_wp2_with (first | (go_at_call 8; ((refine (HC8.out).mono ?_); rintro e' w' ⟨rfl, rfl⟩)) | (go_at_call 9; refine (HC9.out).mono ?_; rintro e' w3 ⟨s, rfl, hb3, HI3⟩; have hx0 := x_cell hb3; have hB3 := HI3.out.blk) | (refine wpList_load_row rfl 24 (.tmp 3) rfl w.heap.size rfl 24 (arr8 ws) (0, 0) _ (by assumption) Tryd.underlying24 rfl (by kernel_rfl) ?_))
              go_region_held3 (fun w' => w'.cell? ⟨w.heap.size, 0, none⟩ = some (.int .u64 (ws 0 : Nat)) ∧ w'.cell? ⟨w.heap.size, 1, none⟩ = some (.int .u64 (ws 1 : Nat)) ∧ w'.cell? ⟨w.heap.size, 2, none⟩ = some (.int .u64 (ws 2 : Nat)) ∧ w'.cell? ⟨w.heap.size, 3, none⟩ = some (.int .u64 (ws 3 : Nat)) ∧ w'.cell? ⟨w.heap.size, 4, none⟩ = some (.int .u64 (ws 4 : Nat)) ∧ w'.cell? ⟨w.heap.size, 5, none⟩ = some (.int .u64 (ws 5 : Nat)) ∧ w'.cell? ⟨w.heap.size, 6, none⟩ = some (.int .u64 (ws 6 : Nat)) ∧ w'.cell? ⟨w.heap.size, 7, none⟩ = some (.int .u64 (ws 7 : Nat)) ∧ Hid (Inv w2 w.heap.size w2.heap.size gp ws (page ws) (.slice A5 n c5) n ta w'))
                (first | exact inv8 (by assumption) | exact inv8 HI3.out.drew)
                (first | (go_at_call 8; go_split_ands; refine (first_I (by assumption) (by omega : 1 ≤ 512) HR1.out _).mono ?_; rintro e' w' ⟨rfl, rfl⟩) | (go_at_call 10; go_split_ands; refine (find1_I (by assumption) HF1.out).mono ?_; rintro e' w4 ⟨rfl, hbb, hI4⟩; have hB4 := hI4.out.blk))
              go_split_ands
              go_wp2_with (first | (go_at_call 11; refine (alloc_I (k := 1) hI4 (by omega) HRR.out).mono ?_; rintro e' w5 ⟨ws5, rfl, hw5, hp5, hb5, HI5⟩; have hB5 := HI5.out.blk; have HI6 := Lib.hid (HI5.out.store hw5)) | (go_at_call 7; refine (put_I (k := 1) HI6 hp5 HRR.out _).mono ?_; rintro e' w6 ⟨g6, c6, rfl, hb6, HI7⟩) | (refine wpList_load_row rfl 24 (.tmp 3) rfl w.heap.size rfl 24 (arr8 ws) (0, 0) _ hB4 Tryd.underlying24 rfl (by kernel_rfl) ?_) | (refine wpList_store_row rfl 24 (.tmp 3) (.tmp 115) rfl w.heap.size (arr8 ws5) rfl rfl 24 _ hB5 (by kernel_rfl) rfl (arr8_one ws5) ?_) | (at_builtin; refine wpList_append_own _ rfl (.tmp 120) (.tmp 124) 28 rfl w2.heap.size 36 i36 (.agg #[.int .i64 0, .int .i64 0]) 2 16 Tryd.underlying28 HQ.out.1 HQ.out.2.1 HQ.out.2.2.1 HQ.out.2.2.2 rfl (by decide) _ n (enc ta) rfl (HI7.out.own.alloc _) _ 1 1 [.int .i64 r1, .int .i64 1] rfl rfl (new_two _ _ _ _ _ rfl) (one_two_int _ _) (by unfold maxLen; omega) (by omega) (by have := HI7.out.hH; simp; omega) ?_; intro v7 w7 hown7 hgrow7 _))
              have HF : Hid (Inv w2 w.heap.size w2.heap.size g6 ws5 (page ws5) v7 (n + 1) (ta ++ [(r1, 1)]) w7) := by
                rw [show (1 : Int) = ((1 : Nat) : Int) by omega, ← enc_snoc] at hown7
                exact HI7.out.append hgrow7 hown7 (HI7.out.tak.snoc (by omega) HRR.out) (by rw [List.length_append, HI7.out.len]; rfl)
              go_meet
              exact ⟨g6, c6, n + 1, ws5, _, rfl, by omega, HF⟩
            · obtain rfl : r1 = 512 := by omega
              have HF1 : Hid (IsFind (page ws) 1 18446744073709551615) := Or.inr ⟨rfl, HR1.out⟩
              clear hr1512 hr5
              go_wp2_with (first | (go_at_call 8; ((refine (HC8.out).mono ?_); rintro e' w' ⟨rfl, rfl⟩)) | (go_at_call 9; refine (HC9.out).mono ?_; rintro e' w3 ⟨s, rfl, hb3, HI3⟩; have hx0 := x_cell hb3; have hB3 := HI3.out.blk) | (refine wpList_load_row rfl 24 (.tmp 3) rfl w.heap.size rfl 24 (arr8 ws) (0, 0) _ (by assumption) Tryd.underlying24 rfl (by kernel_rfl) ?_))
              go_region_held3 (fun w' => w'.cell? ⟨w.heap.size, 0, none⟩ = some (.int .u64 (ws 0 : Nat)) ∧ w'.cell? ⟨w.heap.size, 1, none⟩ = some (.int .u64 (ws 1 : Nat)) ∧ w'.cell? ⟨w.heap.size, 2, none⟩ = some (.int .u64 (ws 2 : Nat)) ∧ w'.cell? ⟨w.heap.size, 3, none⟩ = some (.int .u64 (ws 3 : Nat)) ∧ w'.cell? ⟨w.heap.size, 4, none⟩ = some (.int .u64 (ws 4 : Nat)) ∧ w'.cell? ⟨w.heap.size, 5, none⟩ = some (.int .u64 (ws 5 : Nat)) ∧ w'.cell? ⟨w.heap.size, 6, none⟩ = some (.int .u64 (ws 6 : Nat)) ∧ w'.cell? ⟨w.heap.size, 7, none⟩ = some (.int .u64 (ws 7 : Nat)) ∧ Hid (Inv w2 w.heap.size w2.heap.size gp ws (page ws) (.slice A5 n c5) n ta w'))
                (first | exact inv8 (by assumption) | exact inv8 HI3.out.drew)
                (first | (go_at_call 8; go_split_ands; refine (first_I (by assumption) (by omega : 1 ≤ 512) HR1.out _).mono ?_; rintro e' w' ⟨rfl, rfl⟩) | (go_at_call 10; go_split_ands; refine (find1_I (by assumption) HF1.out).mono ?_; rintro e' w4 ⟨rfl, hbb, hI4⟩))
              go_split_ands
              go_wp2_with fail
              go_meet
              exact ⟨gp, cp, n, ws, ta, rfl, by omega, hI4⟩
          · obtain rfl : kd = 0 := by omega
            have hrf : IsFind (page ws) (1 + nn) (if r < 512 then r else 18446744073709551615) := by
              by_cases h : r < 512
              · rw [if_pos h]; exact Or.inl ⟨h, hr⟩
              · rw [if_neg h]; exact Or.inr ⟨rfl, by have := hr.1; rwa [show r = 512 by omega] at hr⟩
            have hr512 := hr.1
            have HC8 := Lib.hid (first_I HI0 (by omega : 1 + nn ≤ 512) hr cp)
            have HC9 := Lib.hid (find_I HI0 (by omega : 1 ≤ 1 + nn) (by omega) hrf)
            have hB0 := HI0.out.blk
            clear hk1 hk2' hrf
            by_cases hr5 : r < 512
            · simp only [if_pos hr5] at HC9
              have HRR := Lib.hid (hr.2.2 hr5).1
              have hr5b : ((r : Int) == 512) = false := by rw [beq_eq_false_iff_ne]; omega
              clear hr hr512
              go_wp2_with (first | (go_at_call 8; ((refine (HC8.out).mono ?_); rintro e' w' ⟨rfl, rfl⟩)) | (go_at_call 9; refine (HC9.out).mono ?_; rintro e' w3 ⟨s, rfl, hb3, HI3⟩; have hx0 := x_cell hb3; have hB3 := HI3.out.blk) | (go_at_call 11; refine (alloc_I HI3 (by omega : 1 ≤ 1 + nn) HRR.out).mono ?_; rintro e' w4 ⟨ws4, rfl, hw4, hp4, hb4, HI4⟩; have hB4 := HI4.out.blk; have HI5 := Lib.hid (HI4.out.store hw4)) | (go_at_call 7; refine (put_I HI5 hp4 HRR.out _).mono ?_; rintro e' w6 ⟨g6, c6, rfl, hb6, HI6⟩) | (refine wpList_load_row rfl 24 (.tmp 3) rfl w.heap.size rfl 24 (arr8 ws) (0, 0) _ (by assumption) Tryd.underlying24 rfl (by kernel_rfl) ?_) | (refine wpList_store_row rfl 24 (.tmp 3) (.tmp 115) rfl w.heap.size (arr8 ws4) rfl rfl 24 _ hB4 (by kernel_rfl) rfl (arr8_one ws4) ?_) | (at_builtin; refine wpList_append_own _ rfl (.tmp 120) (.tmp 124) 28 rfl w2.heap.size 36 i36 (.agg #[.int .i64 0, .int .i64 0]) 2 16 Tryd.underlying28 HQ.out.1 HQ.out.2.1 HQ.out.2.2.1 HQ.out.2.2.2 rfl (by decide) _ n (enc ta) rfl (HI6.out.own.alloc _) _ 1 1 [.int .i64 r, .int .i64 (1 + (nn : Int))] rfl rfl (new_two _ _ _ _ _ rfl) (one_two_int _ _) (by unfold maxLen; omega) (by omega) (by have := HI6.out.hH; simp; omega) ?_; intro v7 w7 hown7 hgrow7 _))
              have HF : Hid (Inv w2 w.heap.size w2.heap.size g6 ws4 (page ws4) v7 (n + 1) (ta ++ [(r, 1 + nn)]) w7) := by
                rw [show (1 + (nn : Int)) = ((1 + nn : Nat) : Int) by omega, ← enc_snoc] at hown7
                exact HI6.out.append hgrow7 hown7 (HI6.out.tak.snoc (by omega) HRR.out) (by rw [List.length_append, HI6.out.len]; rfl)
              go_meet
              exact ⟨g6, c6, n + 1, ws4, _, rfl, by omega, HF⟩
            · obtain rfl : r = 512 := by omega
              simp only [if_neg hr5] at HC9
              clear hr hr512 hr5
              go_wp2_with (first | (go_at_call 8; ((refine (HC8.out).mono ?_); rintro e' w' ⟨rfl, rfl⟩)) | (go_at_call 9; refine (HC9.out).mono ?_; rintro e' w3 ⟨s, rfl, hb3, HI3⟩; have hx0 := x_cell hb3) | (refine wpList_load_row rfl 24 (.tmp 3) rfl w.heap.size rfl 24 (arr8 ws) (0, 0) _ (by assumption) Tryd.underlying24 rfl (by kernel_rfl) ?_))
              go_meet
              exact ⟨gp, cp, n, ws, ta, rfl, by omega, HI3⟩
      case rest =>
        clear HI hc0 hc1
        obtain ⟨g', c', n', ws', ta', rfl, hn', HI⟩ := hcut
        obtain ⟨s, m, e, hs, hm, he⟩ := sum_ex (page ws')
        have HS := Lib.hid (And.intro hs (And.intro hm he))
        clear hs hm he
        have he8 := fun W => eq8_run ws' W
        go_wp2_with fail
        go_region_held3 (fun w' => w'.cell? ⟨w.heap.size, 0, none⟩ = some (.int .u64 (ws' 0 : Nat)) ∧ w'.cell? ⟨w.heap.size, 1, none⟩ = some (.int .u64 (ws' 1 : Nat)) ∧ w'.cell? ⟨w.heap.size, 2, none⟩ = some (.int .u64 (ws' 2 : Nat)) ∧ w'.cell? ⟨w.heap.size, 3, none⟩ = some (.int .u64 (ws' 3 : Nat)) ∧ w'.cell? ⟨w.heap.size, 4, none⟩ = some (.int .u64 (ws' 4 : Nat)) ∧ w'.cell? ⟨w.heap.size, 5, none⟩ = some (.int .u64 (ws' 5 : Nat)) ∧ w'.cell? ⟨w.heap.size, 6, none⟩ = some (.int .u64 (ws' 6 : Nat)) ∧ w'.cell? ⟨w.heap.size, 7, none⟩ = some (.int .u64 (ws' 7 : Nat)) ∧ Hid (Inv w2 w.heap.size w2.heap.size g' ws' (page ws') u5 n' ta' w'))
          (first | exact inv8 (by assumption) | exact inv8 HI.out.drew)
          (first | (go_at_call 12; go_split_ands; refine (words_I (by assumption) _).mono ?_; rintro e' w' ⟨rfl, hI⟩) | (go_at_call 13; go_split_ands; refine (isum_I (by assumption) HS.out.1.start HS.out.2.1 HS.out.2.2).mono ?_; rintro e' w' ⟨rfl, hI⟩) | (go_at_call 14; go_split_ands; refine (ssum_I (by assumption) HS.out.1 HS.out.2.1 HS.out.2.2 _).mono ?_; rintro e' w' ⟨rfl, hI⟩))
        go_split_ands
        clear he8
        go_wp2_with fail
        go_roundg (l.length - (i + 1))
        case measure => omega
        case rel => exact ⟨i + 1, g', c', n', ws', ta', rfl, by go_num, by omega, by omega, by omega, by assumption⟩
    · obtain rfl : i = l.length := by omega
      have HBR := Lib.hid (ibr_core wr HI.out.tab)
      have HF : Hid (Below w.heap.size w wr) := ⟨HI.out.keep.os.trans HBW.out.os, HI.out.keep.tape.trans HBW.out.tape, HI.out.keep.output.trans HBW.out.output, Nat.le_trans HBW.out.size HI.out.keep.size, fun k hk => (HI.out.keep.block k (by have := HZ.out; omega) (by omega)).trans (HBW.out.block k hk)⟩
      clear HI
      go_wp2_with (go_at_call 15; refine (HBR.out).mono ?_; rintro e' w' ⟨rfl, rfl⟩)
      go_ret
      exact ⟨rfl, HF.out⟩

end Go.Proofs.YtnopidgeigdibaaDoor
