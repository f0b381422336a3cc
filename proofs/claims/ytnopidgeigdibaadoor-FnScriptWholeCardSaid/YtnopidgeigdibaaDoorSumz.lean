/-
  summarize returns, packed into one word, how many pages are free at the start, in the longest run, and at the end. Conditions: the eight words are below 2^64 and lie behind the pointer, the table deBruijn64tab lies as laid.
-/
import Derived.Test.YtnopidgeigdibaaDoorPack
import Derived.Deep.LoopGhost
namespace Go.Proofs.YtnopidgeigdibaaDoor
open Go.RowKit

theorem and63_i64 (p : Nat) (h : p < 64) : bits BinOp.and IntKind.i64 (p : Int) 63 = (p : Int) := by
  have e : ∀ q : Fin 64, bits BinOp.and IntKind.i64 ((q.val : Nat) : Int) 63 = ((q.val : Nat) : Int) := by decide +kernel
  exact e ⟨p, h⟩

theorem solid_test (x : Nat) (hx : x < 18446744073709551616) : bits BinOp.and IntKind.u64 (x : Int) (IntKind.u64.wrap ((x : Int) + 1)) = ((x &&& (x + 1) % 18446744073709551616 : Nat) : Int) := by
  have e : IntKind.u64.wrap ((x : Int) + 1) = (((x + 1) % 18446744073709551616 : Nat) : Int) := by rw [IntKind.wrap_u64]; omega
  rw [e, bits_and_u64_nat x _ hx (by omega)]

/-- The code's test on x, decided. -/
theorem solid_yes {x : Nat} (hx : x < 18446744073709551616) (h : Solid x) : (bits BinOp.and IntKind.u64 (x : Int) (IntKind.u64.wrap ((x : Int) + 1)) == 0) = true := by
  rw [solid_test x hx, (solid_iff hx).2 h]; rfl
theorem solid_no {x : Nat} (hx : x < 18446744073709551616) (h : ¬ Solid x) : (bits BinOp.and IntKind.u64 (x : Int) (IntKind.u64.wrap ((x : Int) + 1)) == 0) = false := by
  rw [solid_test x hx, beq_eq_false_iff_ne]
  intro hc
  exact h ((solid_iff hx).1 (by omega))

theorem or_div (c q : Nat) (h : c < 18446744073709551616) : bits BinOp.or IntKind.u64 (c : Int) ((c : Int) / 2 ^ q) = ((c ||| c / 2 ^ q : Nat) : Int) := by
  have e : ((c : Int) / 2 ^ q) = ((c / 2 ^ q : Nat) : Int) := by simp
  rw [e, bits_or_u64_nat c (c / 2 ^ q) h (Nat.lt_of_le_of_lt (Nat.div_le_self _ _) h)]

theorem div_cast (c q : Nat) : ((c : Int) / 2 ^ q) = ((c / 2 ^ q : Nat) : Int) := by simp

theorem max_cast (a b : Nat) : max (a : Int) (b : Int) = ((max a b : Nat) : Int) := by omega

set_option maxRecDepth 100000 in
set_option maxHeartbeats 4000000 in
theorem sumz_core (ws : Nat → Nat) (hw : W64 ws) (s m e : Nat) (hs : IsStart (page ws) s) (hm : IsMax (page ws) m) (he : IsEnd (page ws) e) (b : Nat) (w : World) (hT : Tab w) (hc : At8 w b ws) :
    Calls Tryd.prog 29 #[.pointer (some ⟨b, 0, none⟩)] w fun e' w' => e' = .returned (.int .u64 (packed s m e : Nat)) ∧ w = w' := by
  have HT := Lib.hid hT
  have HS := Lib.hid hs
  have HM := Lib.hid hm
  have HE := Lib.hid he
  clear hT hs hm he
  have HP := Lib.hid pack_core
  go_enter Tryd.func29, Tryd.ntmps29
  go_wp2_with fail
  go_step3
  go_wp2_with fail
  go_loop [3, 4, 5, 6] (fun st mo cu i => ∃ (k sn mn cn : Nat), k ≤ 8 ∧ Hid (Ph ws k sn mn cn) ∧ st = .int .u64 sn ∧ mo = .int .u64 mn ∧ cu = .int .u64 cn ∧ i = .int .i64 k) (fun _ _ _ i => 8 - (intOf i).toNat)
  case atStart => exact ⟨0, 18446744073709551615, 0, 0, by omega, Ph.start ws, rfl, rfl, rfl, rfl⟩
  case round =>
    obtain ⟨k, sn, mn, cn, hk, HF, rfl, rfl, rfl, rfl⟩ := hrel
    have hc1 := HF.out.c1
    have hm1 := HF.out.m1
    by_cases hlt : k < 8
    · have hc := hc k hlt
      have hx := hw k hlt
      by_cases hz : ws k = 0
      · have HZ := Lib.hid (HF.out.zero hz)
        have hb : ((ws k : Int) == 0) = true := by rw [hz]; rfl
        clear hz
        generalize ws k = y at hc hb
        go_wp2_with fail
        go_round
        case rel => exact ⟨k + 1, sn, mn, cn + 64, by omega, HZ, rfl, rfl, by go_num, by go_num⟩
        case measure => simp [intOf]; omega
      · have hb : ((ws k : Int) == 0) = false := by rw [beq_eq_false_iff_ne]; omega
        obtain ⟨t, HZ, ht, hcall⟩ := tz_ex (ws k) hx
        obtain ⟨l, HL, hl64, hcalll⟩ := lz_ex (ws k) hx
        have HC := Lib.hid hcall
        have HCL := Lib.hid hcalll
        have htl : t < 64 := by
          apply Nat.lt_of_not_le
          intro hle
          exact hz (Nat.eq_of_testBit_eq fun i => by rw [Nat.zero_testBit]; by_cases hi : i < t; exact HZ.2.1 i hi; exact tb_high hx (by omega))
        clear hcall hcalll
        by_cases hsn : sn = 18446744073709551615
        · have hsb : ((sn : Int) == 18446744073709551615) = true := by rw [beq_iff_eq]; omega
          have HX := Lib.hid (HF.out.next (st' := cn + t) (most' := max mn (cn + t)) hlt HZ htl HL (by rw [if_pos hsn]) rfl).1
          clear hsn hz HZ HL
          go_wp2_with (first | (go_at_call 34; ((with_reducible refine (HC.out _ HT.out).mono ?_); rintro e w' ⟨rfl, rfl⟩)) | (go_at_call 37; ((with_reducible refine (HCL.out _).mono ?_); rintro e w' ⟨rfl, rfl⟩)))
          go_round
          case rel => exact ⟨k + 1, cn + t, max mn (cn + t), l, by omega, HX, by go_num, by rw [← max_cast, Int.natCast_add], rfl, by go_num⟩
          case measure => simp [intOf]; omega
        · have hsb : ((sn : Int) == 18446744073709551615) = false := by rw [beq_eq_false_iff_ne]; omega
          have HX := Lib.hid (HF.out.next (st' := sn) (most' := max mn (cn + t)) hlt HZ htl HL (by rw [if_neg hsn]) rfl).1
          clear hsn hz HZ HL
          go_wp2_with (first | (go_at_call 34; ((with_reducible refine (HC.out _ HT.out).mono ?_); rintro e w' ⟨rfl, rfl⟩)) | (go_at_call 37; ((with_reducible refine (HCL.out _).mono ?_); rintro e w' ⟨rfl, rfl⟩)))
          go_round
          case rel => exact ⟨k + 1, sn, max mn (cn + t), l, by omega, HX, rfl, by rw [← max_cast, Int.natCast_add], rfl, by go_num⟩
          case measure => simp [intOf]; omega
    · obtain rfl : k = 8 := by omega
      by_cases hsn : sn = 18446744073709551615
      · have hsb : ((sn : Int) == 18446744073709551615) = true := by rw [beq_iff_eq]; omega
        obtain ⟨q1, q2, q3⟩ := HF.out.all hsn
        obtain rfl := q1.uniq HS.out
        obtain rfl := q2.uniq HM.out
        obtain rfl := q3.uniq HE.out
        have HC := Lib.hid (HP.out 512 512 512 (by omega) (by omega) (by omega))
        clear hsn q1 q2 q3
        go_wp2_with (go_at_call 38; ((refine (HC.out _).mono ?_); rintro e w' ⟨rfl, rfl⟩))
        try rw [Exit.noGoto_ret]
        go_ret
        exact ⟨rfl, rfl⟩
      · have hsb : ((sn : Int) == 18446744073709551615) = false := by rw [beq_eq_false_iff_ne]; omega
        obtain ⟨q1, q3⟩ := HF.out.ends hsn
        obtain rfl := q1.uniq HS.out
        obtain rfl := q3.uniq HE.out
        have h2 := HF.out.second (most' := max mn cn) rfl
        have hmx : max (mn : Int) (cn : Int) = ((max mn cn : Nat) : Int) := max_cast mn cn
        have hs512 := q1.1
        generalize max mn cn = mx at h2 hmx
        have hmx512 := h2.m1
        clear hsn q1 q3
        by_cases h62 : 62 ≤ mx
        · obtain rfl := (h2.max hw h62).uniq HM.out
          have HC := Lib.hid (HP.out sn mx cn (by omega) (by omega) (by omega))
          clear h2 HF
          go_wp2_with (go_at_call 38; ((refine (HC.out _).mono ?_); rintro e w' ⟨rfl, rfl⟩))
          try rw [Exit.noGoto_ret]
          go_ret
          exact ⟨rfl, rfl⟩
        · have H2 := Lib.hid h2
          clear h2 HF
          go_wp2_with fail
          go_step3
          go_wp2_with fail
          clear hmx
          go_loopg [4, 10] 8 (fun g mo i w' => ∃ (k mn : Nat), k ≤ 8 ∧ 8 ≤ k + g ∧ mn ≤ 62 ∧ Hid (Ph2 ws k mn) ∧ mo = .int .u64 mn ∧ i = .int .i64 k ∧ Hid (w = w'))
          case atStart => exact ⟨0, mx, by omega, by omega, by omega, H2, rfl, rfl, rfl⟩
          case round =>
            clear H2 hmx512 h62
            obtain ⟨k, mn, hk, hkg, hmn, HF, rfl, rfl, hww⟩ := hrel
            obtain rfl := hww.out
            by_cases hlt : k < 8
            · have hc := hc k hlt
              have hx := hw k hlt
              have hne := HF.out.ne hw hmn k hlt
              obtain ⟨t, HZ, ht, hcall⟩ := tz_ex (ws k) hx
              obtain ⟨htl, hsh⟩ := Shr.start hx hne HZ hmn
              have HC := Lib.hid hcall
              have HN : Hid (∀ mn', Done (ws k) mn mn' → Ph2 ws (k + 1) mn' ∧ mn' ≤ 62) := fun mn' hd => ⟨HF.out.step hw hlt hd, hd.2.1⟩
              have ha := and63_i64 t htl
              have hd := div_cast (ws k) t
              clear hcall hne HF HZ
              have HX := Lib.hid hx
              clear hx
              generalize ws k = x0 at hc HC hsh HN hd HX
              generalize x0 / 2 ^ t = x1 at hsh hd
              have hx1 := hsh.lt
              by_cases hso : Solid x1
              · have hy := solid_yes hx1 hso
                have HD := Lib.hid (HN.out mn (hsh.done hso))
                clear hso hsh HN
                go_wp2_with (go_at_call 34; ((with_reducible refine (HC.out _ HT.out).mono ?_); rintro e' w' ⟨rfl, rfl⟩))
                go_roundg (8 - (k + 1))
                case measure => omega
                case rel => exact ⟨k + 1, mn, by omega, by omega, by omega, HD.out.1, rfl, by go_num, rfl⟩
              · have hy := solid_no hx1 hso
                have HSO := Lib.hid hso
                have HSH := Lib.hid hsh
                clear hso hsh
                go_wp2_with (go_at_call 34; ((with_reducible refine (HC.out _ HT.out).mono ?_); rintro e' w' ⟨rfl, rfl⟩))
                clear ha hd hy hc
                have HM0 := Lib.hid hmn
                clear hmn
                go_loopg [4, 11, 12, 13] 62 (fun g3 mo xv pv kv w' => ∃ (mn1 xn pn kn off sh : Nat), 62 ≤ mn1 + g3 ∧ Hid (Shr x0 mn mn1 xn pn kn off sh) ∧ Hid (¬ Solid xn) ∧ mo = .int .u64 mn1 ∧ xv = .int .u64 xn ∧ pv = .int .u64 pn ∧ kv = .int .u64 kn ∧ Hid (w = w'))
                case atStart => exact ⟨mn, x1, mn, 1, t, 0, by omega, HSH, HSO, rfl, rfl, rfl, rfl, rfl⟩
                case round =>
                  clear HSH HSO hx1
                  obtain ⟨mn1, xn, pn, kn, off, sh, hg3, HSH, HSO, rfl, rfl, rfl, rfl, hww⟩ := hrel
                  obtain rfl := hww.out
                  have G3 := Lib.hid hg3
                  clear hg3
                  go_wp2_with fail
                  go_loopg [11, 12, 13] pn (fun g4 xv pv kv w' => ∃ (x4 p4 k4 s4 : Nat), p4 ≤ g4 ∧ Hid (Shr x0 mn mn1 x4 p4 k4 off s4) ∧ Hid (¬ Solid x4) ∧ xv = .int .u64 x4 ∧ pv = .int .u64 p4 ∧ kv = .int .u64 k4 ∧ Hid (w = w'))
                  case atStart => exact ⟨xn, pn, kn, sh, by omega, HSH, HSO, rfl, rfl, rfl, rfl⟩
                  case round =>
                    clear HSH HSO
                    obtain ⟨x4, p4, k4, s4, hp4g, HSH, HSO, rfl, rfl, rfl, hww⟩ := hrel
                    obtain rfl := hww.out
                    have hx4 := HSH.out.lt
                    have hk41 := HSH.out.k1
                    have hsum4 := HSH.out.sum
                    have hsm4 := HSH.out.small
                    have hmn1 : mn1 ≤ 62 := hsm4
                    clear hsm4
                    have hp62 : p4 ≤ 62 := by omega
                    clear hsum4
                    by_cases hp : p4 = 0
                    · subst hp
                      have HSH5 := HSH
                      have HSO5 := HSO
                      clear HSH HSO
                      obtain ⟨j1, hz1, -, hcall1⟩ := tz_ex (cpl x4) (cpl_lt _)
                      obtain ⟨j2, hz2, -, hcall2⟩ := tz_ex (x4 / 2 ^ j1) (Nat.lt_of_le_of_lt (Nat.div_le_self _ _) HSH5.out.lt)
                      obtain ⟨hj1, hj2, hj3, hsh⟩ := HSH5.out.step HX.out HSO5.out hz1 hz2
                      have hx4 := HSH5.out.lt
                      have hN := not_eq x4 hx4
                      have hmn2 : mn1 + j2 ≤ 62 := hsh.small
                      have ha1 := and63 j1 hj1
                      have ha2 := and63 j2 (by omega)
                      have HC1 := Lib.hid hcall1
                      have HC2 := Lib.hid hcall2
                      have hd1 := div_cast x4 j1
                      have hd2 := div_cast (x4 / 2 ^ j1) j2
                      have hx6 := hsh.lt
                      clear hz1 hz2 hcall1 hcall2 HSH5 HSO5
                      generalize cpl x4 = y5 at hN HC1
                      generalize x4 / 2 ^ j1 = x7 at hd1 hd2 HC2 hsh hx6
                      generalize x7 / 2 ^ j2 = x6 at hd2 hsh hx6
                      by_cases hso : Solid x6
                      · have hy := solid_yes hx6 hso
                        have HD := Lib.hid (HN.out (mn1 + j2) (hsh.done hso))
                        clear hso hsh
                        go_wp2_with (first | (go_at_call 34; ((with_reducible refine (HC1.out _ HT.out).mono ?_); rintro e' w' ⟨rfl, rfl⟩)) | (go_at_call 34; ((with_reducible refine (HC2.out _ HT.out).mono ?_); rintro e' w' ⟨rfl, rfl⟩)))
                        go_roundg (8 - (k + 1))
                        case measure => omega
                        case rel => exact ⟨k + 1, mn1 + j2, by omega, by omega, by omega, HD.out.1, by go_num, by go_num, rfl⟩
                      · have hy := solid_no hx6 hso
                        have HSO6 := Lib.hid hso
                        have HSH6 := Lib.hid hsh
                        clear hso hsh
                        go_wp2_with (first | (go_at_call 34; ((with_reducible refine (HC1.out _ HT.out).mono ?_); rintro e' w' ⟨rfl, rfl⟩)) | (go_at_call 34; ((with_reducible refine (HC2.out _ HT.out).mono ?_); rintro e' w' ⟨rfl, rfl⟩)))
                        go_roundg (62 - (mn1 + j2))
                        case measure => have := G3.out; omega
                        case rel => exact ⟨mn1 + j2, x6, j2, _, _, _, by omega, HSH6, HSO6, by go_num, rfl, rfl, rfl, rfl⟩
                    · by_cases hpk : p4 ≤ k4
                      · have ha := and63 p4 (by omega)
                        have ho := or_div x4 p4 hx4
                        have hsh4 := HSH.out.more (q := p4) (k' := k4) hpk (Nat.le_refl _) hk41 (by have := HSH.out.ks; omega)
                        rw [Nat.sub_self] at hsh4
                        have hx5 := hsh4.lt
                        generalize x4 ||| x4 / 2 ^ p4 = x5 at ho hsh4 hx5
                        clear HSH HSO
                        by_cases hso4 : Solid x5
                        · have hy4 := solid_yes hx5 hso4
                          have HD := Lib.hid (HN.out mn1 (hsh4.done hso4))
                          clear hso4 hsh4
                          go_wp2_with fail
                          go_roundg (8 - (k + 1))
                          case measure => omega
                          case rel => exact ⟨k + 1, mn1, by omega, by omega, by omega, HD.out.1, rfl, by go_num, rfl⟩
                        · have hy4 := solid_no hx5 hso4
                          have HSO5 := Lib.hid hso4
                          have HSH5 := Lib.hid hsh4
                          clear hso4 hsh4
                          clear hx5
                          obtain ⟨j1, hz1, -, hcall1⟩ := tz_ex (cpl x5) (cpl_lt _)
                          obtain ⟨j2, hz2, -, hcall2⟩ := tz_ex (x5 / 2 ^ j1) (Nat.lt_of_le_of_lt (Nat.div_le_self _ _) HSH5.out.lt)
                          obtain ⟨hj1, hj2, hj3, hsh⟩ := HSH5.out.step HX.out HSO5.out hz1 hz2
                          have hx5 := HSH5.out.lt
                          have hN := not_eq x5 hx5
                          have hmn2 : mn1 + j2 ≤ 62 := hsh.small
                          have ha1 := and63 j1 hj1
                          have ha2 := and63 j2 (by omega)
                          have HC1 := Lib.hid hcall1
                          have HC2 := Lib.hid hcall2
                          have hd1 := div_cast x5 j1
                          have hd2 := div_cast (x5 / 2 ^ j1) j2
                          have hx6 := hsh.lt
                          clear hz1 hz2 hcall1 hcall2 HSH5 HSO5
                          generalize cpl x5 = y5 at hN HC1
                          generalize x5 / 2 ^ j1 = x7 at hd1 hd2 HC2 hsh hx6
                          generalize x7 / 2 ^ j2 = x6 at hd2 hsh hx6
                          by_cases hso : Solid x6
                          · have hy := solid_yes hx6 hso
                            have HD := Lib.hid (HN.out (mn1 + j2) (hsh.done hso))
                            clear hso hsh
                            go_wp2_with (first | (go_at_call 34; ((with_reducible refine (HC1.out _ HT.out).mono ?_); rintro e' w' ⟨rfl, rfl⟩)) | (go_at_call 34; ((with_reducible refine (HC2.out _ HT.out).mono ?_); rintro e' w' ⟨rfl, rfl⟩)))
                            go_roundg (8 - (k + 1))
                            case measure => omega
                            case rel => exact ⟨k + 1, mn1 + j2, by omega, by omega, by omega, HD.out.1, by go_num, by go_num, rfl⟩
                          · have hy := solid_no hx6 hso
                            have HSO6 := Lib.hid hso
                            have HSH6 := Lib.hid hsh
                            clear hso hsh
                            go_wp2_with (first | (go_at_call 34; ((with_reducible refine (HC1.out _ HT.out).mono ?_); rintro e' w' ⟨rfl, rfl⟩)) | (go_at_call 34; ((with_reducible refine (HC2.out _ HT.out).mono ?_); rintro e' w' ⟨rfl, rfl⟩)))
                            go_roundg (62 - (mn1 + j2))
                            case measure => have := G3.out; omega
                            case rel => exact ⟨mn1 + j2, x6, j2, _, _, _, by omega, HSH6, HSO6, by go_num, rfl, rfl, rfl, rfl⟩
                      · have ha := and63 k4 (by omega)
                        have ho := or_div x4 k4 hx4
                        have hsh4 := HSH.out.more (q := k4) (k' := 2 * k4) (Nat.le_refl _) (by omega) (by omega) (by have := HSH.out.ks; omega)
                        have hx5 := hsh4.lt
                        generalize x4 ||| x4 / 2 ^ k4 = x5 at ho hsh4 hx5
                        clear HSH HSO
                        by_cases hso4 : Solid x5
                        · have hy4 := solid_yes hx5 hso4
                          have HD := Lib.hid (HN.out mn1 (hsh4.done hso4))
                          clear hso4 hsh4
                          go_wp2_with fail
                          go_roundg (8 - (k + 1))
                          case measure => omega
                          case rel => exact ⟨k + 1, mn1, by omega, by omega, by omega, HD.out.1, rfl, by go_num, rfl⟩
                        · have hy4 := solid_no hx5 hso4
                          have HSO5 := Lib.hid hso4
                          have HSH5 := Lib.hid hsh4
                          clear hso4 hsh4
                          go_wp2_with fail
                          go_roundg (p4 - k4)
                          case measure => omega
                          case rel => exact ⟨x5, p4 - k4, 2 * k4, _, by omega, HSH5, HSO5, rfl, by rw [Int.ofNat_sub (by omega)], by rw [Int.mul_comm]; rfl, rfl⟩
            · obtain rfl : k = 8 := by omega
              obtain rfl := HF.out.last.uniq HM.out
              have HC := Lib.hid (HP.out sn mn cn (by omega) (by omega) (by omega))
              go_wp2_with (go_at_call 38; ((refine (HC.out _).mono ?_); rintro e' w' ⟨rfl, rfl⟩))
              try rw [Exit.noGoto_ret]
              go_ret
              exact ⟨rfl, rfl⟩

end Go.Proofs.YtnopidgeigdibaaDoor
