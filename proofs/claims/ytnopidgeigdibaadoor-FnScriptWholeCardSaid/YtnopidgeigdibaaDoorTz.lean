/-
  The library's TrailingZeros64 returns the number of trailing zero bits (64 at 0), LeadingZeros64 the number of leading ones' places that are zero. Conditions: the table deBruijn64tab lies in variable 0 as its initialiser lays it; the argument is below 2^64.
-/
import Derived.Test.YtnopidgeigdibaaDoorProg
import Derived.Test.YtnopidgeigdibaaDoorNums
import Derived.WalkKit
import Derived.WalkSpells
import Derived.Lib.Hide
import Derived.Shelf.Small.Bits
import Derived.Shelf.Strconv.Itoa0
import Derived.Shelf.Spec.TrailingZeros
namespace Go.Proofs.YtnopidgeigdibaaDoor
open Go.RowKit

/-- The table in its variable. -/
def Tab (w : World) : Prop := ∀ j, j < Lib.deBruijn64tab.length → w.cell? ⟨0, j, none⟩ = some (.int .u8 (Lib.deBruijn64tab.getD j 0))

theorem tz_zero (w : World) : Calls Tryd.prog 34 #[.int .u64 0] w fun e w' => e = .returned (.int .i64 64) ∧ w = w' := by
  go_enter Tryd.func34, Tryd.ntmps34
  go_wp2
  go_ret
  exact ⟨rfl, rfl⟩

theorem tz_core (x k idx : Nat) (w : World) (hx0 : ((x : Int) == 0) = false)
    (key : IntKind.u64.wrap (bits BinOp.and IntKind.u64 (x : Int) (IntKind.u64.wrap (-(x : Int))) * 285870213051353865) / 288230376151711744 = (idx : Int))
    (hi : idx < 64) (hk : k < 64) (hcell : w.cell? ⟨0, idx, none⟩ = some (.int .u8 k)) :
    Calls Tryd.prog 34 #[.int .u64 x] w fun e w' => e = .returned (.int .i64 k) ∧ w = w' := by
  go_enter Tryd.func34, Tryd.ntmps34
  go_wp2_with (simp only [key])
  go_ret
  exact ⟨rfl, rfl⟩

theorem tz_any (x : Nat) (hx : x < 18446744073709551616) (w : World) (hT : Tab w) :
    Calls Tryd.prog 34 #[.int .u64 x] w fun e w' => e = .returned (.int .i64 (Lib.ctz 64 x)) ∧ w = w' := by
  by_cases hx0 : x = 0
  · subst hx0
    exact tz_zero w
  · obtain ⟨hlow, hk⟩ := Lib.lowest_bit 64 x hx0 hx
    obtain ⟨hi, htab⟩ := Lib.deBruijn64_at _ hk
    have hcell := hT _ hi
    rw [htab] at hcell
    exact tz_core x _ _ w (by simp; omega) (tz64_key x _ hx hx0 hlow) hi hk hcell

/-- The same, its number under a name. -/
theorem tz_ex (x : Nat) (hx : x < 18446744073709551616) : ∃ t : Nat, IsTz x t ∧ t ≤ 64 ∧ ∀ w, Tab w →
    Calls Tryd.prog 34 #[.int .u64 x] w fun e w' => e = .returned (.int .i64 t) ∧ w = w' :=
  ⟨_, ctz_is x hx, (ctz_is x hx).1, fun w hT => tz_any x hx w hT⟩

/- The library's contract of LeadingZeros64, met at this program's numbers (laid by the kit's lay-plain.mjs). -/
def lays134_ren : Go.Shelf.Ren := ⟨fun | 134 => 37 | 129 => 41 | n => n, fun | 53 => 23 | 3 => 3 | 4 => 4 | 46 => 34 | 5 => 5 | 9 => 9 | n => n, fun | n => n⟩
theorem lays134 : Go.Proofs.Lays.n134 Tryd.prog lays134_ren := {
  mixed := by kernel_rfl
  f129 := Tryd.func41.trans (congrArg some (by kernel_rfl))
  f134 := Tryd.func37.trans (congrArg some (by kernel_rfl))
  t3 := Tryd.underlying3
  a3 := Tryd.isAgg3
  z3 := Tryd.sizeOf3
  v3 := Tryd.zeroValue3
  t4 := Tryd.underlying4
  a4 := Tryd.isAgg4
  z4 := Tryd.sizeOf4
  v4 := Tryd.zeroValue4
  t5 := Tryd.underlying5
  a5 := Tryd.isAgg5
  z5 := Tryd.sizeOf5
  v5 := Tryd.zeroValue5
  t9 := Tryd.underlying9
  a9 := Tryd.isAgg9
  z9 := Tryd.sizeOf9
  v9 := Tryd.zeroValue9
  t46 := Tryd.underlying34
  a46 := Tryd.isAgg34
  z46 := Tryd.sizeOf34
  v46 := Tryd.zeroValue34
  t53 := Tryd.underlying23
  a53 := Tryd.isAgg23
  z53 := Tryd.sizeOf23
  v53 := Tryd.zeroValue23 }

/-- LeadingZeros64, its number under a name. -/
theorem lz_ex (x : Nat) (hx : x < 18446744073709551616) : ∃ l : Nat, IsLz x l ∧ l ≤ 64 ∧ ∀ w,
    Calls Tryd.prog 37 #[.int .u64 x] w fun e w' => e = .returned (.int .i64 l) ∧ w = w' := by
  obtain ⟨h, hl⟩ := lz_is x hx
  refine ⟨_, h, h.1, fun w => (Any.bits_LeadingZeros64 lays134 (x : Int) w (by omega) (by omega)).mono fun e w' he => ?_⟩
  obtain ⟨he, hw⟩ := he
  refine ⟨?_, hw.symm⟩
  rw [he, Int.toNat_natCast, Int.ofNat_sub hl]
  rfl

end Go.Proofs.YtnopidgeigdibaaDoor
