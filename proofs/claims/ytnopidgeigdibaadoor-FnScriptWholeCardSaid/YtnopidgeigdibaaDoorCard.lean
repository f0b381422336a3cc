/-
  For every input the law FnScriptWhole returns true and its argument reads afterwards as it read before: the tied card. Condition: the table deBruijn64tab of the library lies at the call's beginning as the program's text lays it (the card ties it).
-/
import Derived.Test.YtnopidgeigdibaaDoorCards
import Derived.Test.YtnopidgeigdibaaDoorTie
import Derived.WalkKit
import Derived.ProofKit
import Derived.OpenShut
import Derived.ShutString
import Derived.ChangeOld
import Derived.Below
import Derived.Deep.DeepHandedRow
import Derived.Lib.LaidTab
import Derived.Test.YtnopidgeigdibaaDoorScr
import Derived.Test.YtnopidgeigdibaaDoorLaw1
namespace Go.Proofs.YtnopidgeigdibaaDoor.fnScriptWhole
open Go.ChangeShapes Go.WideShapes Go.ChangeAt Go.RowKit

theorem own : ownKnob Tryd.prog.godebug = none := by kernel_rfl
theorem laidOut : laidOutB Tryd.prog = true := by kernel_rfl
theorem gTab : Tryd.prog.globalNamed "math/bits.deBruijn64tab" = some 0 := by kernel_rfl
theorem gTabType : (Tryd.prog.globals[0]?).map (·.type) = some 71 := by kernel_rfl
theorem cells71 : Tryd.prog.cellsOf 71 = 64 := by kernel_rfl
theorem cells5 : Tryd.prog.cellsOf 5 = 1 := by kernel_rfl

/-- What the row's list gives: the table's cells hold its sixty-four numbers. -/
theorem table {W : World} (h : laidMetH Tryd.prog Rows.fnScriptWholeRow.laid W) : Lib.TabIs Tryd.prog W "math/bits.deBruijn64tab" .u8 (Lib.deBruijn64tab.map Int.ofNat) :=
  Lib.tabIs_of_head (rest := []) gTab gTabType Tryd.underlying71 Tryd.underlying5 cells5 cells71 h

theorem tab_of {W : World} (h : laidMetH Tryd.prog Rows.fnScriptWholeRow.laid W) : Tab W := by
  intro j hj
  have h1 := (table h).cell gTab j (by simpa using hj)
  rw [h1]
  simp [List.getD, hj]

/-- A slice of integers that came in: nil, or a row of 'cap' cells, the first 'len' of them its elements. -/
def IsRow (k : IntKind) (w : World) (a : Option Addr) (len cap : Nat) (zs : List Int) : Prop :=
  (a = none ∧ len = 0 ∧ cap = 0 ∧ zs = []) ∨
  ∃ x, a = some x ∧ len ≤ cap ∧ cap ≤ maxLen ∧ zs.length = cap ∧ (∀ i, i < zs.length → w.cell? (x.add i) = some (.int k (zs.getD i 0))) ∧ ∀ n ∈ zs, (Lit.int k n).wf = true

/-- An input longer than the law looks at: it answers at once. -/
theorem walk_long (A0 : Option Addr) (len cap : Nat) (hlen : 2147483647 < len) (w : World) :
    Calls Tryd.prog 3 #[.slice A0 len cap] w fun e w' => e = .returned (.bool true) ∧ Below w.heap.size w w' := by
  have hlb : decide ((2147483647 : Int) < len) = true := by simp; omega
  go_enter Tryd.func3, Tryd.ntmps3
  go_wp2
  go_ret
  exact ⟨rfl, Below.refl _ _⟩

/-- A byte's number. -/
theorem u8_wf {n : Int} (h : (Lit.int .u8 n).wf = true) : 0 ≤ n ∧ n ≤ 255 := by
  simp only [Lit.wf, Bool.and_eq_true, decide_eq_true_eq] at h
  exact h

/-- An input of no bytes holds no step. -/
theorem script_zero (A : Option Addr) (cap : Nat) (w : World) : Calls Tryd.prog 5 #[.slice A 0 cap] w (Steps w) := by
  go_enter Tryd.func5, Tryd.ntmps5
  go_wp2_with fail
  go_loopw [3, 4] (fun out v wr => out = .slice none 0 0 ∧ v = .int .i64 0 ∧ Hid (wr = w)) (fun _ v _ => 200 - (intOf v).toNat)
  case atStart => exact ⟨rfl, rfl, rfl⟩
  case round =>
    obtain ⟨rfl, rfl, HW⟩ := hrel
    go_wp2_with fail
    go_ret
    exact ⟨[], .slice none 0 0, rfl, by simp, stOk_nil, ⟨rfl, Or.inl ⟨rfl, rfl⟩⟩, by rw [HW.out]; exact Below.refl _ _⟩

/-- The law, at every argument and every world that holds the table. -/
theorem walk (a0 : Option Addr) (len0 cap0 : Nat) (z0 : List Int) (w : World) (hT : Tab w) (w0 : IsRow .u8 w a0 len0 cap0 z0) :
    Calls Tryd.prog 3 #[.slice a0 len0 cap0] w fun e w' => e = .returned (.bool true) ∧ Below w.heap.size w w' := by
  by_cases hl : 2147483647 < len0
  · exact walk_long a0 len0 cap0 hl w
  · rcases w0 with ⟨rfl, rfl, rfl, rfl⟩ | ⟨x, rfl, hlc, hcm, hzl, hc, hwf⟩
    · exact law_core _ 0 0 none rfl (by omega) w hT fun w1 _ => script_nil w1
    · refine law_core _ len0 cap0 (some x) rfl (by omega) w hT fun w1 hb => ?_
      by_cases h0 : len0 = 0
      · subst h0; exact script_zero _ _ w1
      · obtain ⟨b, off, spot⟩ := x
        have hs : spot = none := by
          cases spot with
          | none => rfl
          | some s =>
            have h1 := hc 0 (by omega)
            simp only [Addr.add, if_pos, World.cell?] at h1
            split at h1 <;> simp at h1
        subst hs
        have hw1 : ∀ j, j < len0 → w.cell? ⟨b, off + j, none⟩ = some (.int .u8 (z0.getD j 0)) := by
          intro j hj
          have h1 := hc j (by omega)
          unfold Addr.add at h1
          split at h1
          · next h2 => subst h2; exact h1
          · exact h1
        have hbl : b < w.heap.size := by
          have h1 := hw1 0 (by omega)
          by_cases hb' : b < w.heap.size
          · exact hb'
          · simp [World.cell?, Array.getElem?_eq_none (Nat.le_of_not_lt hb')] at h1
        refine script_core len0 cap0 b off (fun j => (z0.getD j 0).toNat) (by omega) ?_ w1 ?_
        · intro j hj
          have := u8_wf (hwf (z0.getD j 0) (by simp [List.getD, show j < z0.length by omega]))
          show (z0.getD j 0).toNat ≤ 255
          omega
        · intro j hj
          have := u8_wf (hwf (z0.getD j 0) (by simp [List.getD, show j < z0.length by omega]))
          rw [hb.cell (p := ⟨b, off + j, none⟩) hbl, hw1 j hj]
          show _ = some (Value.int .u8 (((z0.getD j 0).toNat : Nat) : Int))
          rw [show (((z0.getD j 0).toNat : Nat) : Int) = z0.getD j 0 by omega]

/-- What the walk gives, for every argument and every world that holds the table. -/
theorem contract (H : Type) (enc : TypeId × Value → H) (W : World) (base : Nat) (args : Array Value) (ds gs : List (DataW H)) (before : List MemPlace)
    (hval : ∀ (j : Nat) t v, Tryd.f3.params[j]? = some t → args[j]? = some v → Value.okWide Tryd.prog W .any base t v)
    (hW : DataW.Whole enc Tryd.prog Tryd.f3.params.toList Rows.fnScriptWholeSpec.vars false W args.toList ds gs before) (hL : laidMetH Tryd.prog Rows.fnScriptWholeRow.laid W) :
    Calls Tryd.prog 3 args W fun e W' => ∃ v, e = .returned v ∧ Rows.fnScriptWholeSpec.post enc Tryd.prog Tryd.f3 false true false false W args v W' := by
  have hW' := hW
  obtain ⟨p, q, hA0, hV, rfl, hfz, hnd⟩ := hW
  have hA : DataW.TrodAll enc Tryd.prog W 0 (fun _ => true) true Tryd.f3.params.toList args.toList ds p := hA0
  rw [Tryd.params3] at hA hval
  obtain ⟨v0, vs0, d0, ds0, p0, q0, hargs, rfl, rfl, h0, r0⟩ := trodAll_cons hA
  obtain ⟨rfl, rfl, rfl⟩ := trodAll_nil r0
  obtain rfl : args = #[v0] := by cases args; simp_all
  obtain ⟨rfl, rfl⟩ := trodVars_none hV
  obtain ⟨a0, len0, cap0, rfl⟩ := okWide_slice Tryd.underlying22 (hval 0 22 v0 rfl rfl)
  have k0 := h0
  have lt0 : ∀ x ∈ p0, x.block < W.heap.size := by obtain ⟨m, hm⟩ := k0; exact DataW.trod_lt m _ _ _ hm
  obtain ⟨z0, w0⟩ : ∃ zs, IsRow .u8 W a0 len0 cap0 zs := by
    obtain ⟨fuel, hf⟩ := h0
    rcases open_ints Tryd.underlying22 Tryd.underlying5 (by kernel_rfl) hf with ⟨hcs, _⟩ | ⟨x, l, c, zs, hcs, _, hl, hm, hz, _, hcell, hwz⟩
    · simp [Value.cells] at hcs
      obtain ⟨rfl, rfl, rfl⟩ := hcs
      exact ⟨[], .inl ⟨rfl, rfl, rfl, rfl⟩⟩
    · simp [Value.cells] at hcs
      obtain ⟨rfl, rfl, rfl⟩ := hcs
      exact ⟨zs, .inr ⟨_, rfl, hl, hm, by simpa using hz, hcell, hwz⟩⟩
  clear hA0
  refine (walk a0 len0 cap0 z0 W (tab_of hL) w0).mono fun e W' ⟨he, bel⟩ => ?_
  subst he
  exact ⟨_, rfl, _, _, _, [], _, [], hW', trodAll_mk1 (shut_bool Tryd.underlying4 _), (trodAll_cons_mk (Below.trod laidOut (by kernel_rfl) (of_decide_eq_true (by kernel_rfl)) k0 bel lt0) trodAll_mk0), rfl, bel.frame _, fun h => by cases h⟩

/-- A world for the witness: the settled one, the table (block 0) holding what its initialiser lays. -/
noncomputable def laidWorld (os : Os) : World :=
  { World.holding Tryd.prog os ⟨#[], #[], []⟩ with heap := (World.holding Tryd.prog os ⟨#[], #[], []⟩).heap.modify 0 fun
      | .cells _ t frozen => .cells (Lib.deBruijn64tab.map fun n => Value.int .u8 (Int.ofNat n)).toArray t frozen
      | o => o }
theorem laid_met (os : Os) : laidMet Tryd.prog Rows.fnScriptWholeRow.laid ((laidWorld os).forCall (fun _ _ => 0) ⟨#[], #[.slice none 0 0], []⟩).memory :=
  laidMet_of_run' 8 (by kernel_rfl) (by kernel_rfl)
theorem reads (os : Os) {H : Type} (enc : TypeId × Value → H) : ∃ places, DataW.whole enc Tryd.prog ((laidWorld os).forCall (fun _ _ => 0) ⟨#[], #[.slice none 0 0], []⟩).memory Tryd.f3.params.toList Rows.fnScriptWholeSpec.vars false #[Value.slice none 0 0].toList 8 = some ([.nil], [], places) :=
  ⟨[], by kernel_rfl⟩

set_option maxRecDepth 100000 in
/-- The row's step. -/
theorem lifted (os : Os) (started : os.Started) (H : Type) (enc : TypeId × Value → H) (F : Stop.Interp) :
    ReturnsInHanded {} Tryd.checked os 3 .any ((OpenSpec.ofChange Rows.fnScriptWholeSpec).preRow enc Tryd.prog Tryd.f3 Rows.fnScriptWholeRow.domain false Rows.fnScriptWholeRow.laid) (((OpenSpec.ofChange Rows.fnScriptWholeSpec).at F).post enc Tryd.prog Tryd.f3 false true false false) := by
  obtain ⟨places, hx⟩ := reads os enc
  refine returnsInHanded_of_row (C := Tryd.checked) (s := OpenSpec.ofChange Rows.fnScriptWholeSpec) own started (by kernel_rfl) Tryd.func3
    (witness_row_at (enc := enc) (C := Tryd.checked) false (laidWorld os) #[.slice none 0 0] rfl (by kernel_rfl) (by kernel_rfl) (by kernel_rfl)
      (OpenSpec.preRow_of_cond 8 hx (by kernel_rfl) (fun k hk => by cases hk) (by kernel_rfl) (laid_met os))) ?_
  intro W base args ds gs before hval hW _ _ _ hL _ _
  exact contract H enc W base args ds gs before hval hW hL

theorem said : Rows.FnScriptWholeSaid :=
  OpenClaim.holds_of_cond 3 Tryd.f3 rfl rfl rfl rfl rfl rfl rfl ⟨rfl, rfl, rfl, rfl, rfl⟩ rfl rfl rfl rfl rfl (by kernel_rfl) Tryd.func3 (by kernel_rfl)
    (of_decide_eq_true (by kernel_rfl)) (by unfold Func.isWrapper; first | (rw [if_pos (by decide +kernel)]; kernel_rfl) | (rw [if_neg (by decide +kernel)]; exact ⟨rfl, rfl⟩))
    (fun os started H enc _ F => by rw [OpenClaim.pre_eq_preRow]; exact lifted os started H enc F)

/-- No parameter wants a stand-in; the program's own looks are off: what the card asks. -/
theorem plain (f : FuncId) (fn : Func) (hf : Tryd.pinned.checked.prog.funcNamed "loop.example/pub-pagescripts/laws.FnScriptWhole" = some f) (hfn : Tryd.pinned.checked.prog.funcs[f]? = some fn) :
    false = Tryd.pinned.checked.prog.looks [] ∧ ∀ (j : Nat) t, fn.params[j]? = some t → Tryd.pinned.checked.prog.wantsStandIn t = false := by
  obtain rfl : f = 3 := Option.some.inj ((show Tryd.prog.funcNamed "loop.example/pub-pagescripts/laws.FnScriptWhole" = some 3 by kernel_rfl).symm.trans hf) |>.symm
  obtain rfl : fn = Tryd.f3 := (Option.some.inj (Tryd.func3.symm.trans hfn)).symm
  refine ⟨by kernel_rfl, fun j t ht => ?_⟩
  rw [Tryd.params3] at ht
  obtain rfl : t = 22 := by simpa using Array.mem_of_getElem? ht
  exact (show Tryd.prog.wantsStandIn 22 = false by kernel_rfl)

/-- The tied card. -/
theorem card : Rows.FnScriptWholeCardSaid :=
  Claim7.holds_tied_plain_at .later [] _ _ _ _ said (fun _ h => by cases h) (by kernel_rfl) (fun _ h => by cases h) fnScriptWhole_row_tie rfl ⟨rfl, rfl⟩ (by kernel_rfl) rfl plain (by kernel_rfl)
end Go.Proofs.YtnopidgeigdibaaDoor.fnScriptWhole

namespace Go.Proofs.YtnopidgeigdibaaDoor
/-- The statement. -/
theorem fnScriptWhole_card : Rows.FnScriptWholeCardSaid := fnScriptWhole.card
#print axioms fnScriptWhole_card
end Go.Proofs.YtnopidgeigdibaaDoor
