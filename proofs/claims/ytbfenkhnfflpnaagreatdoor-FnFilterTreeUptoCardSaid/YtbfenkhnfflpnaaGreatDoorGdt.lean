/- Lemmas for FnFilterTree (facts of the row and a witness); each condition stands in its statement. -/
import Derived.Test.YtbfenkhnfflpnaaGreatDoorGbd
import Derived.Test.YtbfenkhnfflpnaaGreatDoorTie
import Derived.Carry
import Derived.WalkKit
import Derived.ProofKit
import Derived.OpenShut
import Derived.Lay
import Derived.LaidMore
import Derived.SevenTiedAt
import Derived.Deep.DeepHandedRow
import Derived.Stop.Joined
namespace Go.Proofs.YtbfenkhnfflpnaaGreatDoor.Sx
open Go Go.RowKit Go.ChangeShapes Go.WideShapes Go.ChangeAt
set_option maxRecDepth 100000
set_option maxHeartbeats 40000000
set_option linter.unusedVariables false
theorem lawOwn : ownKnob Tryz.prog.godebug = none := by kernel_rfl
theorem lawOut : laidOutB Tryz.prog = true := by kernel_rfl
theorem lawRead : Tryz.prog.readableRec 24 = true ∧ Tryz.prog.readableRec 3 = true := ⟨by kernel_rfl, by kernel_rfl⟩
/-- What the walk gives, for every argument of the row. -/
noncomputable abbrev lawArgs : Array Value := #[.agg #[.int .i64 0, .string .empty, .string .empty, .string .empty, .int .i64 0, .slice none 0 0], .int .i64 0]
noncomputable abbrev lawW (os : Os) : World := (World.laidAll Tryz.prog os Rows.fnFilterTreeUptoRow.laid).forCall (fun _ _ => 0) ⟨#[], lawArgs, []⟩
theorem lawMet (os : Os) : laidMetH Tryz.prog Rows.fnFilterTreeUptoRow.laid (lawW os).memory := by
  rw [MakeChecks.laidMetH_plain _ _ _ (by kernel_rfl)]
  exact laidMet_laidAll _ (by kernel_rfl) (by kernel_rfl)
theorem lawShaped (os : Os) : (lawW os).Shaped Tryz.prog := World.shaped_of_ZipB (by kernel_rfl) (by kernel_rfl)
theorem lawReads (os : Os) {H : Type} (enc : TypeId × Value → H) : ∃ places, DataW.whole enc Tryz.prog (lawW os).memory Tryz.f3.params.toList Rows.fnFilterTreeSpec.vars false lawArgs.toList 8 =
    some ([.agg [.lit (.int .i64 0), .lit (.string []), .lit (.string []), .lit (.string []), .lit (.int .i64 0), .nil], .lit (.int .i64 0)], [], places) :=
  ⟨[], by kernel_rfl⟩
theorem lawWitness (os : Os) {H : Type} (enc : TypeId × Value → H) : ∃ (w : World) (tape : Tape) (i : Input), w.os = os ∧ World.Shaped Tryz.checked.prog (w.forCall tape i) ∧ i.vars = [] ∧
    Input.okWide Tryz.checked.prog (w.forCall tape i) .any w.heap.size 3 i ∧
    OpenSpec.preRow enc Tryz.checked.prog Tryz.f3 (Rows.OpenSpec.upto Rows.fnFilterTreeSpec) Rows.fnFilterTreeUptoRow.domain false Rows.fnFilterTreeUptoRow.laid (w.forCall tape i).memory i.args ∧
    ({} : Assume).holds Tryz.checked.prog (lone (Frame.enter Tryz.checked.prog 3 i.args .normal) [] (w.forCall tape i)) := by
  obtain ⟨places, hx⟩ := lawReads os enc
  have hok : Input.okWideB Tryz.prog (lawW os) 3 ⟨#[], lawArgs, []⟩ = true := by kernel_rfl
  refine ⟨World.laidAll Tryz.prog os Rows.fnFilterTreeUptoRow.laid, fun _ _ => 0, ⟨#[], lawArgs, []⟩, World.laidAll_os _ _ _, lawShaped os, (Input.okWide_of_okWideB (base := 0) hok).1, (Input.okWide_of_okWideB hok).2,
    OpenSpec.preRow_of_cond 8 hx (by kernel_rfl) (fun k hk => by cases hk; kernel_rfl) (by kernel_rfl) (lawMet os), ?_⟩
  simp only [Assume.holds]
  simp
theorem lawPlain (f : FuncId) (fn : Func) (hf : Tryz.pinned.checked.prog.funcNamed "given.example/pub-palinode/laws.FnFilterTree" = some f) (hfn : Tryz.pinned.checked.prog.funcs[f]? = some fn) :
    true = Tryz.pinned.checked.prog.looks [] ∧ ∀ (j : Nat) t, fn.params[j]? = some t → Tryz.pinned.checked.prog.wantsStandIn t = false := by
  obtain rfl : f = 3 := Option.some.inj ((show Tryz.prog.funcNamed "given.example/pub-palinode/laws.FnFilterTree" = some 3 by kernel_rfl).symm.trans hf) |>.symm
  obtain rfl : fn = Tryz.f3 := (Option.some.inj (Tryz.func3.symm.trans hfn)).symm
  refine ⟨by kernel_rfl, fun j t ht => ?_⟩
  rw [Tryz.params3] at ht
  have hm : t ∈ [24, 3] := by simpa using Array.mem_of_getElem? ht
  have hall : ([24, 3].all fun u => !Tryz.prog.wantsStandIn u) = true := by kernel_rfl
  exact (show Tryz.prog.wantsStandIn t = false by simpa using List.all_eq_true.1 hall t hm)
end Go.Proofs.YtbfenkhnfflpnaaGreatDoor.Sx
