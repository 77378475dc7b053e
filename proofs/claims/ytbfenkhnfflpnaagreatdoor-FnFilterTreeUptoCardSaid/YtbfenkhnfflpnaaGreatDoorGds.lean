/-
  For every tree and every kind, where what is read is of bulk at most 1048576, the law FnFilterTree returns true and leaves its arguments as they were: the given statement of the second form, as a tied card.
  Conditions: those of the row alone (the listed package-level variables hold what the program's text lays in them; the bound on the bulk).
-/
import Derived.Test.YtbfenkhnfflpnaaGreatDoorGcn
import Derived.Test.YtbfenkhnfflpnaaGreatDoorGdr
import Derived.Test.YtbfenkhnfflpnaaGreatDoorGdt
namespace Go.Proofs.YtbfenkhnfflpnaaGreatDoor.Sx
open Go Go.RowKit Go.ChangeShapes Go.WideShapes Go.ChangeAt
set_option maxRecDepth 100000
set_option maxHeartbeats 40000000
set_option linter.unusedVariables false
theorem lawContract (H : Type) (enc : TypeId × Value → H) (W : World) (base : Nat) (args : Array Value) (ds gs : List (DataW H)) (before : List MemPlace)
    (hval : ∀ (j : Nat) t v, Tryz.f3.params[j]? = some t → args[j]? = some v → Value.okWide Tryz.prog W .any base t v)
    (hW : DataW.Whole enc Tryz.prog Tryz.f3.params.toList Rows.fnFilterTreeSpec.vars false W args.toList ds gs before) (hk : Rows.uptoSmall H (ds ++ gs) = true)
    (hL : laidMetH Tryz.prog Rows.fnFilterTreeUptoRow.laid W) :
    Calls Tryz.prog 3 args W fun e W' => ∃ v, e = .returned v ∧ Rows.fnFilterTreeSpec.post enc Tryz.prog Tryz.f3 false true false false W args v W' := by
  have hW' := hW
  obtain ⟨p, q, hA0, hV, rfl, hfz, hnd⟩ := hW
  have hA : DataW.TrodAll enc Tryz.prog W 0 (fun _ => true) true Tryz.f3.params.toList args.toList ds p := hA0
  have hlt := hA.lt
  rw [Tryz.params3] at hA hval
  obtain ⟨v0, vs0, d0, ds0, p0, q0, hargs, rfl, rfl, h0, r0⟩ := trodAll_cons hA
  obtain ⟨v1, vs1, d1, ds1, p1, q1, hargs1, rfl, rfl, h1, r1⟩ := trodAll_cons r0
  obtain ⟨rfl, rfl, rfl⟩ := trodAll_nil r1
  subst hargs1
  obtain rfl : args = #[v0, v1] := by cases args; simp_all
  obtain ⟨rfl, rfl⟩ := trodVars_none hV
  have hbulk : Rows.uptoBulkAll ([d0, d1] ++ []) ≤ 1048576 := of_decide_eq_true hk
  simp only [List.append_nil, Rows.uptoBulkAll] at hbulk
  obtain ⟨x, rfl, rfl, rfl, wx⟩ := open_int Tryz.underlying3 (hval 1 3 v1 rfl rfl) h1
  obtain ⟨fuel, hf⟩ := id h0
  obtain ⟨k, v, an, tg, st, ka, kn, kc, n, y, hcs, hv, han, htg, hkids, hb⟩ := tree_open hf (by dsimp only; omega)
  have hv0 : v0 = .agg (treeC k v an tg st ka kn kc).toArray := by
    have hok := hval 0 24 v0 rfl rfl
    obtain ⟨cs, rfl, _⟩ := okWide_struct Tryz.underlying24 hok
    have h2 : cs.toList = treeC k v an tg st ka kn kc := hcs
    rw [← h2]
  subst hv0
  refine (c3 W _ (gy_of hL) k st x v an tg ka kn kc _ (inT_of 4 hkids hb) (fun k hk => hk) hv han htg).mono fun e W' hr => ?_
  obtain ⟨⟨u, rfl, hu⟩, hfr⟩ := hr
  have hu : u = .bool true := by
    rcases hu (fun _ => 0) with h | h
    · cases h
    · exact h
  subst hu
  have hbl : Below W.heap.size W W' := hfr.below
  refine ⟨_, rfl, _, _, _, [], p0 ++ ([] ++ []), [], hW', trodAll_mk1 (shut_bool Tryz.underlying4 _), ?_, rfl, hbl.frame _, fun h => by cases h⟩
  rw [Tryz.params3]
  exact trodAll_cons_mk (Below.trod lawOut lawRead.1 (by decide) h0 hbl (fun z hz => hlt z (List.mem_append_left _ hz))) (trodAll_cons_mk (shut_int Tryz.underlying3 wx) trodAll_mk0)
theorem lawLifted (os : Os) (started : os.Started) (H : Type) (enc : TypeId × Value → H) (F : Stop.Interp) :
    ReturnsInHanded {} Tryz.checked os 3 .any ((Rows.OpenSpec.upto Rows.fnFilterTreeSpec).preRow enc Tryz.prog Tryz.f3 Rows.fnFilterTreeUptoRow.domain false Rows.fnFilterTreeUptoRow.laid)
      (((Rows.OpenSpec.upto Rows.fnFilterTreeSpec).at F).post enc Tryz.prog Tryz.f3 false true false false) := by
  refine returnsInHanded_of_row (C := Tryz.checked) (s := Rows.OpenSpec.upto Rows.fnFilterTreeSpec) lawOwn started (by kernel_rfl) Tryz.func3 (lawWitness os enc) ?_
  intro W base args ds gs before hval hW _ hcond _ hL _ _
  exact lawContract H enc W base args ds gs before hval hW (hcond _ rfl) hL
theorem lawSaid : Rows.FnFilterTreeUptoSaid :=
  OpenClaim.holds_of_cond 3 Tryz.f3 rfl rfl rfl rfl rfl rfl rfl ⟨rfl, rfl, rfl, rfl, rfl⟩ rfl rfl rfl rfl rfl lawNamed Tryz.func3 lawFacts lawInst lawWrap
    (fun os started H enc _ F => by rw [OpenClaim.pre_eq_preRow]; exact lawLifted os started H enc F)
end Go.Proofs.YtbfenkhnfflpnaaGreatDoor.Sx
namespace Go.Proofs.YtbfenkhnfflpnaaGreatDoor
/-- The given statement. -/
theorem fnFilterTree_card : Rows.FnFilterTreeUptoCardSaid :=
  Claim7.holds_tied_plain_at .later [] _ _ _ _ Sx.lawSaid (fun _ h => by cases h) (by kernel_rfl) (fun _ h => by cases h) fnFilterTreeUpto_row_tie rfl ⟨rfl, rfl⟩ (by kernel_rfl) rfl Sx.lawPlain (by kernel_rfl)
#print axioms fnFilterTree_card
end Go.Proofs.YtbfenkhnfflpnaaGreatDoor
