/- Lemmas for FnFilterTree; each condition stands in its statement. -/
import Derived.Test.YtbfenkhnfflpnaaGreatDoorGch
namespace Go.Proofs.YtbfenkhnfflpnaaGreatDoor.Sx
open Go Go.RowKit
set_option maxRecDepth 100000
set_option maxHeartbeats 40000000
set_option linter.all false
section
attribute [local irreducible] leT leH WO WX WC WD LS WS
theorem c142 (s : ByteArray) (hs : s.size <= 2147483647) (w : World) : Calls Tryz.prog 142 [.string s].toArray w (Ret0 (fun b : Bool => .sc (.va (.bool b))) (fun b => b = true -> 0 < s.size /\ letterB (bt s 0)) w) := by
 refine calls_start 1000 Tryz.func142 rfl fun E hX hP hA hQ => ?_
 repeat' first
  | refine zA ?_ | apply zI <;> intro hdec | with_reducible constructor
  | (refine zcS 105 (.sc (.va (.bool (decide (letterB (bt s 0)))))) ?_ ?_
     · (intro a w r own hSim; simp only [go_sem]; exact c105 _ _))
  | (refine zcS 77 (.sc (.va (.bool (decide (alnumB (bt s ((s.size : Int) - 1))))))) ?_ ?_; exact zq54) | (refine zcS 77 (.sc (.va (.bool (decide (alnumB (bt s 0)))))) ?_ ?_; exact zq54)
  | (refine zc0 (α := Bool) 185 (fun b => .sc (.va (.bool b))) (fun _ => True) ?_ ?_
     · (intro a w r own hSim; simp only [go_sem]; exact c185 _ _ zi _)
     intro b _
     cases b)
  | refine zs5 ?_
 all_goals try first
  | omega | (unfold I64; omega) | exact zr24 | exact zr28 | (intro a w' r own hs'; exact ⟨false, fun h => Bool.noConfusion h, ⟨_, rfl, fun r => .inr rfl⟩, hs'.frm⟩) | exact zr118
 apply WC_loopF (ι := Nat) (fun i => i <= s.size) [21, 22, 23, 24, 27, 28, 29, 30, 31, 32, 33, 34, 35, 36, 37, 38, 39, 40, 41, 42, 43, 44, 45, 46, 47, 48, 49, 50, 51, 52, 53, 54, 55, 2, 25, 26, 3] (fun i => [(3, .sc (.va (.int .i64 i)))]) (fun i => s.size - i) 0 (Nat.zero_le _) hX
 exact zq43; exact zq24; intro i hi E' hX' hA' hQ' J hJ; rw [hA] at hJ; refine zl ?_; intro hX hP hA hQ
 refine vc_ok 900 _ _ _ ?_
 repeat' first
  | refine zA ?_ | apply zI <;> intro hdec | with_reducible constructor
  | (refine zcS 105 (.sc (.va (.bool (decide (letterB (bt s 0)))))) ?_ ?_
     · (intro a w r own hSim; simp only [go_sem]; exact c105 _ _))
  | (refine zcS 77 (.sc (.va (.bool (decide (alnumB (bt s ((s.size : Int) - 1))))))) ?_ ?_; exact zq54) | (refine zcS 77 (.sc (.va (.bool (decide (alnumB (bt s i)))))) ?_ ?_; exact zq54)
  | (refine zc0 (α := Bool) 185 (fun b => .sc (.va (.bool b))) (fun _ => True) ?_ ?_
     · (intro a w r own hSim; simp only [go_sem]; exact c185 _ _ zi _)
     intro b _
     cases b)
  | refine zs5 ?_
 all_goals first
  | omega | (unfold I64; omega) | exact zr24 | exact zr28 | exact zr23 | (intro a w' r own hs'; exact ⟨false, fun h => Bool.noConfusion h, ⟨_, rfl, fun r => .inr rfl⟩, hs'.frm⟩) | exact zr118
