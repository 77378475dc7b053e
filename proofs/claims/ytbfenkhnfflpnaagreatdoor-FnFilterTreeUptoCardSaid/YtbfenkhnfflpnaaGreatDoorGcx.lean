/- Lemmas for FnFilterTree; each condition stands in its statement. -/
import Derived.Test.YtbfenkhnfflpnaaGreatDoorGcv
namespace Go.Proofs.YtbfenkhnfflpnaaGreatDoor.Sx
open Go Go.RowKit
set_option maxRecDepth 100000
set_option maxHeartbeats 40000000
set_option linter.all false
section
attribute [local irreducible] leT leH WO WX WC WD LS WS
structure NumS (s : ByteArray) (j q : Nat) : Prop where
 h1 : j + 1 <= q
 h2 : q <= j + 18
 h3 : q <= s.size
 h4 : s.size <= q + 7
 h5 : bt s j = 48 -> q = j + 1
 dg : ∀ i : Nat, j <= i -> i < s.size -> (bt s i = 46 /\ i = q) \/ (48 <= bt s i /\ bt s i <= 57 /\ i ≠ q)
theorem c160p  (w : World) : Calls Tryz.prog 160 [.int .u8 46].toArray w (RetS (.sc (.va (.int .u8 46))) w) := by
 refine calls_start 1000 Tryz.func160 rfl fun E hX hP hA hQ => ?_
 repeat' first
  | refine zA ?_ | apply zI <;> intro hdec | with_reducible constructor | refine zs0 ?_
 all_goals (intro a w' r own hs'; exact retS_va _ hs'.frm)
theorem svBt {p : Prop} [Decidable p] (h : p) : SV.sc (.va (.bool (decide p))) = SV.sc (.va (.bool true)) := by rw [decide_eq_true h]
theorem svBf {p : Prop} [Decidable p] (h : ¬ p) : SV.sc (.va (.bool (decide p))) = SV.sc (.va (.bool false)) := by rw [decide_eq_false h]
theorem svBd {p q : Prop} [Decidable p] [Decidable q] (h : p ↔ q) : SV.sc (.va (.bool (decide p))) = SV.sc (.va (.bool (decide q))) := by rw [decide_eq_decide.2 h]
theorem c145d0 (s : ByteArray) (hs : s.size <= 2147483647) (h0 : bt s 0 ≠ 43 /\ bt s 0 ≠ 45) (q : Nat) (hN : NumS s 0 q) (w : World) : Calls Tryz.prog 145 [.string s].toArray w (Ret0 (fun x : Int × Int × Bool × Bool × Bool × Int × Bool => .tu [.sc (.va (.int .u64 x.1)), .sc (.va (.int .i64 x.2.1)), .sc (.va (.bool x.2.2.1)), .sc (.va (.bool x.2.2.2.1)), .sc (.va (.bool x.2.2.2.2.1)), .sc (.va (.int .i64 x.2.2.2.2.2.1)), .sc (.va (.bool x.2.2.2.2.2.2))]) (fun x => U64 x.1 /\ (-22 <= x.2.1 /\ x.2.1 <= 0) /\ x.2.2.2.2.1 = false /\ x.2.2.2.2.2.1 = s.size /\ x.2.2.2.2.2.2 = true /\ (x.2.2.2.1 = true -> 0 + 14 <= q /\ q < s.size)) w) := by
 have hq1 := hN.h1; have hq2 := hN.h2
 have hz : 0 < s.size := by have := hN.h1; have := hN.h3; omega
 have hd0 : (bt s 0 = 46 /\ 0 = q) \/ (48 <= bt s 0 /\ bt s 0 <= 57 /\ 0 ≠ q) := hN.dg 0 (Nat.le_refl _) hz; have hdA : bt s 0 = 48 -> q = 1 := hN.h5; have hdB : 1 < s.size -> (bt s 1 = 46 /\ 1 = q) \/ (48 <= bt s 1 /\ bt s 1 <= 57 /\ 1 ≠ q) := hN.dg 1 zo
 refine calls_start 1000 Tryz.func145 rfl fun E hX hP hA hQ => ?_
 repeat' first
  | refine zA ?_ | apply zI <;> intro hdec | with_reducible constructor
  | (apply WC_scope 900
     intro E1 h1 h2 h3; replace hX := h1.trans hX
     replace hP : E1.X.P = Tryz.prog := by rw [hX]
     replace hA := h2.trans hA; replace hQ := h3.trans (congrArg Exit.noGoto hQ); clear h1 h2 h3)
  | apply WX_fing hX rfl hQ (.inl rfl)
  | (exfalso; omega)
  | (with_reducible show WC _ (.loop _) _ _
     apply WC_loopF (ι := Nat × Nat × Nat × Int × Int × Bool) (fun x => ((0 <= x.1 /\ x.1 <= s.size) /\ (q < x.1 -> x.2.1 + 0 + 1 <= x.1) /\ (x.1 <= q -> x.2.1 + 0 <= x.1) /\ ((x.2.1 <= 19 /\ x.2.2.1 = x.2.1) \/ (19 <= x.2.1 /\ x.2.2.1 = 19)) /\ -(x.1 : Int) <= x.2.2.2.1 /\ x.2.2.2.1 <= x.1 /\ (q < x.1 -> (x.2.1 : Int) - x.2.2.2.1 = x.1 - q - 1)) /\ U64 x.2.2.2.2.1 /\ (x.2.2.2.2.2 = true -> 20 <= x.2.1)) [57, 58, 59, 60, 63, 64, 65, 18, 67, 68, 69, 66, 9, 71, 72, 73, 70, 74, 13, 75, 17, 77, 78, 79, 80, 81, 82, 83, 76, 14, 84, 85, 86, 87, 88, 89, 90, 91, 92, 93, 15, 94, 95, 96, 97, 98, 99, 2, 100, 101, 102, 103, 104, 105, 106, 16, 107, 108, 5, 110, 111, 112, 113, 114, 115, 116, 117, 118, 119, 120, 121, 122, 109, 123, 124, 125, 126, 127, 128, 129, 130, 131, 132, 133, 134, 135, 136, 137, 138, 61, 62, 7] (fun x => [(7, .sc (.va (.int .i64 x.1))), (13, .sc (.va (.bool (decide (q < x.1))))), (15, .sc (.va (.int .i64 x.2.1))), (16, .sc (.va (.int .i64 x.2.2.1))), (17, .sc (.va (.int .i64 x.2.2.2.1))), (2, .sc (.va (.int .u64 x.2.2.2.2.1))), (5, .sc (.va (.bool x.2.2.2.2.2))), (14, .sc (.va (.bool (decide (0 < x.1))))), (9, .sc (.va (.bool false)))]) (fun x => s.size - x.1) (0, 0, 0, 0, 0, false) ⟨by first | (dsimp only; omega) | (simp <;> omega), by unfold U64; decide, fun h => by cases h⟩ hX
     exact zq85; exact zq24; rintro ⟨i, nd, ndm, dp, mm, tr⟩ hi E' hX' hA' hQ' J hJ; rw [hA] at hJ; refine zl ?_; intro hX hP hA hQ; have hd := fun h1 h2 => hN.dg i h1 h2; have hN1 := hN.h1; have hN2 := hN.h2; have hN3 := hN.h3; have hN4 := hN.h4; dsimp only at hi
     refine vc_ok 900 _ _ _ ?_)
  | (refine zcS 160 (.sc (.va (.int .u8 46))) ?_ ?_
     · (intro a w r own hSim; simp only [go_sem]; rw [show bt s 1 = 46 from by omega]; with_reducible exact c160p _))
  | exact zr116 | exact zr113 | exact zr100 | exact zr117 | exact zr114 | refine zs10 ?_
 all_goals try first
  | omega | (unfold I64; omega) | (exfalso; omega)
 all_goals
  (intro a w' r own hs'
   refine ⟨(_, _, _, _, _, _, _), ?_, ⟨_, rfl, fun r => tuv [_, _, _, _, _, _, _]⟩, hs'.frm⟩
   refine ⟨hi.2.1, (by first | (with_reducible show -22 <= (nd : Int) - (ndm : Int) /\ (nd : Int) - (ndm : Int) <= 0; omega) | (with_reducible show -22 <= dp - (ndm : Int) /\ dp - (ndm : Int) <= 0; omega) | (with_reducible show (-22 : Int) <= 0 /\ (0 : Int) <= 0; omega)), rfl, congrArg (fun n : Nat => (n : Int)) (show i = s.size by omega), rfl, fun h => by have h3 := hi.2.2 h; omega⟩)
theorem c145d2 (s : ByteArray) (hs : s.size <= 2147483647) (h0 : bt s 0 = 45) (q : Nat) (hN : NumS s 1 q) (w : World) : Calls Tryz.prog 145 [.string s].toArray w (Ret0 (fun x : Int × Int × Bool × Bool × Bool × Int × Bool => .tu [.sc (.va (.int .u64 x.1)), .sc (.va (.int .i64 x.2.1)), .sc (.va (.bool x.2.2.1)), .sc (.va (.bool x.2.2.2.1)), .sc (.va (.bool x.2.2.2.2.1)), .sc (.va (.int .i64 x.2.2.2.2.2.1)), .sc (.va (.bool x.2.2.2.2.2.2))]) (fun x => U64 x.1 /\ (-22 <= x.2.1 /\ x.2.1 <= 0) /\ x.2.2.2.2.1 = false /\ x.2.2.2.2.2.1 = s.size /\ x.2.2.2.2.2.2 = true /\ (x.2.2.2.1 = true -> 1 + 14 <= q /\ q < s.size)) w) := by
 have hq1 := hN.h1; have hq2 := hN.h2
 have hz : 1 < s.size := by have := hN.h1; have := hN.h3; omega
 have hd0 : (bt s 1 = 46 /\ 1 = q) \/ (48 <= bt s 1 /\ bt s 1 <= 57 /\ 1 ≠ q) := hN.dg 1 (Nat.le_refl _) hz; have hdA : bt s 1 = 48 -> q = 2 := hN.h5; have hdB : 2 < s.size -> (bt s 2 = 46 /\ 2 = q) \/ (48 <= bt s 2 /\ bt s 2 <= 57 /\ 2 ≠ q) := hN.dg 2 zo
 refine calls_start 1000 Tryz.func145 rfl fun E hX hP hA hQ => ?_
 repeat' first
  | refine zA ?_ | apply zI <;> intro hdec | with_reducible constructor
  | (apply WC_scope 900
     intro E1 h1 h2 h3; replace hX := h1.trans hX
     replace hP : E1.X.P = Tryz.prog := by rw [hX]
     replace hA := h2.trans hA; replace hQ := h3.trans (congrArg Exit.noGoto hQ); clear h1 h2 h3)
  | apply WX_fing hX rfl hQ (.inl rfl)
  | (exfalso; omega)
  | (with_reducible show WC _ (.loop _) _ _
     apply WC_loopF (ι := Nat × Nat × Nat × Int × Int × Bool) (fun x => ((1 <= x.1 /\ x.1 <= s.size) /\ (q < x.1 -> x.2.1 + 1 + 1 <= x.1) /\ (x.1 <= q -> x.2.1 + 1 <= x.1) /\ ((x.2.1 <= 19 /\ x.2.2.1 = x.2.1) \/ (19 <= x.2.1 /\ x.2.2.1 = 19)) /\ -(x.1 : Int) <= x.2.2.2.1 /\ x.2.2.2.1 <= x.1 /\ (q < x.1 -> (x.2.1 : Int) - x.2.2.2.1 = x.1 - q - 1)) /\ U64 x.2.2.2.2.1 /\ (x.2.2.2.2.2 = true -> 20 <= x.2.1)) [57, 58, 59, 60, 63, 64, 65, 18, 67, 68, 69, 66, 9, 71, 72, 73, 70, 74, 13, 75, 17, 77, 78, 79, 80, 81, 82, 83, 76, 14, 84, 85, 86, 87, 88, 89, 90, 91, 92, 93, 15, 94, 95, 96, 97, 98, 99, 2, 100, 101, 102, 103, 104, 105, 106, 16, 107, 108, 5, 110, 111, 112, 113, 114, 115, 116, 117, 118, 119, 120, 121, 122, 109, 123, 124, 125, 126, 127, 128, 129, 130, 131, 132, 133, 134, 135, 136, 137, 138, 61, 62, 7] (fun x => [(7, .sc (.va (.int .i64 x.1))), (13, .sc (.va (.bool (decide (q < x.1))))), (15, .sc (.va (.int .i64 x.2.1))), (16, .sc (.va (.int .i64 x.2.2.1))), (17, .sc (.va (.int .i64 x.2.2.2.1))), (2, .sc (.va (.int .u64 x.2.2.2.2.1))), (5, .sc (.va (.bool x.2.2.2.2.2))), (14, .sc (.va (.bool (decide (1 < x.1))))), (9, .sc (.va (.bool false)))]) (fun x => s.size - x.1) (1, 0, 0, 0, 0, false) ⟨by first | (dsimp only; omega) | (simp <;> omega), by unfold U64; decide, fun h => by cases h⟩ hX
     exact zq85; exact zq24; rintro ⟨i, nd, ndm, dp, mm, tr⟩ hi E' hX' hA' hQ' J hJ; rw [hA] at hJ; refine zl ?_; intro hX hP hA hQ; have hd := fun h1 h2 => hN.dg i h1 h2; have hN1 := hN.h1; have hN2 := hN.h2; have hN3 := hN.h3; have hN4 := hN.h4; dsimp only at hi
     refine vc_ok 900 _ _ _ ?_)
  | (refine zcS 160 (.sc (.va (.int .u8 46))) ?_ ?_
     · (intro a w r own hSim; simp only [go_sem]; rw [show bt s 2 = 46 from by omega]; with_reducible exact c160p _))
  | exact zr116 | exact zr113 | exact zr100 | exact zr117 | exact zr114 | refine zs10 ?_
 all_goals try first
  | omega | (unfold I64; omega) | (exfalso; omega)
 all_goals
  (intro a w' r own hs'
   refine ⟨(_, _, _, _, _, _, _), ?_, ⟨_, rfl, fun r => tuv [_, _, _, _, _, _, _]⟩, hs'.frm⟩
   refine ⟨hi.2.1, (by first | (with_reducible show -22 <= (nd : Int) - (ndm : Int) /\ (nd : Int) - (ndm : Int) <= 0; omega) | (with_reducible show -22 <= dp - (ndm : Int) /\ dp - (ndm : Int) <= 0; omega) | (with_reducible show (-22 : Int) <= 0 /\ (0 : Int) <= 0; omega)), rfl, congrArg (fun n : Nat => (n : Int)) (show i = s.size by omega), rfl, fun h => by have h3 := hi.2.2 h; omega⟩)
