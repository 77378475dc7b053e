/- Lemmas for FnFilterTree; each condition stands in its statement. -/
import Derived.Test.YtbfenkhnfflpnaaGreatDoorGdb
import Derived.Test.YtbfenkhnfflpnaaGreatDoorGde
namespace Go.Proofs.YtbfenkhnfflpnaaGreatDoor.Sx
open Go Go.RowKit
set_option maxRecDepth 100000
set_option maxHeartbeats 40000000
set_option linter.all false
section
attribute [local irreducible] leT leH WO WX WC WD LS WS WQ
structure set1 (s : ByteArray) (j q i : Nat) (nd dp : Int) (d : Nat -> Int) : Prop where
 a1 : j <= i
 a2 : i <= s.size
 a3 : (i <= q /\ nd = (i : Int) - j /\ dp = 0) \/ (q < i /\ nd = (i : Int) - j - 1 /\ dp = (q : Int) - j)
 a4 : dgOk d nd
 a5 : j < i -> 49 <= d 0
theorem set1_dig {s : ByteArray} {j q i : Nat} {nd dp : Int} {d : Nat -> Int} (h : set1 s j q i nd dp d) (hi : i < s.size) (hq : i ≠ q) (h1 : 48 <= bt s i) (h2 : bt s i <= 57) (h3 : i = j -> bt s i ≠ 48) (hjq : j < q) : set1 s j q (i + 1) (nd + 1) dp (updD d nd.toNat (bt s i)) := by
 obtain ⟨a1, a2, a3, a4, a5⟩ := h
 refine ⟨zo, zo, zo, a4.ext _ zo h1 h2, fun h => ?_⟩
 rw [upd0]
 split
 · have := h3 zo; omega
 · exact a5 zo
theorem set1_dot' {s : ByteArray} {j q i : Nat} {nd dp : Int} {d : Nat -> Int} (h : set1 s j q i nd dp d) (hi : i < s.size) (hq : i = q) (hjq : j < q) : set1 s j q (i + 1) nd nd d := by
 obtain ⟨a1, a2, a3, a4, a5⟩ := h; exact ⟨zo, zo, zo, a4, fun h => a5 zo⟩
theorem c151_0 (w : World) (g : Nat) (dg : Nat -> Int) (hD : (DecA g 0 0 false false dg).P w (fun k => k = g)) (s : ByteArray) (hs : s.size <= 2147483647) (h0 : bt s 0 ≠ 43 /\ bt s 0 ≠ 45) (q : Nat) (hN : NumS s 0 q) (hq : q < s.size) (hz : bt s 0 ≠ 48) : Calls Tryz.prog 151 [.pointer (some ⟨g, 0, none⟩), .string s].toArray w (RetD (fun _ : Int × (Nat -> Int) => .sc (.va (.bool true))) (fun x => 1 <= x.1 /\ x.1 <= 800 /\ dgOk x.2 x.1 /\ 49 <= x.2 0) (fun x => DecA g x.1 ((q : Int) - 0) false false x.2) g w) := by
 have hN1 := hN.h1; have hN2 := hN.h2; have hN3 := hN.h3; have hN4 := hN.h4
 refine calls_startD 1000 g 270 804 _ [.sc (.va (.pointer (some ⟨g, 0, none⟩))), .sc (.va (.string s))] Tryz.func151 rfl ⟨⟨rfl, rfl⟩, ⟨rfl, rfl⟩, trivial⟩ hD fun E hX hP hA hQ => ?_
 repeat' first
  | refine zC ?_ | apply zI <;> intro hdec | with_reducible constructor | (with_reducible refine vqd_dec ?_ ?_ <;> intro hdec <;> first | (exfalso; omega) | rw [decide_eq_true hdec] | rw [decide_eq_false hdec] | skip) | (with_reducible refine vqd_ndec ?_ ?_ <;> intro hdec <;> first | (exfalso; omega) | rw [decide_eq_true hdec] | rw [decide_eq_false hdec] | skip)
  | (with_reducible refine vqd_t 850 ?_ ?_
     · exact zq2)
  | (with_reducible refine vqd_f 850 ?_ ?_
     · exact zq2)
  | (with_reducible show WC _ (.loop (.seq (.seq (.region 13 _ _) _) _)) _ _
     apply WC_loopG (ι := Nat × Int × Int × (Nat -> Int)) (fun x => set1 s 0 q x.1 x.2.1 x.2.2.1 x.2.2.2) [34, 35, 36, 37, 41, 42, 43, 44, 40, 46, 47, 48, 49, 45, 50, 6, 51, 52, 53, 54, 55, 56, 57, 59, 60, 61, 62, 63, 64, 65, 66, 67, 68, 58, 7, 69, 70, 71, 72, 73, 74, 75, 76, 77, 78, 79, 80, 81, 82, 83, 84, 85, 86, 87, 88, 89, 90, 91, 92, 93, 94, 95, 96, 97, 98, 99, 100, 101, 102, 103, 104, 105, 106, 107, 108, 109, 110, 111, 112, 113, 114, 115, 116, 38, 39, 5] (fun x => [(5, .sc (.va (.int .i64 x.1))), (6, .sc (.va (.bool (decide (q < x.1))))), (7, .sc (.va (.bool (decide (0 < x.1)))))]) (fun _ => []) (fun x => [(0, DecA g x.2.1 x.2.2.1 false false x.2.2.2)]) (fun x => s.size - x.1) (0, 0, 0, dg) ⟨Nat.le_refl _, zj, .inl ⟨zj, by dsimp only; decide, rfl⟩, fun i hi => by dsimp only at hi; omega, fun h => absurd h (Nat.lt_irrefl _)⟩ [(2, 0)] hX
     exact zq86; exact zq5; exact zq11; exact zq5; rfl; rfl; rfl; exact zq4; rintro ⟨i, nd, dp, d⟩ q1 E' hX' hA' hQ' J hJ; refine zl ?_; intro hX hP hA hQ; dsimp only at q1 hA; have b1 := q1.a1; have b2 := q1.a2; have b3 := q1.a3; have hd := fun h2 => hN.dg i b1 h2
     have hz2 : i = 0 -> bt s i ≠ 48 := fun e => by rw [e]; exact hz
     refine vc_ok 900 _ _ _ ?_)
  | (apply WX_lpG _ _ [(4, 0)] hX (hJ ((i + 1, nd + 1, dp, updD d nd.toNat (bt s i))) (set1_dig q1 zo zo zo zo hz2 zo) zj); exact zq59; exact zq3; exact zq11; exact zq3; rfl; rfl; rfl; exact zq4) | (apply WX_lpG _ _ [(3, 0)] hX (hJ ((i + 1, nd, nd, d)) (set1_dot' q1 zo zo zo) zj); exact zq59; exact zq3; exact zq11; exact zq3; rfl; rfl; rfl; exact zq4) | (refine zr16 ?_; intro _ _) | (refine zr17 ?_; intro _ _) | (refine zr18 ?_; intro _ _) | (refine zr19 ?_; intro _ _) | (refine zr14 ?_ ?_; intro _ _) | (refine zr10 ?_; intro _ _ E2 h1 h2 h3; refine zz ?_; intro hX hP hA hQ) | (refine zr11 ?_; intro _ _ E2 h1 h2 h3; refine zz ?_; intro hX hP hA hQ) | (refine zr12 ?_; intro _ _ E2 h1 h2 h3; refine zz ?_; intro hX hP hA hQ) | (refine zr13 ?_; intro _ _ E2 h1 h2 h3; refine zz ?_; intro hX hP hA hQ) | (refine zr9 ?_ ?_; intro _ _ E2 h1 h2 h3; refine zz ?_; intro hX hP hA hQ) | (refine zr15 ?_ ?_ ?_; intro _ _) | refine zr34 ?_ | refine zr35 ?_ | refine zr30 ?_ ?_ | refine zr32 ?_ ?_ ?_
  | (with_reducible show WC _ (.region _ _ true) _ _
     apply WC_q 900 [11] hP
     exact zq1; exact zq2; exact zq1)
  | apply WX_fin hX rfl hQ (.inr rfl)
  | refine zs22 ?_
 all_goals try first
  | exact zr1 | (with_reducible show (_ : Int) <= _; omega) | (with_reducible show (_ : Int) < _; omega) | exact zr21 | (with_reducible show (_ : Nat) < _; omega) | (with_reducible show (_ : Nat) <= _; omega)
 all_goals try first
  | (exfalso; omega)
  | (intro a w' r' own hs'
     have e : i = s.size := by omega
     have b3' : nd = (i : Int) - 0 - 1 /\ dp = (q : Int) - 0 := by omega
     exact retD_fin hs' zw0 (nd, d) ⟨zj, zj, q1.a4, q1.a5 zo⟩ (fun r => .inr rfl) (fun h => by rw [b3'.2] at h; exact h))
theorem c151_2 (w : World) (g : Nat) (dg : Nat -> Int) (hD : (DecA g 0 0 false false dg).P w (fun k => k = g)) (s : ByteArray) (hs : s.size <= 2147483647) (h0 : bt s 0 = 45) (q : Nat) (hN : NumS s 1 q) (hq : q < s.size) (hz : bt s 1 ≠ 48) : Calls Tryz.prog 151 [.pointer (some ⟨g, 0, none⟩), .string s].toArray w (RetD (fun _ : Int × (Nat -> Int) => .sc (.va (.bool true))) (fun x => 1 <= x.1 /\ x.1 <= 800 /\ dgOk x.2 x.1 /\ 49 <= x.2 0) (fun x => DecA g x.1 ((q : Int) - 1) true false x.2) g w) := by
 have hN1 := hN.h1; have hN2 := hN.h2; have hN3 := hN.h3; have hN4 := hN.h4
 refine calls_startD 1000 g 270 804 _ [.sc (.va (.pointer (some ⟨g, 0, none⟩))), .sc (.va (.string s))] Tryz.func151 rfl ⟨⟨rfl, rfl⟩, ⟨rfl, rfl⟩, trivial⟩ hD fun E hX hP hA hQ => ?_
 repeat' first
  | refine zC ?_ | apply zI <;> intro hdec | with_reducible constructor | (with_reducible refine vqd_dec ?_ ?_ <;> intro hdec <;> first | (exfalso; omega) | rw [decide_eq_true hdec] | rw [decide_eq_false hdec] | skip) | (with_reducible refine vqd_ndec ?_ ?_ <;> intro hdec <;> first | (exfalso; omega) | rw [decide_eq_true hdec] | rw [decide_eq_false hdec] | skip)
  | (with_reducible refine vqd_t 850 ?_ ?_
     · exact zq2)
  | (with_reducible refine vqd_f 850 ?_ ?_
     · exact zq2)
  | (with_reducible show WC _ (.loop (.seq (.seq (.region 13 _ _) _) _)) _ _
     apply WC_loopG (ι := Nat × Int × Int × (Nat -> Int)) (fun x => set1 s 1 q x.1 x.2.1 x.2.2.1 x.2.2.2) [34, 35, 36, 37, 41, 42, 43, 44, 40, 46, 47, 48, 49, 45, 50, 6, 51, 52, 53, 54, 55, 56, 57, 59, 60, 61, 62, 63, 64, 65, 66, 67, 68, 58, 7, 69, 70, 71, 72, 73, 74, 75, 76, 77, 78, 79, 80, 81, 82, 83, 84, 85, 86, 87, 88, 89, 90, 91, 92, 93, 94, 95, 96, 97, 98, 99, 100, 101, 102, 103, 104, 105, 106, 107, 108, 109, 110, 111, 112, 113, 114, 115, 116, 38, 39, 5] (fun x => [(5, .sc (.va (.int .i64 x.1))), (6, .sc (.va (.bool (decide (q < x.1))))), (7, .sc (.va (.bool (decide (1 < x.1)))))]) (fun _ => []) (fun x => [(0, DecA g x.2.1 x.2.2.1 true false x.2.2.2)]) (fun x => s.size - x.1) (1, 0, 0, dg) ⟨Nat.le_refl _, zj, .inl ⟨zj, by dsimp only; decide, rfl⟩, fun i hi => by dsimp only at hi; omega, fun h => absurd h (Nat.lt_irrefl _)⟩ [(3, 0)] hX
     exact zq86; exact zq5; exact zq11; exact zq5; rfl; rfl; rfl; exact zq4; rintro ⟨i, nd, dp, d⟩ q1 E' hX' hA' hQ' J hJ; refine zl ?_; intro hX hP hA hQ; dsimp only at q1 hA; have b1 := q1.a1; have b2 := q1.a2; have b3 := q1.a3; have hd := fun h2 => hN.dg i b1 h2
     have hz2 : i = 1 -> bt s i ≠ 48 := fun e => by rw [e]; exact hz
     refine vc_ok 900 _ _ _ ?_)
  | (apply WX_lpG _ _ [(5, 0)] hX (hJ ((i + 1, nd + 1, dp, updD d nd.toNat (bt s i))) (set1_dig q1 zo zo zo zo hz2 zo) zj); exact zq59; exact zq3; exact zq11; exact zq3; rfl; rfl; rfl; exact zq4) | (apply WX_lpG _ _ [(4, 0)] hX (hJ ((i + 1, nd, nd, d)) (set1_dot' q1 zo zo zo) zj); exact zq59; exact zq3; exact zq11; exact zq3; rfl; rfl; rfl; exact zq4) | (refine zr16 ?_; intro _ _) | (refine zr17 ?_; intro _ _) | (refine zr18 ?_; intro _ _) | (refine zr19 ?_; intro _ _) | (refine zr14 ?_ ?_; intro _ _) | (refine zr10 ?_; intro _ _ E2 h1 h2 h3; refine zz ?_; intro hX hP hA hQ) | (refine zr11 ?_; intro _ _ E2 h1 h2 h3; refine zz ?_; intro hX hP hA hQ) | (refine zr12 ?_; intro _ _ E2 h1 h2 h3; refine zz ?_; intro hX hP hA hQ) | (refine zr13 ?_; intro _ _ E2 h1 h2 h3; refine zz ?_; intro hX hP hA hQ) | (refine zr9 ?_ ?_; intro _ _ E2 h1 h2 h3; refine zz ?_; intro hX hP hA hQ) | (refine zr15 ?_ ?_ ?_; intro _ _) | refine zr34 ?_ | refine zr35 ?_ | refine zr30 ?_ ?_ | refine zr32 ?_ ?_ ?_
  | (with_reducible show WC _ (.region _ _ true) _ _
     apply WC_q 900 [11] hP
     exact zq1; exact zq2; exact zq1)
  | apply WX_fin hX rfl hQ (.inr rfl)
  | refine zs22 ?_
 all_goals try first
  | exact zr1 | (with_reducible show (_ : Int) <= _; omega) | (with_reducible show (_ : Int) < _; omega) | exact zr21 | (with_reducible show (_ : Nat) < _; omega) | (with_reducible show (_ : Nat) <= _; omega)
 all_goals try first
  | (exfalso; omega)
  | (intro a w' r' own hs'
     have e : i = s.size := by omega
     have b3' : nd = (i : Int) - 1 - 1 /\ dp = (q : Int) - 1 := by omega
     exact retD_fin hs' zw0 (nd, d) ⟨zj, zj, q1.a4, q1.a5 zo⟩ (fun r => .inr rfl) (fun h => by rw [b3'.2] at h; exact h))
def nonW (s : ByteArray) (j : Nat) : Prop := j < s.size /\ ((57 < bt s j /\ bt s j ≠ 95) \/ (bt s j = 46 /\ j + 1 < s.size /\ 57 < bt s (j + 1) /\ bt s (j + 1) ≠ 95))
def FW (s : ByteArray) : Prop := s.size = 0 \/ (((bt s 0 ≠ 43 /\ bt s 0 ≠ 45) /\ (nonW s 0 \/ ∃ q, NumS s 0 q)) \/ (bt s 0 = 45 /\ (nonW s 1 \/ ∃ q, NumS s 1 q)))
def Slow (s : ByteArray) : Prop := ∃ q, q < s.size /\ (((bt s 0 ≠ 43 /\ bt s 0 ≠ 45) /\ NumS s 0 q /\ 14 <= q) \/ (bt s 0 = 45 /\ NumS s 1 q /\ 15 <= q))
theorem c145e (s : ByteArray) (hs : s.size = 0) (w : World) : Calls Tryz.prog 145 [.string s].toArray w (Ret0 (fun x : Int × Int × Bool × Bool × Bool × Int × Bool => .tu [.sc (.va (.int .u64 x.1)), .sc (.va (.int .i64 x.2.1)), .sc (.va (.bool x.2.2.1)), .sc (.va (.bool x.2.2.2.1)), .sc (.va (.bool x.2.2.2.2.1)), .sc (.va (.int .i64 x.2.2.2.2.2.1)), .sc (.va (.bool x.2.2.2.2.2.2))]) (fun x => x.2.2.2.2.2.2 = false) w) := by
 refine calls_start 1000 Tryz.func145 rfl fun E hX hP hA hQ => ?_
 repeat' first
  | refine zA ?_ | apply zI <;> intro hdec | with_reducible constructor
  | (apply WC_scope 900
     intro E1 h1 h2 h3; replace hX := h1.trans hX
     replace hP : E1.X.P = Tryz.prog := by rw [hX]
     replace hA := h2.trans hA; replace hQ := h3.trans (congrArg Exit.noGoto hQ); clear h1 h2 h3)
  | apply WX_fing hX rfl hQ (.inl rfl)
  | (exfalso; omega) | refine zs0 ?_
 all_goals first
  | (exfalso; omega) | exact zr71
theorem c145w (s : ByteArray) (hs : s.size <= 2147483647) (hF : FW s) (w : World) : Calls Tryz.prog 145 [.string s].toArray w (Ret0 (fun x : Int × Int × Bool × Bool × Bool × Int × Bool => .tu [.sc (.va (.int .u64 x.1)), .sc (.va (.int .i64 x.2.1)), .sc (.va (.bool x.2.2.1)), .sc (.va (.bool x.2.2.2.1)), .sc (.va (.bool x.2.2.2.2.1)), .sc (.va (.int .i64 x.2.2.2.2.2.1)), .sc (.va (.bool x.2.2.2.2.2.2))]) (fun x => x.2.2.2.2.2.2 = true -> U64 x.1 /\ (-22 <= x.2.1 /\ x.2.1 <= 0) /\ x.2.2.2.2.1 = false /\ x.2.2.2.2.2.1 = s.size /\ (x.2.2.2.1 = true -> Slow s)) w) := by
 have hno : ∀ {e : Ending} {w' : World}, Ret0 (fun x : Int × Int × Bool × Bool × Bool × Int × Bool => .tu [.sc (.va (.int .u64 x.1)), .sc (.va (.int .i64 x.2.1)), .sc (.va (.bool x.2.2.1)), .sc (.va (.bool x.2.2.2.1)), .sc (.va (.bool x.2.2.2.2.1)), .sc (.va (.int .i64 x.2.2.2.2.2.1)), .sc (.va (.bool x.2.2.2.2.2.2))]) (fun x => x.2.2.2.2.2.2 = false) w e w' -> Ret0 (fun x : Int × Int × Bool × Bool × Bool × Int × Bool => .tu [.sc (.va (.int .u64 x.1)), .sc (.va (.int .i64 x.2.1)), .sc (.va (.bool x.2.2.1)), .sc (.va (.bool x.2.2.2.1)), .sc (.va (.bool x.2.2.2.2.1)), .sc (.va (.int .i64 x.2.2.2.2.2.1)), .sc (.va (.bool x.2.2.2.2.2.2))]) (fun x => x.2.2.2.2.2.2 = true -> U64 x.1 /\ (-22 <= x.2.1 /\ x.2.1 <= 0) /\ x.2.2.2.2.1 = false /\ x.2.2.2.2.2.1 = s.size /\ (x.2.2.2.1 = true -> Slow s)) w e w' := by
  rintro e w' ⟨x, hx, h⟩; exact ⟨x, fun h1 => (by rw [hx] at h1; cases h1), h⟩
 have hyes : ∀ {j q : Nat}, (q < s.size -> j + 14 <= q -> Slow s) -> ∀ {e : Ending} {w' : World}, Ret0 (fun x : Int × Int × Bool × Bool × Bool × Int × Bool => .tu [.sc (.va (.int .u64 x.1)), .sc (.va (.int .i64 x.2.1)), .sc (.va (.bool x.2.2.1)), .sc (.va (.bool x.2.2.2.1)), .sc (.va (.bool x.2.2.2.2.1)), .sc (.va (.int .i64 x.2.2.2.2.2.1)), .sc (.va (.bool x.2.2.2.2.2.2))]) (fun x => U64 x.1 /\ (-22 <= x.2.1 /\ x.2.1 <= 0) /\ x.2.2.2.2.1 = false /\ x.2.2.2.2.2.1 = s.size /\ x.2.2.2.2.2.2 = true /\ (x.2.2.2.1 = true -> j + 14 <= q /\ q < s.size)) w e w' -> Ret0 (fun x : Int × Int × Bool × Bool × Bool × Int × Bool => .tu [.sc (.va (.int .u64 x.1)), .sc (.va (.int .i64 x.2.1)), .sc (.va (.bool x.2.2.1)), .sc (.va (.bool x.2.2.2.1)), .sc (.va (.bool x.2.2.2.2.1)), .sc (.va (.int .i64 x.2.2.2.2.2.1)), .sc (.va (.bool x.2.2.2.2.2.2))]) (fun x => x.2.2.2.2.2.2 = true -> U64 x.1 /\ (-22 <= x.2.1 /\ x.2.1 <= 0) /\ x.2.2.2.2.1 = false /\ x.2.2.2.2.2.1 = s.size /\ (x.2.2.2.1 = true -> Slow s)) w e w' := by
  rintro j q hS e w' ⟨x, ⟨h1, h2, h3, h4, h5, h6⟩, h⟩; exact ⟨x, fun _ => ⟨h1, h2, h3, h4, fun ht => hS (h6 ht).2 (h6 ht).1⟩, h⟩
 rcases hF with h | ⟨h0, h | ⟨q, hN⟩⟩ | ⟨h0, h | ⟨q, hN⟩⟩
 exact (c145e s h w).mono fun e w' h => hno h; exact (c145n0 s hs h0 (by have := h.1; omega) (h.2.imp id fun h => ⟨h.1, by have := h.2.1; omega, h.2.2⟩) w).mono fun e w' h => hno h; exact (c145d0 s hs h0 q hN w).mono fun e w' h => hyes (j := 0) (q := q) (fun h1 h2 => ⟨q, h1, .inl ⟨h0, hN, zo⟩⟩) h; exact (c145n2 s hs h0 (by have := h.1; omega) (h.2.imp id fun h => ⟨h.1, by have := h.2.1; omega, h.2.2⟩) w).mono fun e w' h => hno h; exact (c145d2 s hs h0 q hN w).mono fun e w' h => hyes (j := 1) (q := q) (fun h1 h2 => ⟨q, h1, .inr ⟨h0, hN, zo⟩⟩) h
theorem c151w (w : World) (g : Nat) (dg : Nat -> Int) (hD : (DecA g 0 0 false false dg).P w (fun k => k = g)) (s : ByteArray) (hs : s.size <= 2147483647) (hS : Slow s) : Calls Tryz.prog 151 [.pointer (some ⟨g, 0, none⟩), .string s].toArray w (RetD (fun _ : Int × Int × Bool × (Nat -> Int) => .sc (.va (.bool true))) (fun x => 1 <= x.1 /\ x.1 <= 800 /\ (0 <= x.2.1 /\ x.2.1 <= 18) /\ dgOk x.2.2.2 x.1 /\ 49 <= x.2.2.2 0) (fun x => DecA g x.1 x.2.1 x.2.2.1 false x.2.2.2) g w) := by
 obtain ⟨q, hq, ⟨h0, hN, h14⟩ | ⟨h0, hN, h14⟩⟩ := hS
 · refine (c151_0 w g dg hD s hs h0 q hN hq (fun h => by have := hN.h5 h; omega)).mono ?_
   rintro e w' ⟨x, ⟨h1, h2, h3, h4⟩, h⟩; exact ⟨(x.1, (q : Int) - 0, false, x.2), ⟨h1, h2, by have := hN.h2; dsimp only; omega, h3, h4⟩, h⟩
 · refine (c151_2 w g dg hD s hs h0 q hN hq (fun h => by have := hN.h5 h; omega)).mono ?_
   rintro e w' ⟨x, ⟨h1, h2, h3, h4⟩, h⟩; exact ⟨(x.1, (q : Int) - 1, true, x.2), ⟨h1, h2, by have := hN.h2; dsimp only; omega, h3, h4⟩, h⟩
theorem ext_size (s : ByteArray) (a b : Nat) : (s.extract a b).size = min b s.size - a := ByteArray.size_extract
theorem bt_ext (s : ByteArray) (a b i : Nat) (hi : a + i < b) (hb : b <= s.size) : bt (s.extract a b) i = bt s (a + i : Nat) := by
 have h1 : i < (s.extract a b).size := by rw [ext_size]; omega
 have h2 : a + i < s.size := by omega
 have e1 : ((i : Nat) : Int).toNat = i := Int.toNat_natCast i; have e2 : ((a + i : Nat) : Int).toNat = a + i := Int.toNat_natCast _; simp only [bt, e1, e2, dif_pos h1, dif_pos h2]
 congr 2
 exact ByteArray.getElem_extract h1
theorem numS_of {s t : ByteArray} {k : Int} {j p : Nat} (hj : (j = 0 /\ t = s) \/ (j = 1 /\ 0 < s.size /\ t = s.extract 1 s.size)) (h : numP t k p) : NumS s j (p + j) := by
 obtain ⟨h1, h2, h3, h4, h5, h6⟩ := h
 have hsz : t.size + j = s.size := by
  rcases hj with ⟨rfl, rfl⟩ | ⟨rfl, h0, rfl⟩
  · rfl
  · rw [ext_size]; omega
 have hbt : ∀ i : Nat, i < t.size -> bt t i = bt s (i + j : Nat) := by
  intro i hi
  rcases hj with ⟨rfl, rfl⟩ | ⟨rfl, h0, rfl⟩
  · rfl
  · rw [bt_ext _ _ _ _ zo (Nat.le_refl _), Nat.add_comm]
 have hp : (t.extract 0 p).size = p := by rw [ext_size]; omega
 rw [hp] at h3 h4 h5
 have hd0 : ∀ i : Nat, i < p -> digitB (bt s (i + j : Nat)) := by
  intro i hi; have := h2 i (by rw [hp]; exact hi); rw [bt_ext _ _ _ _ zo h1, Nat.zero_add, hbt i zo] at this; exact this
 have hd1 : p < t.size -> bt t p = 46 /\ (t.size <= p + 7) /\ ∀ i : Nat, p < i -> i < t.size -> digitB (bt s (i + j : Nat)) := by
  intro hlt
  rcases h6 with ⟨_, rfl⟩ | ⟨_, _, e1, e2, e3, _⟩
  · omega
  · have es : (t.extract (p + 1) t.size).size = t.size - (p + 1) := by rw [ext_size]; omega
    rw [es] at e3
    refine ⟨e1, zo, fun i h1 h2 => ?_⟩
    have := e2 (i - (p + 1)) (by rw [es]; omega); rw [bt_ext _ _ _ _ zo (Nat.le_refl _), show p + 1 + (i - (p + 1)) = i by omega, hbt i h2] at this; exact this
 refine ⟨zo, zo, zo, ?_, ?_, ?_⟩
 · rcases Nat.lt_or_ge p t.size with h | h
   · have := (hd1 h).2.1; omega
   · omega
 · intro e
   have e0 : bt (t.extract 0 p) 0 = 48 := by
    have := bt_ext t 0 p 0 zo h1; rw [show ((0 : Nat) : Int) = 0 from rfl] at this; rw [this]; have := hbt 0 zo; rw [Nat.zero_add] at this; exact this.trans e
   by_cases hp1 : 1 < p
   exact absurd ⟨e0, hp1⟩ h5; omega
 · intro i hi hi2
   obtain ⟨m, rfl⟩ : ∃ m, i = m + j := ⟨i - j, zo⟩
   rcases Nat.lt_trichotomy m p with h | h | h
   · have := hd0 m h; exact .inr ⟨this.1, this.2, zo⟩
   · subst h
     have := (hd1 zo).1; rw [hbt m zo] at this; exact .inl ⟨this, rfl⟩
   · have := (hd1 zo).2.2 m h zo; exact .inr ⟨this.1, this.2, zo⟩
theorem FW_num {s : ByteArray} {k : Int} (hk : 0 < k) (h : numR s k) (h0 : bt s 0 ≠ 43) : FW s := by
 rcases h with h | ⟨t, ht, p, hp⟩
 · omega
 rcases ht with rfl | ⟨h1, h2 | h2, rfl⟩
 · have hN := numS_of (j := 0) (.inl ⟨rfl, rfl⟩) hp
   have hd := hN.dg 0 (Nat.le_refl _) (by have := hN.h1; have := hN.h3; omega); have e1 := hN.h1
   refine .inr (.inl ⟨⟨h0, fun h => ?_⟩, .inr ⟨_, hN⟩⟩)
   rw [show ((0 : Nat) : Int) = 0 from rfl] at hd; omega
 exact .inr (.inr ⟨h2, .inr ⟨_, numS_of (j := 1) (.inr ⟨rfl, h1, rfl⟩) hp⟩⟩); exact absurd h2 h0
theorem FW_plain {s : ByteArray} (h : s = ⟨#[]⟩ \/ plainW s) (h0 : bt s 0 ≠ 43) : FW s := by
 rcases h with rfl | ⟨k, hk, h⟩ | ⟨h1, h2⟩
 · exact .inl rfl
 · rcases h with ⟨_, h⟩ | ⟨_, h⟩ | ⟨_, h⟩ | ⟨_, h⟩ | h
   · simp only [nullW, List.mem_cons, List.not_mem_nil, or_false] at h
     rcases h with rfl | rfl | rfl | rfl | rfl
     · exact .inl rfl
     all_goals exact .inr (.inl ⟨⟨zi, zi⟩, .inl ⟨zi, .inl ⟨zi, zi⟩⟩⟩)
   · simp only [boolW, List.mem_cons, List.not_mem_nil, or_false] at h
     rcases h with rfl | rfl | rfl | rfl | rfl | rfl
     all_goals exact .inr (.inl ⟨⟨zi, zi⟩, .inl ⟨zi, .inl ⟨zi, zi⟩⟩⟩)
   · simp only [infW, List.mem_cons, List.not_mem_nil, or_false] at h
     rcases h with rfl | rfl | rfl | rfl | rfl | rfl | rfl | rfl | rfl
     all_goals first
      | exact .inr (.inl ⟨⟨zi, zi⟩, .inl ⟨zi, .inr ⟨zi, zi, zi, zi⟩⟩⟩)
      | exact .inr (.inr ⟨zi, .inl ⟨zi, .inr ⟨zi, zi, zi, zi⟩⟩⟩)
      | exact absurd zi h0
   · simp only [nanW, List.mem_cons, List.not_mem_nil, or_false] at h
     rcases h with rfl | rfl | rfl
     all_goals exact .inr (.inl ⟨⟨zi, zi⟩, .inl ⟨zi, .inr ⟨zi, zi, zi, zi⟩⟩⟩)
   · exact FW_num hk h h0
 · refine .inr (.inl ⟨⟨h0, ?_⟩, .inl ⟨h1, .inl ?_⟩⟩)
   · rcases h2 with h | h <;> omega
   · rw [show ((0 : Nat) : Int) = 0 from rfl]
     rcases h2 with h | h <;> omega
end
section
attribute [local irreducible] leT leH WO WX WC WD
theorem fold_push (l : List UInt8) (acc : ByteArray) : (l.map fun b => (b.toNat : Int)).foldl (fun r n => r.push (UInt8.ofNat n.toNat)) acc = ⟨acc.data ++ l.toArray⟩ := by
 induction l generalizing acc with
 | nil => simp
 | cons x l ih =>
   rw [List.map_cons, List.foldl_cons, ih]
   apply ByteArray.ext
   simp [ByteArray.push]
section
variable {E : En} {S : St} {dst : Option Tmp} {ty : TypeId} {pos : String} {after : Array Edge} {guard : Option (Nat × Bool)} {P : Program}
theorem LS_b2sE {src d e : TypeId} {x : Operand} (v : Value) (s : ByteArray) (j : Nat) (hP : E.X.P = P) (hx : ev S x = .sc (.va v)) (hj : (j, Row e 1 v s.size (Lib.strCells s)) ∈ E.A)
 (hs : P.underlying src = some (.slice e)) (hd : P.underlying d = some .string) (he : P.underlying e = some (.int .u8)) :
 LS E S ⟨dst, .convert src d x, ty, pos, after, guard⟩ [] (fun _ : Unit => True) (fun _ => S.put dst (.sc (.va (.string s)))) (fun _ => E.A) := by
 intro a w r own hsim K Q hK; subst hP; have hv := va_of (hx ▸ (ev_ok hsim.toR x).1); obtain ⟨⟨hl, hB⟩, _, _⟩ := (hsim.fact j _ hj).2
 have hrun : (convert src d v).run E.X.P w = Result.ok (.string s) w := by
  rcases hB with ⟨rfl, h0⟩ | ⟨g, cap, cur, rfl, _, hg, _, _, hsz, htk⟩
  · rw [run_convert_bytes_string (P := E.X.P) w src d e none 0 0 hs he hd]
    have : s = .empty := by
     apply ByteArray.ext
     exact Array.eq_empty_of_size_eq_zero h0
    rw [this]; rfl
  · rw [run_convert_bytes_string (P := E.X.P) w src d e (some ⟨g, 0, none⟩) s.size cap hs he hd]
    have h1 := run_loadCells_list (P := E.X.P) w ⟨g, 0, none⟩ ((s.data.toList.map fun b => (b.toNat : Int)).map (Value.int .u8)) (fun i u hi => by
     rw [addr_add]; simp only [World.cell?, hg]
     have e1 : (s.data.toList.map fun b => (b.toNat : Int)).map (Value.int .u8) = Lib.strCells s := by
      rw [List.map_map]; rfl
     rw [e1, <- htk, List.getElem?_take] at hi
     split at hi
     · simpa using hi
     · cases hi)
    have hlen : ((s.data.toList.map fun b => (b.toNat : Int)).map (Value.int .u8)).length = s.size := by simp
    rw [hlen] at h1; have h2 := run_bytesToString (P := E.X.P) w ⟨g, 0, none⟩ s.size cap _ h1; rw [fold_push] at h2
    have h3 : (⟨ByteArray.empty.data ++ s.data.toList.toArray⟩ : ByteArray) = s := by
     apply ByteArray.ext
     simp
    rw [h3] at h2; exact h2
 have hr : Res E.X.P ⟨dst, .convert src d x, ty, pos, after, guard⟩ a w (a.put dst (.string s)) w := by
  refine ⟨_, ?_, .inl ⟨_, rfl, rfl⟩⟩
  simp [execOp, hv, hrun]
 exact hr.wp (hK () trivial _ _ r own (hsim.put dst (ok_va r _) trivial) (.same (put_h ..).1 (put_h ..).2 (Nat.le_refl _) fun _ _ _ _ _ => rfl))
end
section
attribute [local irreducible] LS WS WQ
theorem ext1 {s : ByteArray} {i : Nat} {b : UInt8} (hi : i < s.size) : s.extract i (i + 1) = ⟨#[b]⟩ ↔ bt s i = (b.toNat : Int) := by
 have h1 : (s.extract i (i + 1)).size = 1 := by rw [ext_size]; omega
 have h2 : bt (s.extract i (i + 1)) 0 = bt s i := by
  have := bt_ext s i (i + 1) 0 zo zo; exact this
 constructor
 · intro h
   rw [<- h2, h]; rfl
 · intro h
   rw [<- h2] at h
   have h3 : 0 < (s.extract i (i + 1)).size := by omega
   have e : bt (s.extract i (i + 1)) 0 = ((s.extract i (i + 1))[0]'h3).toNat := by
    show (if h : _ then _ else _) = _
    exact (dif_pos (show Int.toNat 0 < (s.extract i (i + 1)).size from h3)).trans rfl
   rw [e] at h
   apply ByteArray.ext
   apply Array.ext
   · exact h1
   · intro j hj1 hj2
     have hj1' : j < (s.extract i (i + 1)).size := hj1
     obtain rfl : j = 0 := by omega
     refine UInt8.toNat.inj ?_
     exact Int.ofNat.inj h
theorem asz1 (b : UInt8) : ((#[b] : Array UInt8).size : Int) = 1 := rfl
theorem c197 (s : ByteArray) (hs : s.size <= 2147483647) (hno : ∀ i : Nat, i < s.size -> bt s i ≠ 95) (w : World) : Calls Tryz.prog 197 [.string s, .string ⟨#[95]⟩].toArray w (RetS (.sc (.va (.int .i64 (-1)))) w) := by
 refine calls_start 1000 Tryz.func197 rfl fun E hX hP hA hQ => ?_
 repeat' first
  | refine zA ?_ | apply zI <;> intro hdec | with_reducible constructor | refine zs11 ?_
 all_goals try first
  | omega | (unfold I64; omega) | exact zr24 | exact zr28
 apply WC_loopF (ι := Nat) (fun i => i <= s.size) [6, 7, 8, 9, 10, 11, 12, 15, 16, 17, 18, 19, 20, 21, 22, 23, 24, 4, 13, 14, 5] (fun i => [(5, .sc (.va (.int .i64 i)))]) (fun i => s.size - i) 0 (Nat.zero_le _) hX
 exact zq10; exact zq24; intro i hi E' hX' hA' hQ' J hJ; rw [hA] at hJ; refine zl ?_; intro hX hP hA hQ
 refine vc_ok 900 _ _ _ ?_
 repeat' first
  | refine zA ?_ | apply zI <;> intro hdec | with_reducible constructor | refine zs11 ?_
 all_goals try first
  | (exfalso; omega) | omega | (unfold I64; omega) | (exfalso; exact hno i zo ((ext1 (b := 95) zo).1 (by assumption))) | exact zr72 | exact zr0
theorem c181 (s : ByteArray) (h0 : 0 < s.size) (hs : s.size <= 2147483647) (hno : ∀ i : Nat, i < s.size -> bt s i ≠ 95) (w : World) : Calls Tryz.prog 181 [.string s, .string ⟨#[95]⟩, .string ⟨#[]⟩].toArray w (RetS (.sc (.va (.string s))) w) := by
 refine calls_start 1000 Tryz.func181 rfl fun E hX hP hA hQ => ?_
 repeat' first
  | refine zA ?_ | apply zI <;> intro hdec | with_reducible constructor | refine zs0 ?_
 apply WC_addE (Row 5 1 (.slice none 0 0) 0 []) (fun w => ⟨World.ownsRow_nil w _ _ _, fun k => by simp [Value.ownBlock], fun u hu => by cases hu⟩)
 intro E2 h1 h2 h3; dsimp only; refine zz ?_; intro hX hP hA hQ
 apply WC_loopG (ι := Unit) (fun _ => True) [9, 10, 11, 8, 12, 13, 14, 15, 16, 17, 6, 18, 19, 20, 21, 22, 23, 24, 7, 25, 26, 27, 28, 29, 30, 0] (fun _ => [(0, .sc (.va (.string s))), (7, .sc (.va (.slice none 0 0)))]) (fun _ => []) (fun _ => [(0, Row 5 1 (.slice none 0 0) 0 [])]) (fun _ => 0) () True.intro [(0, 0)] hX
 exact zq10; exact zq5; exact zq7; exact zq5; rfl; rfl; rfl; exact zq4; intro u hi E' hX' hA' hQ' J hJ; refine zl ?_; intro hX hP hA hQ
 refine vc_ok 900 _ _ _ ?_
 repeat' first
  | refine zA ?_ | apply zI <;> intro hdec | with_reducible constructor | (refine WO_LS 850 (LS_appendS (e := 5) 0 (.slice none 0 0) 0 [] s hP rfl ?_ ?_ ?_ ?_ h0 ?_) ?_; exact zq1; exact zq0; exact zq0; exact zq13; omega; rintro v' ⟨a', cp', rfl⟩ E2 h1 h2 h3; rw [Nat.zero_add, List.nil_append] at h2; refine zz ?_; intro hX hP hA hQ) | (refine WO_LE 850 (LS_b2sE (.slice a' s.size cp') s 1 hP ?_ ?_ un207 un9 un5) ?_; exact zq0; exact zq13; intro _ _)
  | (refine zcS 197 (.sc (.va (.int .i64 (-1)))) ?_ ?_
     · (intro a w r own hSim; simp only [go_sem]; with_reducible exact c197 s hs hno _))
  | refine zs0 ?_
 all_goals try first
  | omega | exact zr0
theorem c180_0 (s : ByteArray) (hs : s.size <= 2147483647) (hno : ∀ i : Nat, i < s.size -> bt s i ≠ 46) (w : World) : Calls Tryz.prog 180 [.string s, .string ⟨#[46]⟩].toArray w (RetS (.sc (.va (.int .i64 0))) w) := by
 refine calls_start 1000 Tryz.func180 rfl fun E hX hP hA hQ => ?_
 repeat' first
  | refine zA ?_ | apply zI <;> intro hdec | with_reducible constructor | refine zs11 ?_
 all_goals try first
  | (exfalso; omega) | omega
 apply WC_loopF (ι := Nat × Nat) (fun x => x.1 <= s.size /\ x.2 <= x.1 /\ (x.2 = 0)) [18, 19, 20, 21, 22, 23, 24, 25, 26, 27, 28, 29, 30, 31, 32, 33, 34, 35, 5, 36, 37, 38, 39, 6, 40, 41] (fun x => [(5, .sc (.va (.int .i64 x.2))), (6, .sc (.va (.int .i64 x.1)))]) (fun x => s.size - x.1) (0, 0) ⟨Nat.zero_le _, Nat.le_refl _, by first | rfl | (dsimp only; omega)⟩ hX
 exact zq10; exact zq24; rintro ⟨i, n⟩ hi E' hX' hA' hQ' J hJ; rw [hA] at hJ; refine zl ?_; intro hX hP hA hQ
 refine vc_ok 900 _ _ _ ?_
 dsimp only at hi
 repeat' first
  | refine zC ?_ | apply zI <;> intro hdec | with_reducible constructor | refine zs11 ?_
 all_goals try first
  | (exfalso; omega) | omega | (unfold I64; omega)
  | (have hx := (ext1 (s := s) (i := i) (b := 46) zo).1 (by assumption)
     have hx2 : bt s i = 46 := hx; have hno1 := hno i zo
     first
      | (apply WX_lpF _ hX (hJ ((i + 1, n + 1)) ⟨zj, zj, zj⟩ zj); exact zq17; exact zq3; exact zq3; exact zq3; rfl))
  | (have hx2 : bt s i ≠ 46 := fun h => absurd ((ext1 (s := s) (i := i) (b := 46) zo).2 h) (by assumption)
     have hno1 := hno i zo
     first
      | (apply WX_lpF _ hX (hJ ((i + 1, n)) ⟨zj, zj, zj⟩ zj); exact zq17; exact zq3; exact zq3; exact zq3; rfl))
  | (intro a w' r own hs'; refine ⟨⟨_, rfl, fun r => .inr (congrArg (Value.int .i64) ?_)⟩, hs'.frm⟩; omega)
theorem c180_1 (s : ByteArray) (hs : s.size <= 2147483647) (q : Nat) (hq : q < s.size) (hq1 : bt s q = 46) (hno : ∀ i : Nat, i < s.size -> bt s i = 46 -> i = q) (w : World) : Calls Tryz.prog 180 [.string s, .string ⟨#[46]⟩].toArray w (RetS (.sc (.va (.int .i64 1))) w) := by
 refine calls_start 1000 Tryz.func180 rfl fun E hX hP hA hQ => ?_
 repeat' first
  | refine zA ?_ | apply zI <;> intro hdec | with_reducible constructor | refine zs11 ?_
 all_goals try first
  | (exfalso; omega) | omega
 apply WC_loopF (ι := Nat × Nat) (fun x => x.1 <= s.size /\ x.2 <= x.1 /\ ((x.1 <= q -> x.2 = 0) /\ (q < x.1 -> x.2 = 1))) [18, 19, 20, 21, 22, 23, 24, 25, 26, 27, 28, 29, 30, 31, 32, 33, 34, 35, 5, 36, 37, 38, 39, 6, 40, 41] (fun x => [(5, .sc (.va (.int .i64 x.2))), (6, .sc (.va (.int .i64 x.1)))]) (fun x => s.size - x.1) (0, 0) ⟨Nat.zero_le _, Nat.le_refl _, by first | rfl | (dsimp only; omega)⟩ hX
 exact zq10; exact zq24; rintro ⟨i, n⟩ hi E' hX' hA' hQ' J hJ; rw [hA] at hJ; refine zl ?_; intro hX hP hA hQ
 refine vc_ok 900 _ _ _ ?_
 dsimp only at hi
 repeat' first
  | refine zC ?_ | apply zI <;> intro hdec | with_reducible constructor | refine zs11 ?_
 all_goals try first
  | (exfalso; omega) | omega | (unfold I64; omega)
  | (have hx := (ext1 (s := s) (i := i) (b := 46) zo).1 (by assumption)
     have hx2 : bt s i = 46 := hx; have hno1 := hno i; have hno2 : i = q -> bt s i = 46 := fun h => h ▸ hq1
     first
      | (apply WX_lpF _ hX (hJ ((i + 1, n + 1)) ⟨zj, zj, zj⟩ zj); exact zq17; exact zq3; exact zq3; exact zq3; rfl))
  | (have hx2 : bt s i ≠ 46 := fun h => absurd ((ext1 (s := s) (i := i) (b := 46) zo).2 h) (by assumption)
     have hno1 := hno i; have hno2 : i = q -> bt s i = 46 := fun h => h ▸ hq1
     first
      | (apply WX_lpF _ hX (hJ ((i + 1, n)) ⟨zj, zj, zj⟩ zj); exact zq17; exact zq3; exact zq3; exact zq3; rfl))
  | (intro a w' r own hs'; refine ⟨⟨_, rfl, fun r => .inr (congrArg (Value.int .i64) ?_)⟩, hs'.frm⟩; omega)
end
end
section
attribute [local irreducible] leT leH WO WX WC WD LS WS WQ
theorem eU1 : IntKind.u64.wrap 1 = 1 := by decide
theorem eU53 : IntKind.u64.wrap 53 = 53 := by decide
theorem eUn {k : Int} (h1 : 3 <= k) (h2 : k <= 27) : IntKind.u64.wrap (0 - -k) = k := by simp only [wrapU64_eq]; omega
theorem c131_1 (w : World) (F : Nat -> Prop) (hG : Gl w F) (g : Nat) (hgF : ¬ F g) (nd dp : Int) (ng tr : Bool) (dg : Nat -> Int) (hD : (DecA g nd dp ng tr dg).P w (fun k => k = g)) (h0 : 1 <= nd) (h8 : nd <= 800) (hp : -1000 <= dp /\ dp <= 1000) (hdg : dgOk dg nd) (hd0 : 49 <= dg 0 /\ dg 0 <= 52) : Calls Tryz.prog 131 [.pointer (some ⟨g, 0, none⟩), .int .i64 1].toArray w (RetD (fun _ : Int × Bool × (Nat -> Int) => .tu []) (fun x => 1 <= x.1 /\ x.1 <= nd /\ dgOk x.2.2 x.1 /\ dg 0 < x.2.2 0 /\ x.2.2 0 <= 57) (fun x => DecA g x.1 dp ng x.2.1 x.2.2) g w) := by
 refine calls_startD 1000 g 270 804 _ [.sc (.va (.pointer (some ⟨g, 0, none⟩))), .sc (.va (.int .i64 1))] Tryz.func131 rfl ⟨⟨rfl, rfl⟩, ⟨rfl, rfl⟩, trivial⟩ hD fun E hX hP hA hQ => ?_
 repeat' first
  | refine zC ?_ | apply zI <;> intro hdec | with_reducible constructor
  | (with_reducible show WC _ (.loop (.seq (.seq (.region 2 _ _) _) _)) _ _
     apply WC_loopG (ι := Unit) (fun _ => True) [13, 14, 15, 16, 17, 18, 1] (fun _ => [(1, .sc (.va (.int .i64 1)))]) (fun _ => []) (fun _ => [(0, DecA g nd dp ng tr dg)]) (fun _ => 0) () True.intro [(0, 0)] hX
     exact zq10; exact zq5; exact zq11; exact zq5; rfl; rfl; rfl; exact zq4; intro u hi E' hX' hA' hQ' J hJ; refine zl ?_; intro hX hP hA hQ
     refine vc_ok 900 _ _ _ ?_)
  | (refine WO_LS 850 (LS_callD (α := Int × Bool × (Nat -> Int)) (f := 172) g 270 804 _ _ (fun _ => .tu []) (fun x => 1 <= x.1 /\ x.1 <= nd /\ dgOk x.2.2 x.1 /\ dg 0 < x.2.2 0 /\ x.2.2 0 <= 57) (fun x => DecA g x.1 dp ng x.2.1 x.2.2) hP rfl ?_ ?_ ?_ zw0 ?_) ?_
     exact zq1; exact zq33; exact zq0
     · (intro a w r own hSim hDD; rw [hX] at hSim; simp only [go_sem]; have hGs := (hG.of hSim (fun k hk h => hgF (h ▸ hk))); with_reducible exact c172_1 _ F hGs g hgF nd dp ng tr dg hDD h0 h8 hp hdg hd0)
     intro x hx E2 h1 h2 h3; refine zz ?_; intro hX hP hA hQ)
  | (refine zr16 ?_; intro _ _) | (refine zr17 ?_; intro _ _) | (refine zr18 ?_; intro _ _) | (refine zr19 ?_; intro _ _) | (refine zr14 ?_ ?_; intro _ _) | (refine zr10 ?_; intro _ _ E2 h1 h2 h3; refine zz ?_; intro hX hP hA hQ) | (refine zr11 ?_; intro _ _ E2 h1 h2 h3; refine zz ?_; intro hX hP hA hQ) | (refine zr12 ?_; intro _ _ E2 h1 h2 h3; refine zz ?_; intro hX hP hA hQ) | (refine zr13 ?_; intro _ _ E2 h1 h2 h3; refine zz ?_; intro hX hP hA hQ) | (refine zr9 ?_ ?_; intro _ _ E2 h1 h2 h3; refine zz ?_; intro hX hP hA hQ) | (refine zr15 ?_ ?_ ?_; intro _ _)
  | apply WX_fin hX rfl hQ (.inr rfl)
  | simp (maxSteps := 20000000) only [Tryz.f131, go_sem, zL, ↓reduceIte, reduceCtorEq, Nat.reduceAdd, Nat.reduceMul, Nat.reduceSub, Nat.reduceLeDiff, Nat.reduceEqDiff, Nat.reduceLT, Nat.reduceBEq, Int.reduceEq, hP, hX, addr_add, Nat.mul_one, Nat.zero_add, Nat.add_zero, eU1]
 all_goals try first
  | exact zr1 | (with_reducible show (_ : Int) <= _; omega) | (with_reducible show (_ : Int) < _; omega) | exact zr21 | (with_reducible show (_ : Nat) < _; omega) | (with_reducible show (_ : Nat) <= _; omega)
 all_goals try first
  | (exfalso; omega) | exact zr73
theorem c131_53 (w : World) (F : Nat -> Prop) (hG : Gl w F) (g : Nat) (hgF : ¬ F g) (nd dp : Int) (ng tr : Bool) (dg : Nat -> Int) (hD : (DecA g nd dp ng tr dg).P w (fun k => k = g)) (h0 : 1 <= nd) (h8 : nd <= 800) (hp : -900 <= dp /\ dp <= 900) (hdg : dgOk dg nd) (hd0 : 50 <= dg 0) : Calls Tryz.prog 131 [.pointer (some ⟨g, 0, none⟩), .int .i64 53].toArray w (RetD (fun _ : Int × Int × Bool × (Nat -> Int) => .tu []) (fun x => 0 <= x.1 /\ x.1 <= 800 /\ -1000 <= x.2.1 /\ x.2.1 <= 1000) (fun x => DecA g x.1 x.2.1 ng x.2.2.1 x.2.2.2) g w) := by
 refine calls_startD 1000 g 270 804 _ [.sc (.va (.pointer (some ⟨g, 0, none⟩))), .sc (.va (.int .i64 53))] Tryz.func131 rfl ⟨⟨rfl, rfl⟩, ⟨rfl, rfl⟩, trivial⟩ hD fun E hX hP hA hQ => ?_
 repeat' first
  | refine zC ?_ | apply zI <;> intro hdec | with_reducible constructor
  | (with_reducible show WC _ (.loop (.seq (.seq (.region 2 _ _) _) _)) _ _
     apply WC_loopG (ι := Unit) (fun _ => True) [13, 14, 15, 16, 17, 18, 1] (fun _ => [(1, .sc (.va (.int .i64 53)))]) (fun _ => []) (fun _ => [(0, DecA g nd dp ng tr dg)]) (fun _ => 0) () True.intro [(0, 0)] hX
     exact zq10; exact zq5; exact zq11; exact zq5; rfl; rfl; rfl; exact zq4; intro u hi E' hX' hA' hQ' J hJ; refine zl ?_; intro hX hP hA hQ
     refine vc_ok 900 _ _ _ ?_)
  | (refine WO_LS 850 (LS_callD (α := Int × Int × Bool × (Nat -> Int)) (f := 172) g 270 804 _ _ (fun _ => .tu []) (fun x => 0 <= x.1 /\ x.1 <= 800 /\ -1000 <= x.2.1 /\ x.2.1 <= 1000) (fun x => DecA g x.1 x.2.1 ng x.2.2.1 x.2.2.2) hP rfl ?_ ?_ ?_ zw0 ?_) ?_
     exact zq1; exact zq33; exact zq0
     · (intro a w r own hSim hDD; rw [hX] at hSim; simp only [go_sem]; have hGs := (hG.of hSim (fun k hk h => hgF (h ▸ hk))); with_reducible exact c172_53 _ F hGs g hgF nd dp ng tr dg hDD h0 h8 hp hdg hd0)
     intro x hx E2 h1 h2 h3; refine zz ?_; intro hX hP hA hQ)
  | (refine zr16 ?_; intro _ _) | (refine zr17 ?_; intro _ _) | (refine zr18 ?_; intro _ _) | (refine zr19 ?_; intro _ _) | (refine zr14 ?_ ?_; intro _ _) | (refine zr10 ?_; intro _ _ E2 h1 h2 h3; refine zz ?_; intro hX hP hA hQ) | (refine zr11 ?_; intro _ _ E2 h1 h2 h3; refine zz ?_; intro hX hP hA hQ) | (refine zr12 ?_; intro _ _ E2 h1 h2 h3; refine zz ?_; intro hX hP hA hQ) | (refine zr13 ?_; intro _ _ E2 h1 h2 h3; refine zz ?_; intro hX hP hA hQ) | (refine zr9 ?_ ?_; intro _ _ E2 h1 h2 h3; refine zz ?_; intro hX hP hA hQ) | (refine zr15 ?_ ?_ ?_; intro _ _)
  | apply WX_fin hX rfl hQ (.inr rfl)
  | simp (maxSteps := 20000000) only [Tryz.f131, go_sem, zL, ↓reduceIte, reduceCtorEq, Nat.reduceAdd, Nat.reduceMul, Nat.reduceSub, Nat.reduceLeDiff, Nat.reduceEqDiff, Nat.reduceLT, Nat.reduceBEq, Int.reduceEq, hP, hX, addr_add, Nat.mul_one, Nat.zero_add, Nat.add_zero, eU53]
 all_goals try first
  | exact zr1 | (with_reducible show (_ : Int) <= _; omega) | (with_reducible show (_ : Int) < _; omega) | exact zr21 | (with_reducible show (_ : Nat) < _; omega) | (with_reducible show (_ : Nat) <= _; omega)
 all_goals try first
  | (exfalso; omega) | exact zr73
theorem c131_n (w : World) (F : Nat -> Prop) (hG : Gl w F) (g : Nat) (hgF : ¬ F g) (nd dp : Int) (ng tr : Bool) (dg : Nat -> Int) (hD : (DecA g nd dp ng tr dg).P w (fun k => k = g)) (h0 : 1 <= nd) (h8 : nd <= 800) (hp : -900 <= dp /\ dp <= 900) (hdg : dgOk dg nd) (hd0 : 49 <= dg 0) (k : Int) (hk1 : 3 <= k) (hk2 : k <= 27) : Calls Tryz.prog 131 [.pointer (some ⟨g, 0, none⟩), .int .i64 (-k)].toArray w (RetD (fun _ : RS => .tu []) (RS.ok ((2 : Int) ^ k.toNat) (dg 0)) (fun x => DecA g x.nd (dp - ((x.r : Int) - 1)) ng x.tr x.dg) g w) := by
 have hkw := eUn hk1 hk2
 refine calls_startD 1000 g 270 804 _ [.sc (.va (.pointer (some ⟨g, 0, none⟩))), .sc (.va (.int .i64 (-k)))] Tryz.func131 rfl ⟨⟨rfl, rfl⟩, ⟨rfl, rfl⟩, trivial⟩ hD fun E hX hP hA hQ => ?_
 repeat' first
  | refine zC ?_ | apply zI <;> intro hdec | with_reducible constructor
  | (with_reducible show WC _ (.loop (.seq (.seq (.region 7 _ _) _) _)) _ _
     apply WC_loopG (ι := Unit) (fun _ => True) [26, 27, 28, 29, 30, 31, 1] (fun _ => [(1, .sc (.va (.int .i64 (-k))))]) (fun _ => []) (fun _ => [(0, DecA g nd dp ng tr dg)]) (fun _ => 0) () True.intro [(0, 0)] hX
     exact zq10; exact zq5; exact zq11; exact zq5; rfl; rfl; rfl; exact zq4; intro u hi E' hX' hA' hQ' J hJ; refine zl ?_; intro hX hP hA hQ
     refine vc_ok 900 _ _ _ ?_)
  | (refine WO_LS 850 (LS_callD (α := RS) (f := 173) g 270 804 _ _ (fun _ => .tu []) (RS.ok ((2 : Int) ^ k.toNat) (dg 0)) (fun x => DecA g x.nd (dp - ((x.r : Int) - 1)) ng x.tr x.dg) hP rfl ?_ ?_ ?_ zw0 ?_) ?_
     exact zq1; exact zq33; exact zq0
     · (intro a w r own hSim hDD; rw [hX] at hSim; simp only [go_sem]; with_reducible exact c173 _ g nd dp ng tr dg hDD h0 h8 hp hdg hd0 k hk1 hk2)
     intro x hx E2 h1 h2 h3; refine zz ?_; intro hX hP hA hQ)
  | (refine zr16 ?_; intro _ _) | (refine zr17 ?_; intro _ _) | (refine zr18 ?_; intro _ _) | (refine zr19 ?_; intro _ _) | (refine zr14 ?_ ?_; intro _ _) | (refine zr10 ?_; intro _ _ E2 h1 h2 h3; refine zz ?_; intro hX hP hA hQ) | (refine zr11 ?_; intro _ _ E2 h1 h2 h3; refine zz ?_; intro hX hP hA hQ) | (refine zr12 ?_; intro _ _ E2 h1 h2 h3; refine zz ?_; intro hX hP hA hQ) | (refine zr13 ?_; intro _ _ E2 h1 h2 h3; refine zz ?_; intro hX hP hA hQ) | (refine zr9 ?_ ?_; intro _ _ E2 h1 h2 h3; refine zz ?_; intro hX hP hA hQ) | (refine zr15 ?_ ?_ ?_; intro _ _)
  | apply WX_fin hX rfl hQ (.inr rfl)
  | simp (maxSteps := 20000000) only [Tryz.f131, go_sem, zL, ↓reduceIte, reduceCtorEq, Nat.reduceAdd, Nat.reduceMul, Nat.reduceSub, Nat.reduceLeDiff, Nat.reduceEqDiff, Nat.reduceLT, Nat.reduceBEq, Int.reduceEq, hP, hX, addr_add, Nat.mul_one, Nat.zero_add, Nat.add_zero, hkw]
 all_goals try first
  | exact zr1 | (with_reducible show (_ : Int) <= _; omega) | (with_reducible show (_ : Int) < _; omega) | exact zr21 | (with_reducible show (_ : Nat) < _; omega) | (with_reducible show (_ : Nat) <= _; omega)
 all_goals try first
  | (exfalso; omega) | exact zr73
theorem c191 (w : World) (g : Nat) (nd dp : Int) (ng tr : Bool) (dg : Nat -> Int) (hD : (DecA g nd dp ng tr dg).P w (fun k => k = g)) (h0 : 0 <= nd) (h8 : nd <= 800) (hp : -1000 <= dp /\ dp <= 1000) : Calls Tryz.prog 191 [.pointer (some ⟨g, 0, none⟩)].toArray w (RetD (fun x : Int => .sc (.va (.int .u64 x))) (fun _ => True) (fun _ => DecA g nd dp ng tr dg) g w) := by
 refine calls_startD 1000 g 270 804 _ [.sc (.va (.pointer (some ⟨g, 0, none⟩)))] Tryz.func191 rfl ⟨⟨rfl, rfl⟩, trivial⟩ hD fun E hX hP hA hQ => ?_
 repeat' first
  | refine zA ?_ | apply zI <;> intro hdec | with_reducible constructor | (with_reducible refine vqd_dec ?_ ?_ <;> intro hdec <;> first | rw [decide_eq_true hdec] | rw [decide_eq_false hdec] | skip) | (with_reducible refine vqd_ndec ?_ ?_ <;> intro hdec <;> first | rw [decide_eq_true hdec] | rw [decide_eq_false hdec] | skip)
  | (with_reducible refine vqd_t 850 ?_ ?_
     · exact zq2)
  | (with_reducible refine vqd_f 850 ?_ ?_
     · exact zq2)
  | (with_reducible show WC _ (.loop (.seq (.seq (.region 6 _ _) _) _)) _ _
     apply WC_loopG (ι := Nat × Int) (fun x => (x.1 : Int) <= 20 /\ (x.1 : Int) <= max dp 0) [10, 11, 12, 13, 14, 15, 16, 17, 18, 19, 20, 21, 22, 23, 26, 27, 28, 29, 30, 31, 32, 33, 34, 35, 36, 4, 24, 25, 3] (fun x => [(3, .sc (.va (.int .i64 x.1))), (4, .sc (.va (.int .u64 x.2)))]) (fun _ => []) (fun _ => [(0, DecA g nd dp ng tr dg)]) (fun x => 30 - x.1) (0, 0) ⟨zi, zj⟩ [(0, 0)] hX
     exact zq10; exact zq5; exact zq11; exact zq5; rfl; rfl; rfl; exact zq4; rintro ⟨i, n⟩ ⟨q1, q2⟩ E' hX' hA' hQ' J hJ; refine zl ?_; intro hX hP hA hQ; dsimp only at q1 q2 hA
     refine vc_ok 900 _ _ _ ?_)
  | exact zG11 [(0, 0)] (hJ ((i + 1, IntKind.u64.wrap (IntKind.u64.wrap (n * 10) + IntKind.u64.wrap (IntKind.u8.wrap (dg i - 48))))) ⟨zj, zj⟩ zj)
  | (with_reducible show WC _ (.loop (.seq (.seq (.region 9 _ _) _) _)) _ _
     apply WC_loopG (ι := Nat × Int) (fun x => (x.1 : Int) <= 20) [37, 38, 39, 40, 41, 42, 45, 46, 4, 43, 44, 3] (fun x => [(3, .sc (.va (.int .i64 x.1))), (4, .sc (.va (.int .u64 x.2)))]) (fun _ => []) (fun _ => [(0, DecA g nd dp ng tr dg)]) (fun x => 30 - x.1) (i, n) q1 [(0, 0)] hX
     exact zq10; exact zq5; exact zq11; exact zq5; rfl; rfl; rfl; exact zq4; rintro ⟨i2, n2⟩ q3 E' hX' hA' hQ' J hJ; refine zl ?_; intro hX hP hA hQ; dsimp only at q3 hA
     refine vc_ok 900 _ _ _ ?_)
  | exact zG11 [(0, 0)] (hJ ((i2 + 1, IntKind.u64.wrap (n2 * 10))) zj zj)
  | (refine zr16 ?_; intro _ _) | (refine zr17 ?_; intro _ _) | (refine zr18 ?_; intro _ _) | (refine zr19 ?_; intro _ _) | (refine zr14 ?_ ?_; intro _ _) | (refine zr10 ?_; intro _ _ E2 h1 h2 h3; refine zz ?_; intro hX hP hA hQ) | (refine zr11 ?_; intro _ _ E2 h1 h2 h3; refine zz ?_; intro hX hP hA hQ) | (refine zr12 ?_; intro _ _ E2 h1 h2 h3; refine zz ?_; intro hX hP hA hQ) | (refine zr13 ?_; intro _ _ E2 h1 h2 h3; refine zz ?_; intro hX hP hA hQ) | (refine zr9 ?_ ?_; intro _ _ E2 h1 h2 h3; refine zz ?_; intro hX hP hA hQ) | (refine zr15 ?_ ?_ ?_; intro _ _)
  | (refine WO_LS 850 (LS_callD (α := Bool) (f := 174) g 270 804 _ _ (fun b : Bool => .sc (.va (.bool b))) (fun _ => True) (fun _ => DecA g nd dp ng tr dg) hP rfl ?_ ?_ ?_ zw0 ?_) ?_
     exact zq1; exact zq9; exact zq0
     · (intro a w r own hSim hDD; simp only [go_sem]; exact c174 _ g nd dp ng tr dg hDD h0 h8 dp zo zo)
     intro b hb E2 h1 h2 h3; refine zz ?_; intro hX hP hA hQ
     cases b)
  | apply WX_fin hX rfl hQ (.inr rfl)
  | simp (maxSteps := 20000000) only [Tryz.f191, go_sem, zL, ↓reduceIte, reduceCtorEq, Nat.reduceAdd, Nat.reduceMul, Nat.reduceSub, Nat.reduceLeDiff, Nat.reduceEqDiff, Nat.reduceLT, Nat.reduceBEq, Int.reduceEq, hP, hX, addr_add, Nat.mul_one, Nat.zero_add, Nat.add_zero, Int.toNat_natCast]
 all_goals try first
  | exact zr1 | (with_reducible show (_ : Int) <= _; omega) | (with_reducible show (_ : Int) < _; omega) | exact zr21 | (with_reducible show (_ : Nat) < _; omega) | (with_reducible show (_ : Nat) <= _; omega)
 all_goals try first
  | (exfalso; omega)
  | (intro a w' r' own hs'
     exact retD_fin hs' zw0 _ True.intro (fun r => .inr rfl) (fun h => h))
end
section
attribute [local irreducible] leT leH
section
variable {E : En} {a b c : Code} {k : Kt} {S : St} {X : Cx}
theorem WC_seq (h : WC E a (.sq b k) S) : WC E (.seq a b) k S := fun act w r own hs => wp_seq (h act w r own hs)
theorem WC_block {id : Nat} (h : WC E c (.bl id k) S) : WC E (.block id c) k S := fun act w r own hs => wp_block (h act w r own hs)
theorem WC_cutG {ι : Type} (φ : ι -> Prop) (ms : List Nat) (f : ι -> List (Nat × SV)) (AI : ι -> Facts) (hX : E.X = X)
 (h1 : ∀ J : Act -> World -> Prop, (∀ j, φ j -> ∀ a w r own, Sim X { S with t := over (forget S.t ms) (f j) } (AI j) a w r own -> J a w) -> WC E a (.lp J k) S)
 (h2 : ∀ i, φ i -> ∀ E' : En, E'.X = X -> E'.A = AI i -> E'.Q = E.Q -> WC E' b k { S with t := over (forget S.t ms) (f i) }) : WC E (.seq a b) k S := fun act w r own hs => by
 subst hX
 refine wp_seq (h1 (b.wp E.X.P (kq E k)) (fun i hi a' w' r' own' hs' => ?_) act w r own hs)
 have key := h2 i hi ⟨E.X, AI i, E.Q⟩ rfl rfl rfl a' w' r' own' hs'; have e : kq ⟨E.X, AI i, E.Q⟩ k = kq E k := kq_congr (E := E) (E' := ⟨E.X, AI i, E.Q⟩) rfl rfl k; rw [e] at key; exact key
end
