/- Lemmas for FnFilterTree; each condition stands in its statement. -/
import Derived.Test.YtbfenkhnfflpnaaGreatDoorGcz
namespace Go.Proofs.YtbfenkhnfflpnaaGreatDoor.Sx
open Go Go.RowKit
set_option maxRecDepth 100000
set_option maxHeartbeats 40000000
set_option linter.all false
section
attribute [local irreducible] leT leH WO WX WC WD
section
variable {E : En} {S : St} {c : Call} {dst : Option Tmp} {ty : TypeId} {pos : String} {after : Array Edge} {guard : Option (Nat × Bool)} {P : Program}
theorem NewsU1 {x : Operand} {n cp t : Nat} {b : Int} (hx : ev S x = .sc (.sl n 0 1 cp)) (hf : findH S.h n = some (t, [.va (.int .u8 b)])) : NewsU E S x 1 :=
 NewsU_sl [.int .u8 b] hx hf rfl rfl (fun u hu => by simp only [List.mem_cons, List.not_mem_nil, or_false] at hu; subst hu; exact ⟨_, rfl⟩)
theorem NewsU2 {x : Operand} {n cp t : Nat} {b1 b2 : Int} (hx : ev S x = .sc (.sl n 0 2 cp)) (hf : findH S.h n = some (t, [.va (.int .u8 b1), .va (.int .u8 b2)])) : NewsU E S x 2 :=
 NewsU_sl [.int .u8 b1, .int .u8 b2] hx hf rfl rfl (fun u hu => by simp only [List.mem_cons, List.not_mem_nil, or_false] at hu; rcases hu with rfl | rfl <;> exact ⟨_, rfl⟩)
theorem NewsU3 {x : Operand} {n cp t : Nat} {b1 b2 b3 : Int} (hx : ev S x = .sc (.sl n 0 3 cp)) (hf : findH S.h n = some (t, [.va (.int .u8 b1), .va (.int .u8 b2), .va (.int .u8 b3)])) : NewsU E S x 3 :=
 NewsU_sl [.int .u8 b1, .int .u8 b2, .int .u8 b3] hx hf rfl rfl (fun u hu => by simp only [List.mem_cons, List.not_mem_nil, or_false] at hu; rcases hu with rfl | rfl | rfl <;> exact ⟨_, rfl⟩)
theorem LS_appendV {s x : Operand} {t : Nat} (j : Nat) (v : Value) (n m : Nat) (hP : E.X.P = P) (hc : c = { callee := .builtin .append, args := #[s, x], argTypes := #[t, t] })
 (hT : rowT P t 5 1 1 = true) (hj : (j, RbA v n) ∈ E.A) (hv : ev S s = .sc (.va v)) (hn : NewsU E S x m) (hm : n + m <= 2147483648) :
 LS E S ⟨dst, .call c, ty, pos, after, guard⟩ [] (fun z : Option Addr × Nat × Nat => z.2.1 = n + m) (fun z : Option Addr × Nat × Nat => S.putM dst (.sc (.va (.slice z.1 z.2.1 z.2.2)))) (fun z : Option Addr × Nat × Nat => (S.m, RbA (.slice z.1 z.2.1 z.2.2) z.2.1) :: outF [j] E.A) := by
 intro a w r own hs K Q hK; exact LS_appendU j v n m hP hc hT hv hj hn hm a w r own hs K Q fun z _ => hK (z.1, n + m, z.2) rfl
end
section
attribute [local irreducible] LS WS WQ
theorem c124z (w : World) (F0 : Nat -> Prop) (a' : Option Addr) (n' q' : Nat) (hrow : (RbA (.slice a' n' q') n').P w F0) (hF0 : ∀ k, F0 k -> k < w.heap.size) (hn0 : n' <= 100) (neg : Bool) : Calls Tryz.prog 124 [.slice a' n' q', .bool neg, .slice none 0 0, .int .i64 0, .int .i64 0, .int .i64 (-1), .int .u8 103, .bool true].toArray w (RetJ (fun z : Option Addr × Nat × Nat => .sc (.va (.slice z.1 z.2.1 z.2.2))) (fun _ => True) (fun z => RbA (.slice z.1 z.2.1 z.2.2) z.2.1) F0 w) := by
 refine calls_startJ 1000 [.sc (.va (.slice a' n' q')), .sc (.va (.bool neg)), .sc (.va (.slice none 0 0)), .sc (.va (.int .i64 0)), .sc (.va (.int .i64 0)), .sc (.va (.int .i64 (-1))), .sc (.va (.int .u8 103)), .sc (.va (.bool true))] (RbA (.slice a' n' q') n') F0 Tryz.func124 rfl ⟨⟨rfl, rfl⟩, ⟨rfl, rfl⟩, ⟨rfl, rfl⟩, ⟨rfl, rfl⟩, ⟨rfl, rfl⟩, ⟨rfl, rfl⟩, ⟨rfl, rfl⟩, ⟨rfl, rfl⟩, trivial⟩ hrow hF0 fun E hX hP hA hQ => ?_
 repeat' first
  | refine zB ?_ | apply zI <;> intro hdec | with_reducible constructor
  | (with_reducible show vb _ _ neg _ _ _ _
     cases neg)
  | (with_reducible show vb _ _ (!neg) _ _ _ _
     cases neg)
  | (refine WO_LS 850 (LS_appendV _ _ _ 1 hP rfl ?_ zw0 ?_ ?_ ?_) ?_; exact zq1; exact zq0; exact NewsU1 (by simp only [go_sem]; rfl) rfl; omega; rintro ⟨a', n', q'⟩ hn' E2 h1 h2 h3; dsimp only at hn'; refine zz ?_; intro hX hP hA hQ) | (refine WO_LS 850 (LS_appendV _ _ _ 2 hP rfl ?_ zw0 ?_ ?_ ?_) ?_; exact zq1; exact zq0; exact NewsU2 (by simp only [go_sem]; rfl) rfl; omega; rintro ⟨a', n', q'⟩ hn' E2 h1 h2 h3; dsimp only at hn'; refine zz ?_; intro hX hP hA hQ) | (refine WO_LS 850 (LS_appendV _ _ _ 3 hP rfl ?_ zw0 ?_ ?_ ?_) ?_; exact zq1; exact zq0; exact NewsU3 (by simp only [go_sem]; rfl) rfl; omega; rintro ⟨a', n', q'⟩ hn' E2 h1 h2 h3; dsimp only at hn'; refine zz ?_; intro hX hP hA hQ)
  | simp (maxSteps := 20000000) only [Tryz.f124, go_sem, zL, ↓reduceIte, reduceCtorEq, Nat.reduceAdd, Nat.reduceMul, Nat.reduceSub, Nat.reduceLeDiff, Nat.reduceEqDiff, Nat.reduceLT, Nat.reduceBEq, Int.reduceEq, hP, hX, addr_add, Nat.mul_one, Nat.zero_add, Nat.add_zero, Option.isSome_some, Int.toNat_natCast, Int.toNat_zero]
 all_goals try first
  | (intro a w' r own hs'; exact retJ_fin hs' (a', n', q') trivial (fun r => .inr rfl) zw0) | (with_reducible show I64 (Int.tdiv _ _); exact tdivI zo zo zi) | exact zr1 | (with_reducible show I64 _; unfold I64 imax imin; split <;> omega) | omega
theorem tdivI {x k : Int} (h0 : 0 <= x) (h1 : x <= 1000) (hk : 0 < k) : I64 (x.tdiv k) := by
 rw [Int.tdiv_eq_ediv_of_nonneg h0]; have h2 := Int.ediv_le_self k h0; have h3 := Int.ediv_nonneg h0 (Int.le_of_lt hk)
 unfold I64
 omega
theorem cutA1 (g : Nat) : cutA ⟨g, 0, none⟩ 32 1 1 = ⟨g, 1, none⟩ := by simp [cutA, Addr.add]
theorem c124e (w : World) (F0 : Nat -> Prop) (a' : Option Addr) (n' q' : Nat) (hrow : (RbA (.slice a' n' q') n').P w F0) (hF0 : ∀ k, F0 k -> k < w.heap.size) (hn0 : n' <= 100) (neg : Bool) (g : Nat) (fb : Nat -> Int) (hcell : ∀ i, i < 32 -> w.cell? ⟨g, i, none⟩ = some (.int .u8 (fb i))) (hgF : ¬ F0 g) (dp nd : Int) (hd1 : -400 <= dp) (hd2 : dp <= 420) (hnd0 : 0 <= nd) (hnd : nd <= 20) (hx : dp - 1 < -4 \/ 6 <= dp - 1) : Calls Tryz.prog 124 [.slice a' n' q', .bool neg, .slice (some ⟨g, 0, none⟩) 32 32, .int .i64 dp, .int .i64 nd, .int .i64 nd, .int .u8 103, .bool true].toArray w (RetJ (fun z : Option Addr × Nat × Nat => .sc (.va (.slice z.1 z.2.1 z.2.2))) (fun _ => True) (fun z => RbA (.slice z.1 z.2.1 z.2.2) z.2.1) F0 w) := by
 have imin_nd : (imin nd (nd - 1 + 1)).toNat = nd.toNat := by unfold imin; split <;> omega
 refine calls_startJ 1000 [.sc (.va (.slice a' n' q')), .sc (.va (.bool neg)), .sc (.va (.slice (some ⟨g, 0, none⟩) 32 32)), .sc (.va (.int .i64 dp)), .sc (.va (.int .i64 nd)), .sc (.va (.int .i64 nd)), .sc (.va (.int .u8 103)), .sc (.va (.bool true))] (RbA (.slice a' n' q') n') F0 Tryz.func124 rfl ⟨⟨rfl, rfl⟩, ⟨rfl, rfl⟩, ⟨rfl, rfl⟩, ⟨rfl, rfl⟩, ⟨rfl, rfl⟩, ⟨rfl, rfl⟩, ⟨rfl, rfl⟩, ⟨rfl, rfl⟩, trivial⟩ hrow hF0 fun E hX hP hA hQ => ?_
 repeat' first
  | refine zB ?_ | apply zI <;> intro hdec | with_reducible constructor
  | (with_reducible show vb _ _ neg _ _ _ _
     cases neg)
  | (with_reducible show vb _ _ (!neg) _ _ _ _
     cases neg)
  | (refine WO_LS 850 (LS_appendV _ _ _ 1 hP rfl ?_ zw0 ?_ ?_ ?_) ?_; exact zq1; exact zq0; exact NewsU1 (by simp only [go_sem]; rfl) rfl; omega; rintro ⟨a', n', q'⟩ hn' E2 h1 h2 h3; dsimp only at hn'; refine zz ?_; intro hX hP hA hQ) | (refine WO_LS 850 (LS_appendV _ _ _ 2 hP rfl ?_ zw0 ?_ ?_ ?_) ?_; exact zq1; exact zq0; exact NewsU2 (by simp only [go_sem]; rfl) rfl; omega; rintro ⟨a', n', q'⟩ hn' E2 h1 h2 h3; dsimp only at hn'; refine zz ?_; intro hX hP hA hQ) | (refine WO_LS 850 (LS_appendV _ _ _ 3 hP rfl ?_ zw0 ?_ ?_ ?_) ?_; exact zq1; exact zq0; exact NewsU3 (by simp only [go_sem]; rfl) rfl; omega; rintro ⟨a', n', q'⟩ hn' E2 h1 h2 h3; dsimp only at hn'; refine zz ?_; intro hX hP hA hQ) | (refine WO_LS 850 (LS_appendV _ _ _ (nd.toNat - 1) hP rfl ?_ zw0 ?_ ?_ ?_) ?_; exact zq1; exact zq0; exact NewsU_w0 ⟨g, 1, none⟩ (fun j => fb (1 + j)) (by simp only [go_sem]; rfl) (by rw [hX]; exact fun j hj => by rw [addr_add]; exact hcell (1 + j) zo) (by rw [hX]; exact hgF); omega; rintro ⟨a', n', q'⟩ hn' E2 h1 h2 h3; dsimp only at hn'; refine zz ?_; intro hX hP hA hQ)
  | (refine WO_LE 850 (LS_ssl (e := 5) (k := 1) hP el207 ?_ ?_ ?_ ?_ ?_ ?_) ?_
     exact zq0; exact zq0; exact zq0
     rotate_left 3
     intro _ _; simp only [go_sem, cutA00, cutA1, Option.map_some, Int.toNat_natCast, Int.toNat_zero, Int.toNat_one, Nat.sub_zero, imin_nd])
  | (refine WO_LE 850 (LS_rc (⟨g, 0, none⟩) [.int .u8 (fb 0)] false hX ?_ ?_ ?_ ?_ (fun _ => rfl)) ?_; exact zq0; exact one_cell (hcell 0 zo); exact hgF; exact sz5; intro _ _)
  | (with_reducible show WC _ (.loop _) _ _
     apply WC_loopG (ι := Option Addr × Nat × Nat) (fun x => x.2.1 <= 1000) [115, 116, 117, 118, 0, 119, 114] (fun x => [(0, .sc (.va (.slice x.1 x.2.1 x.2.2))), (114, .sc (.va (.int .i64 0)))]) (fun _ => []) (fun x => [(0, RbA (.slice x.1 x.2.1 x.2.2) x.2.1)]) (fun _ => 0) (a', n', q') zj [(3, 0)] hX
     exact zq10; exact zq5; exact zq7; exact zq5; rfl; rfl; rfl; exact zq4; rintro ⟨a', n', q'⟩ hi E' hX' hA' hQ' J hJ; refine zl ?_; intro hX hP hA hQ
     refine vc_ok 900 _ _ _ ?_
     dsimp only at hi hA)
  | (with_reducible show WC _ (.loop _) _ _
     apply WC_loopG (ι := Option Addr × Nat × Nat) (fun x => x.2.1 <= 1000) [115, 116, 117, 118, 0, 119, 114] (fun x => [(0, .sc (.va (.slice x.1 x.2.1 x.2.2))), (114, .sc (.va (.int .i64 0)))]) (fun _ => []) (fun x => [(0, RbA (.slice x.1 x.2.1 x.2.2) x.2.1)]) (fun _ => 0) (a', n', q') zj [(4, 0)] hX
     exact zq10; exact zq5; exact zq7; exact zq5; rfl; rfl; rfl; exact zq4; rintro ⟨a', n', q'⟩ hi E' hX' hA' hQ' J hJ; refine zl ?_; intro hX hP hA hQ
     refine vc_ok 900 _ _ _ ?_
     dsimp only at hi hA)
  | (with_reducible show WC _ (.loop _) _ _
     apply WC_loopG (ι := Option Addr × Nat × Nat) (fun x => x.2.1 <= 1000) [115, 116, 117, 118, 0, 119, 114] (fun x => [(0, .sc (.va (.slice x.1 x.2.1 x.2.2))), (114, .sc (.va (.int .i64 0)))]) (fun _ => []) (fun x => [(0, RbA (.slice x.1 x.2.1 x.2.2) x.2.1)]) (fun _ => 0) (a', n', q') zj [(5, 0)] hX
     exact zq10; exact zq5; exact zq7; exact zq5; rfl; rfl; rfl; exact zq4; rintro ⟨a', n', q'⟩ hi E' hX' hA' hQ' J hJ; refine zl ?_; intro hX hP hA hQ
     refine vc_ok 900 _ _ _ ?_
     dsimp only at hi hA)
  | simp (maxSteps := 20000000) only [Tryz.f124, go_sem, zL, ↓reduceIte, reduceCtorEq, Nat.reduceAdd, Nat.reduceMul, Nat.reduceSub, Nat.reduceLeDiff, Nat.reduceEqDiff, Nat.reduceLT, Nat.reduceBEq, Int.reduceEq, hP, hX, addr_add, Nat.mul_one, Nat.zero_add, Nat.add_zero, Option.isSome_some, Int.toNat_natCast, Int.toNat_zero]
 all_goals try first
  | (intro a w' r own hs'; exact retJ_fin hs' (a', n', q') trivial (fun r => .inr rfl) zw0) | (with_reducible show I64 (Int.tdiv _ _); exact tdivI zo zo zi) | exact zr1 | (with_reducible show I64 _; unfold I64 imax imin; split <;> omega) | omega
end
