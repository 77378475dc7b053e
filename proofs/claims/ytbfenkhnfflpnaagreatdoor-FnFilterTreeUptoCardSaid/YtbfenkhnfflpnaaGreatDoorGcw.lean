/- Lemmas for FnFilterTree; each condition stands in its statement. -/
import Derived.Test.YtbfenkhnfflpnaaGreatDoorGcv
import Derived.ScopeJumps
namespace Go.Proofs.YtbfenkhnfflpnaaGreatDoor.Sx
open Go Go.RowKit
set_option maxRecDepth 100000
set_option maxHeartbeats 40000000
set_option linter.all false
section
attribute [local irreducible] leT leH WO WX WC WD
theorem el268 : elT Tryz.prog 268 = none := zk
theorem ar268 : arT Tryz.prog 268 = some (800, 1) := zk
attribute [go_sem] el268
section
variable {E : En} {S : St} {c : Call} {dst : Option Tmp} {ty : TypeId} {pos : String} {after : Array Edge} {guard : Option (Nat × Bool)} {P : Program} {t : TypeId} {x y : Operand}
theorem LS_dnd (g j : Nat) (nd dp : Int) (ng tr : Bool) (dg : Nat -> Int) (hP : E.X.P = P) (hj : (j, DecA g nd dp ng tr dg) ∈ E.A) (hx : ev S x = .sc (.va (.pointer (some ⟨g, 800, none⟩)))) (hsz : szT P t = some (1, false)) :
 LS E S ⟨dst, .load t x, ty, pos, after, guard⟩ [] (fun _ : Unit => True) (fun _ => S.put dst (.sc (.va (.int .i64 nd)))) (fun _ => E.A) := LS_fload g 270 804 _ j 800 _ hP hx hj zi rfl hsz
theorem LS_ddp (g j : Nat) (nd dp : Int) (ng tr : Bool) (dg : Nat -> Int) (hP : E.X.P = P) (hj : (j, DecA g nd dp ng tr dg) ∈ E.A) (hx : ev S x = .sc (.va (.pointer (some ⟨g, 801, none⟩)))) (hsz : szT P t = some (1, false)) :
 LS E S ⟨dst, .load t x, ty, pos, after, guard⟩ [] (fun _ : Unit => True) (fun _ => S.put dst (.sc (.va (.int .i64 dp)))) (fun _ => E.A) := LS_fload g 270 804 _ j 801 _ hP hx hj zi rfl hsz
theorem LS_dng (g j : Nat) (nd dp : Int) (ng tr : Bool) (dg : Nat -> Int) (hP : E.X.P = P) (hj : (j, DecA g nd dp ng tr dg) ∈ E.A) (hx : ev S x = .sc (.va (.pointer (some ⟨g, 802, none⟩)))) (hsz : szT P t = some (1, false)) :
 LS E S ⟨dst, .load t x, ty, pos, after, guard⟩ [] (fun _ : Unit => True) (fun _ => S.put dst (.sc (.va (.bool ng)))) (fun _ => E.A) := LS_fload g 270 804 _ j 802 _ hP hx hj zi rfl hsz
theorem LS_dtr (g j : Nat) (nd dp : Int) (ng tr : Bool) (dg : Nat -> Int) (hP : E.X.P = P) (hj : (j, DecA g nd dp ng tr dg) ∈ E.A) (hx : ev S x = .sc (.va (.pointer (some ⟨g, 803, none⟩)))) (hsz : szT P t = some (1, false)) :
 LS E S ⟨dst, .load t x, ty, pos, after, guard⟩ [] (fun _ : Unit => True) (fun _ => S.put dst (.sc (.va (.bool tr)))) (fun _ => E.A) := LS_fload g 270 804 _ j 803 _ hP hx hj zi rfl hsz
theorem LS_ddg (g j : Nat) (nd dp : Int) (ng tr : Bool) (dg : Nat -> Int) (hP : E.X.P = P) (hj : (j, DecA g nd dp ng tr dg) ∈ E.A) (hx0 : isP (ev S x) = true) (hxg : (adOf (ev S x)).block = g /\ (adOf (ev S x)).spot = none) (hq : (adOf (ev S x)).off < 800) (hsz : szT P t = some (1, false)) :
 LS E S ⟨dst, .load t x, ty, pos, after, guard⟩ [] (fun _ : Unit => True) (fun _ => S.put dst (.sc (.va (.int .u8 (dg (adOf (ev S x)).off))))) (fun _ => E.A) := by
 have hx := isP_of hx0
 generalize adOf (ev S x) = ad at *
 obtain ⟨b, q, tl⟩ := ad; obtain ⟨rfl, h2⟩ := hxg
 simp only at h2 hq
 subst h2; exact LS_fload b 270 804 _ j q _ hP hx hj zo (decF_dg nd dp ng tr dg hq) hsz
theorem LS_snd (g j : Nat) (nd dp : Int) (ng tr : Bool) (dg : Nat -> Int) (hP : E.X.P = P) (hj : (j, DecA g nd dp ng tr dg) ∈ E.A) (hx : ev S x = .sc (.va (.pointer (some ⟨g, 800, none⟩)))) (hy : isI .i64 (ev S y) = true) (hsz : szT P t = some (1, false)) :
 LS E S ⟨dst, .store t x y, ty, pos, after, guard⟩ [] (fun _ : Unit => True) (fun _ => S.putM dst undefSV) (fun _ => (S.m, DecA g (intOf (ev S y)) dp ng tr dg) :: outF [j] E.A) := by
 have := LS_fstore (dst := dst) (ty := ty) (pos := pos) (after := after) (guard := guard) g 270 804 _ j 800 _ hP hx (isI_of hy) rfl hj zi hsz; rw [upd_nd] at this; exact this
theorem LS_sdp (g j : Nat) (nd dp : Int) (ng tr : Bool) (dg : Nat -> Int) (hP : E.X.P = P) (hj : (j, DecA g nd dp ng tr dg) ∈ E.A) (hx : ev S x = .sc (.va (.pointer (some ⟨g, 801, none⟩)))) (hy : isI .i64 (ev S y) = true) (hsz : szT P t = some (1, false)) :
 LS E S ⟨dst, .store t x y, ty, pos, after, guard⟩ [] (fun _ : Unit => True) (fun _ => S.putM dst undefSV) (fun _ => (S.m, DecA g nd (intOf (ev S y)) ng tr dg) :: outF [j] E.A) := by
 have := LS_fstore (dst := dst) (ty := ty) (pos := pos) (after := after) (guard := guard) g 270 804 _ j 801 _ hP hx (isI_of hy) rfl hj zi hsz; rw [upd_dp] at this; exact this
def boolOf : SV -> Bool
 | .sc (.va (.bool b)) => b
 | _ => false
def isB : SV -> Bool
 | .sc (.va (.bool _)) => true
 | _ => false
theorem isB_of {s : SV} (h : isB s = true) : s = .sc (.va (.bool (boolOf s))) := by
 unfold isB at h
 split at h
 · rfl
 · cases h
theorem LS_sng (g j : Nat) (nd dp : Int) (ng tr : Bool) (dg : Nat -> Int) (hP : E.X.P = P) (hj : (j, DecA g nd dp ng tr dg) ∈ E.A) (hx : ev S x = .sc (.va (.pointer (some ⟨g, 802, none⟩)))) (hy : isB (ev S y) = true) (hsz : szT P t = some (1, false)) :
 LS E S ⟨dst, .store t x y, ty, pos, after, guard⟩ [] (fun _ : Unit => True) (fun _ => S.putM dst undefSV) (fun _ => (S.m, DecA g nd dp (boolOf (ev S y)) tr dg) :: outF [j] E.A) := by
 have := LS_fstore (dst := dst) (ty := ty) (pos := pos) (after := after) (guard := guard) g 270 804 _ j 802 _ hP hx (isB_of hy) rfl hj zi hsz; rw [upd_ng] at this; exact this
theorem LS_str (g j : Nat) (nd dp : Int) (ng tr : Bool) (dg : Nat -> Int) (hP : E.X.P = P) (hj : (j, DecA g nd dp ng tr dg) ∈ E.A) (hx : ev S x = .sc (.va (.pointer (some ⟨g, 803, none⟩)))) (hy : isB (ev S y) = true) (hsz : szT P t = some (1, false)) :
 LS E S ⟨dst, .store t x y, ty, pos, after, guard⟩ [] (fun _ : Unit => True) (fun _ => S.putM dst undefSV) (fun _ => (S.m, DecA g nd dp ng (boolOf (ev S y)) dg) :: outF [j] E.A) := by
 have := LS_fstore (dst := dst) (ty := ty) (pos := pos) (after := after) (guard := guard) g 270 804 _ j 803 _ hP hx (isB_of hy) rfl hj zi hsz; rw [upd_tr] at this; exact this
theorem LS_sdg (g j : Nat) (nd dp : Int) (ng tr : Bool) (dg : Nat -> Int) (hP : E.X.P = P) (hj : (j, DecA g nd dp ng tr dg) ∈ E.A) (hx0 : isP (ev S x) = true) (hxg : (adOf (ev S x)).block = g /\ (adOf (ev S x)).spot = none) (hq : (adOf (ev S x)).off < 800) (hy : isI .u8 (ev S y) = true) (hsz : szT P t = some (1, false)) :
 LS E S ⟨dst, .store t x y, ty, pos, after, guard⟩ [] (fun _ : Unit => True) (fun _ => S.putM dst undefSV) (fun _ => (S.m, DecA g nd dp ng tr (updD dg (adOf (ev S x)).off (intOf (ev S y)))) :: outF [j] E.A) := by
 have hx := isP_of hx0
 generalize adOf (ev S x) = ad at *
 obtain ⟨b, q, tl⟩ := ad; obtain ⟨rfl, h2⟩ := hxg
 simp only at h2 hq
 subst h2; have := LS_fstore (dst := dst) (ty := ty) (pos := pos) (after := after) (guard := guard) b 270 804 _ j q _ hP hx (isI_of hy) rfl hj zo hsz; rw [upd_dg _ _ _ _ _ hq] at this; exact this
theorem yl_aix {o : Oper} {i : Operand} {a : Act} {w : World} {r : Nat -> Nat} (n k : Nat) (ho : o.op = .indexAddr t x i) (hT : arT P t = some (n, k)) (hx0 : isP (ev S x) = true) (hi0 : isInt (ev S i) = true) (h1 : 0 <= intOf (ev S i)) (h2 : intOf (ev S i) < n) (hs : SimR S a w r) :
 Yl P r S.n o a w (.sc (.va (.pointer (some ((adOf (ev S x)).add ((intOf (ev S i)).toNat * k)))))) := by
 have hx := isP_of hx0; obtain ⟨k', hi⟩ := isInt_of hi0
 generalize adOf (ev S x) = ad at *
 generalize intOf (ev S i) = m at *
 have e1 := va_of (hx ▸ (ev_ok hs x).1); have e2 := va_of (hi ▸ (ev_ok hs i).1); obtain ⟨e, inf, hu, he, rfl⟩ := arT_spec hT
 refine ⟨_, ok_va r _, trivial, ?_⟩
 simp [execOp, ho, e1, e2, Instr.indexAt, asIntOf, run_underlying hu, Instr.sureAddr, h1, h2, sizeOf, typeInfo, he]
section
variable {ops : List Oper} {L : List Nat} {k : Kt} {i : Nat} {l : List Nat}
theorem WQ_aix {ix : Operand} (n0 n m : Nat) (hP : E.X.P = P) (hQ : QP E.Q) (ho : nthO ops i = some ⟨dst, .indexAddr t x ix, ty, pos, after, guard⟩) (hL : L.contains i = false) (hw : ∀ a w r own, Sim E.X S E.A a w r own -> Region.wanted ⟨dst, .indexAddr t x ix, ty, pos, after, guard⟩ (yielded ops.toArray a.tmps) = true)
 (hT : arT P t = some (n, m)) (hx0 : isP (ev S x) = true) (hi0 : isInt (ev S ix) = true) (h1 : 0 <= intOf (ev S ix)) (h2 : intOf (ev S ix) < n)
 (h : vq E n0 ops L k l (S.put dst (.sc (.va (.pointer (some ((adOf (ev S x)).add ((intOf (ev S ix)).toNat * m)))))))) : WQ E ops L k (i :: l) S :=
 WQ_take (sv := .sc (.va (.pointer (some ((adOf (ev S x)).add ((intOf (ev S ix)).toNat * m)))))) hQ ho hL rfl hw (fun _ _ _ _ _ => trivial) (fun a w r own hs w' _ => by
  subst hP
  have e0 : ∀ y, ev (⟨S.t, [], S.n, S.m⟩ : St) y = ev S y := fun y => by cases y <;> rfl
  have := yl_aix (S := ⟨S.t, [], S.n, S.m⟩) (w := w') (o := ⟨dst, .indexAddr t x ix, ty, pos, after, guard⟩) n m rfl hT (by rw [e0]; exact hx0) (by rw [e0]; exact hi0) (by rw [e0]; exact h1) (by rw [e0]; exact h2) (⟨hs.sz, hs.slot, hs.slt, fun n t cs hm => by cases hm⟩ : SimR ⟨S.t, [], S.n, S.m⟩ a w' r); simp only [e0] at this; exact this) (vq_ok hQ n0 l _ h)
theorem WQ_dnd (n0 : Nat) (g j : Nat) (nd dp : Int) (ng tr : Bool) (dg : Nat -> Int) (hP : E.X.P = P) (hQ : QP E.Q) (ho : nthO ops i = some ⟨dst, .load t x, ty, pos, after, guard⟩) (hL : L.contains i = false) (hw : ∀ a w r own, Sim E.X S E.A a w r own -> Region.wanted ⟨dst, .load t x, ty, pos, after, guard⟩ (yielded ops.toArray a.tmps) = true)
 (hj : (j, DecA g nd dp ng tr dg) ∈ E.A) (hx : ev S x = .sc (.va (.pointer (some ⟨g, 800, none⟩)))) (hsz : szT P t = some (1, false)) (h : vq E n0 ops L k l (S.put dst (.sc (.va (.int .i64 nd))))) : WQ E ops L k (i :: l) S :=
 WQ_fload n0 g 270 804 _ j 800 _ hP hQ ho hL rfl hw hx hj zi rfl hsz h
theorem WQ_ddp (n0 : Nat) (g j : Nat) (nd dp : Int) (ng tr : Bool) (dg : Nat -> Int) (hP : E.X.P = P) (hQ : QP E.Q) (ho : nthO ops i = some ⟨dst, .load t x, ty, pos, after, guard⟩) (hL : L.contains i = false) (hw : ∀ a w r own, Sim E.X S E.A a w r own -> Region.wanted ⟨dst, .load t x, ty, pos, after, guard⟩ (yielded ops.toArray a.tmps) = true)
 (hj : (j, DecA g nd dp ng tr dg) ∈ E.A) (hx : ev S x = .sc (.va (.pointer (some ⟨g, 801, none⟩)))) (hsz : szT P t = some (1, false)) (h : vq E n0 ops L k l (S.put dst (.sc (.va (.int .i64 dp))))) : WQ E ops L k (i :: l) S :=
 WQ_fload n0 g 270 804 _ j 801 _ hP hQ ho hL rfl hw hx hj zi rfl hsz h
theorem WQ_ddg (n0 : Nat) (g j : Nat) (nd dp : Int) (ng tr : Bool) (dg : Nat -> Int) (hP : E.X.P = P) (hQ : QP E.Q) (ho : nthO ops i = some ⟨dst, .load t x, ty, pos, after, guard⟩) (hL : L.contains i = false) (hw : ∀ a w r own, Sim E.X S E.A a w r own -> Region.wanted ⟨dst, .load t x, ty, pos, after, guard⟩ (yielded ops.toArray a.tmps) = true)
 (hj : (j, DecA g nd dp ng tr dg) ∈ E.A) (hx0 : isP (ev S x) = true) (hxg : (adOf (ev S x)).block = g /\ (adOf (ev S x)).spot = none) (hq : (adOf (ev S x)).off < 800) (hsz : szT P t = some (1, false)) (h : vq E n0 ops L k l (S.put dst (.sc (.va (.int .u8 (dg (adOf (ev S x)).off)))))) : WQ E ops L k (i :: l) S := by
 have hx := isP_of hx0
 generalize adOf (ev S x) = ad at *
 obtain ⟨b, q, tl⟩ := ad; obtain ⟨rfl, h2⟩ := hxg
 simp only at h2 hq
 subst h2; exact WQ_fload n0 b 270 804 _ j q _ hP hQ ho hL rfl hw hx hj zo (decF_dg nd dp ng tr dg hq) hsz h
end
end
section
attribute [local irreducible] LS WS WQ
theorem bq_tt : (true == true) = true := rfl
theorem bq_tf : (true == false) = false := rfl
theorem bq_ft : (false == true) = false := rfl
theorem bq_ff : (false == false) = true := rfl
attribute [go_sem] boolOf isB bq_tt bq_tf bq_ft bq_ff
end
end
section
attribute [local irreducible] leT leH WO WX WC WD LS WS WQ
theorem c174 (w : World) (g : Nat) (nd dp : Int) (ng tr : Bool) (dg : Nat -> Int) (hD : (DecA g nd dp ng tr dg).P w (fun k => k = g)) (h0 : 0 <= nd) (h8 : nd <= 800) (n : Int) (hn : -1000 <= n) (hn2 : n <= 1000) : Calls Tryz.prog 174 [.pointer (some ⟨g, 0, none⟩), .int .i64 n].toArray w (RetD (fun b : Bool => .sc (.va (.bool b))) (fun _ => True) (fun _ => DecA g nd dp ng tr dg) g w) := by
 refine calls_startD 1000 g 270 804 _ [.sc (.va (.pointer (some ⟨g, 0, none⟩))), .sc (.va (.int .i64 n))] Tryz.func174 rfl ⟨⟨rfl, rfl⟩, ⟨rfl, rfl⟩, trivial⟩ hD fun E hX hP hA hQ => ?_
 repeat' first
  | refine zA ?_ | apply zI <;> intro hdec | with_reducible constructor
  | (with_reducible show vb _ _ tr _ _ _ _
     cases tr)
  | (with_reducible show vb _ _ (!tr) _ _ _ _
     cases tr)
  | (refine zr16 ?_; intro _ _) | (refine zr17 ?_; intro _ _) | (refine zr18 ?_; intro _ _) | (refine zr19 ?_; intro _ _) | (refine zr14 ?_ ?_; intro _ _) | (refine zr10 ?_; intro _ _ E2 h1 h2 h3; refine zz ?_; intro hX hP hA hQ) | (refine zr11 ?_; intro _ _ E2 h1 h2 h3; refine zz ?_; intro hX hP hA hQ) | (refine zr12 ?_; intro _ _ E2 h1 h2 h3; refine zz ?_; intro hX hP hA hQ) | (refine zr13 ?_; intro _ _ E2 h1 h2 h3; refine zz ?_; intro hX hP hA hQ) | (refine zr9 ?_ ?_; intro _ _ E2 h1 h2 h3; refine zz ?_; intro hX hP hA hQ) | (refine zr15 ?_ ?_ ?_; intro _ _) | refine zs28 ?_
 all_goals try first
  | omega | (unfold I64; omega) | (intro a w' r own hs'; exact retD_fin hs' zw0 _ trivial (fun r => .inr rfl) (fun h => h))
theorem c171 (w : World) (g : Nat) (nd dp : Int) (ng tr : Bool) (dg : Nat -> Int) (hD : (DecA g nd dp ng tr dg).P w (fun k => k = g)) (h0 : 0 <= nd) (h8 : nd <= 800) (hp : -1000 <= dp /\ dp <= 1000) : Calls Tryz.prog 171 [.pointer (some ⟨g, 0, none⟩)].toArray w (RetD (fun x : Int × Int => .tu []) (fun x => 0 <= x.1 /\ x.1 <= nd /\ (x.1 = 0 -> x.2 = 0) /\ (0 < x.1 -> x.2 = dp) /\ (0 < nd -> dg 0 ≠ 48 -> 0 < x.1)) (fun x : Int × Int => DecA g x.1 x.2 ng tr dg) g w) := by
 refine calls_startD 1000 g 270 804 _ [.sc (.va (.pointer (some ⟨g, 0, none⟩)))] Tryz.func171 rfl ⟨⟨rfl, rfl⟩, trivial⟩ hD fun E hX hP hA hQ => ?_
 repeat' first
  | refine zA ?_ | apply zI <;> intro hdec | with_reducible constructor | (with_reducible refine vqd_dec ?_ ?_ <;> intro hdec <;> first | rw [decide_eq_true hdec] | rw [decide_eq_false hdec] | skip) | (with_reducible refine vqd_ndec ?_ ?_ <;> intro hdec <;> first | rw [decide_eq_true hdec] | rw [decide_eq_false hdec] | skip)
  | (with_reducible refine vqd_t 850 ?_ ?_
     · exact zq2)
  | (with_reducible refine vqd_f 850 ?_ ?_
     · exact zq2)
  | (refine zr16 ?_; intro _ _) | (refine zr17 ?_; intro _ _) | (refine zr18 ?_; intro _ _) | (refine zr19 ?_; intro _ _) | (refine zr14 ?_ ?_; intro _ _) | (refine zr10 ?_; intro _ _ E2 h1 h2 h3; refine zz ?_; intro hX hP hA hQ) | (refine zr11 ?_; intro _ _ E2 h1 h2 h3; refine zz ?_; intro hX hP hA hQ) | (refine zr12 ?_; intro _ _ E2 h1 h2 h3; refine zz ?_; intro hX hP hA hQ) | (refine zr13 ?_; intro _ _ E2 h1 h2 h3; refine zz ?_; intro hX hP hA hQ) | (refine zr9 ?_ ?_; intro _ _ E2 h1 h2 h3; refine zz ?_; intro hX hP hA hQ) | (refine zr15 ?_ ?_ ?_; intro _ _) | refine zr34 ?_ | refine zr35 ?_ | refine zr30 ?_ ?_ | refine zr32 ?_ ?_ ?_
  | (with_reducible show WC _ (.region _ _ true) _ _
     apply WC_q 900 [] hP
     exact zq1; exact zq2; exact zq1)
  | apply WX_fin hX rfl hQ (.inr rfl)
  | (with_reducible show WC _ (.loop _) _ _
     apply WC_loopG (ι := Int) (fun x => 0 <= x /\ x <= nd /\ (0 < nd -> dg 0 ≠ 48 -> 0 < x)) [2, 3, 4, 5, 6, 7, 8, 9, 10, 11, 12, 13, 14, 15, 16, 17, 18, 19, 20, 21, 22, 23, 24, 25, 26] (fun _ => []) (fun _ => []) (fun x => [(0, DecA g x dp ng tr dg)]) (fun x => x.toNat) nd ⟨h0, Int.le_refl _, fun h _ => h⟩ [(0, 0)] hX
     exact zq10; exact zq5; exact zq7; exact zq5; rfl; rfl; rfl; exact zq4; intro i hi E' hX' hA' hQ' J hJ; refine zl ?_; intro hX hP hA hQ
     refine vc_ok 900 _ _ _ ?_)
  | (refine WX_lpG _ _ [(1, 0)] hX (hJ (i - 1) ⟨zo, zo, fun h1 h2 => by
      rcases Int.lt_or_le 0 (i - 1) with h | h
      · exact h
      · have e0 : (i - 1).toNat = 0 := by omega
        have hd48 : dg (i - 1).toNat = 48 := by assumption
        rw [e0] at hd48
        exact absurd hd48 h2⟩ zo) ?_ ?_ ?_ ?_ ?_ ?_ ?_ ?_
     exact zq7; exact zq3; exact zq7; exact zq3; rfl; rfl; rfl; exact zq4)
  | refine zs28 ?_
 all_goals try first
  | omega | (unfold I64; omega) | (intro a w' r own hs'; exact retD_fin hs' zw0 (i, dp) ⟨hi.1, hi.2.1, fun h => absurd h (by assumption), fun _ => rfl, hi.2.2⟩ (fun r => tu0) (fun h => h)) | (intro a w' r own hs'; exact retD_fin hs' zw0 (i, 0) ⟨hi.1, hi.2.1, fun _ => rfl, fun h => absurd h zj, hi.2.2⟩ (fun r => tu0) (fun h => h))
end
section
attribute [local irreducible] leT leH
section
theorem kq_goto (E : En) (l : Nat) : ∀ (k : Kt) (a : Act) (w : World), kq E k (.goto l) a w = E.Q (.goto l) a w
 | .nil, a, w => rfl
 | .sq c k, a, w => kq_goto E l k a w
 | .bl id k, a, w => kq_goto E l k a w
 | .lp I k, a, w => kq_goto E l k a w
theorem WC_scopeJ {E : En} {c rest : Code} {S : St} {ι : Type} (n l : Nat) (hf : findLabel c l = some rest) (SI : ι -> St) (AI : ι -> Facts) (φ : ι -> Prop)
 (h : ∀ E' : En, E'.X = E.X -> E'.A = E.A -> E'.Q = Exit.jump l (fun a w => ∃ i, φ i /\ ∃ r own, Sim E.X (SI i) (AI i) a w r own) E.Q -> vc E' n c .nil S)
 (h2 : ∀ i, φ i -> ∀ E' : En, E'.X = E.X -> E'.A = AI i -> E'.Q = Exit.jump l (fun _ _ => False) E.Q -> vc E' n rest .nil (SI i)) : WC E (.scope c) .nil S := fun a w r own hs => by
 refine wp_scope_jumps l (fun a w => ∃ i, φ i /\ ∃ r own, Sim E.X (SI i) (AI i) a w r own) (fun _ _ => 0) hf (vc_ok n c .nil S (h ⟨E.X, E.A, Exit.jump l (fun a w => ∃ i, φ i /\ ∃ r own, Sim E.X (SI i) (AI i) a w r own) E.Q⟩ rfl rfl rfl) a w r own hs) ?_
 rintro a1 w1 ⟨i, hi, r1, own1, hs1⟩; have key := vc_ok n rest .nil (SI i) (h2 i hi ⟨E.X, AI i, Exit.jump l (fun _ _ => False) E.Q⟩ rfl rfl rfl) a1 w1 r1 own1 hs1
 refine wp_mono key fun e a2 w2 hq => ?_
 cases e with
 | goto l' => exact hq.2.elim
 | _ => exact hq
theorem WX_goto {E : En} {l : Nat} {k : Kt} {S : St} {J : Act -> World -> Prop} {Q : Exit -> Act -> World -> Prop} (hQ : E.Q = Exit.jump l J Q) (h : ∀ a w r own, Sim E.X S E.A a w r own -> J a w) : WX E (.goto l) k S := fun a w r own hs => by
 show kq E k (.goto l) a w
 rw [kq_goto, hQ]; exact ⟨rfl, h a w r own hs⟩
theorem WX_finJ {E : En} {X : Cx} {fn : Func} {R : Ending -> World -> Prop} {e : Exit} {S : St} {l : Nat} {J : Act -> World -> Prop} (hX : E.X = X) (hd : X.d = []) (hQ : E.Q = Exit.jump l J (bodyPost X.P fn R)) (he : e = .ret \/ e = .normal) (h : Fin E fn R S) : WX E e .nil S := fun a w r own hs => by
 have := WX_fin (E := ⟨E.X, E.A, bodyPost X.P fn R⟩) hX hd rfl he h a w r own hs
 show E.Q e a w
 rw [hQ]
 rcases he with rfl | rfl <;> exact this
theorem J_sel {X : Cx} {ι : Type} {SI : ι -> St} {AI : ι -> Facts} {φ : ι -> Prop} {S : St} {A : Facts} {a : Act} {w : World} {r : Nat -> Nat} {own : Nat -> Option Ent} (hs : Sim X S A a w r own) (i : ι) (hi : φ i) (σ : List (Nat × Nat)) (ht : leT (SI i).t S.t) (hh : leH (SI i).h S.h) (h1 : ltTb (SI i).n (SI i).t = true) (h2 : ltHb (SI i).n (SI i).h = true)
 (hr : (X.rt.all fun x => decide (x.1 < (SI i).n)) = true) (hσ : (σ.all fun x => decide (x.2 < (SI i).m)) = true) (hk : (nodupB (σ.map (·.1)) && nodupB (σ.map (·.2))) = true) (hf : Sel σ A (AI i)) : ∃ i, φ i /\ ∃ r own, Sim X (SI i) (AI i) a w r own := by
 obtain ⟨own', h⟩ := hs.sel (SI i) (AI i) σ ht hh h1 h2 hr hσ hk hf; exact ⟨i, hi, r, own', h⟩
variable {E : En} {S : St} {α : Type} {φ : α -> Prop} {c : Call} {dst : Option Tmp} {ty : TypeId} {pos : String} {after : Array Edge} {guard : Option (Nat × Bool)} {o : Oper} {P : Program}
def methT (P : Program) (t : TypeId) (name : String) (f : FuncId) : Bool := match P.info? t, P.underlying t with
 | some i, some (.pointer _) => match i.methods.find? (·.name == name) with
   | some m => m.path.isEmpty && (match m.func with | some (g, true) => g == f | _ => false)
   | none => false
 | _, _ => false
theorem run_methT {t : TypeId} {name : String} {f : FuncId} (h : methT P t name f = true) (n : Nat) (v : Value) (w : World) : (method (n + 1) t v name).run P w = .ok (f, v) w := by
 unfold methT at h
 split at h
 · rename_i i e hi hu
   split at h
   · rename_i m hm
     simp only [Bool.and_eq_true, Array.isEmpty_iff] at h; obtain ⟨h1, h2⟩ := h
     split at h2
     · rename_i g hg
       obtain rfl : g = f := by simpa using h2
       simp [method, typeInfo, hi, hm, h1, follow, hg, receiverAt, run_underlying hu, Place.get]
     · cases h2
   · cases h
 · cases h
def methV (P : Program) (t : TypeId) (name : String) (f : FuncId) : Bool := match P.info? t, P.underlying t with
 | some i, some (.pointer _) => match i.methods.find? (·.name == name) with
   | some m => match m.path.toList, m.func with
     | [s], some (g, true) => (g == f) && s.deref && (match P.underlying s.struct with
       | some (.struct fs) => match fs[s.index]? with
         | some fd => (fd.offset == 0) && (szT P fd.type == some (1, false)) && ptrT P fd.type
         | none => false
       | _ => false)
     | _, _ => false
   | none => false
 | _, _ => false
theorem run_methV {t : TypeId} {name : String} {f : FuncId} (h : methV P t name f = true) (n : Nat) {ad : Addr} {v : Value} (w : World) (hc : w.cell? ad = some v) : (method (n + 1) t (.pointer (some ad)) name).run P w = .ok (f, v) w := by
 unfold methV at h
 split at h
 · rename_i i e hi hu
   split at h
   · rename_i m hm
     split at h
     · rename_i s g hs hg
       simp only [Bool.and_eq_true, beq_iff_eq] at h; obtain ⟨⟨rfl, hd⟩, h3⟩ := h
       split at h3
       · rename_i fs hfs
         split at h3
         · rename_i fd hfd
           simp only [Bool.and_eq_true, beq_iff_eq] at h3; obtain ⟨⟨ho, hsz⟩, hpt⟩ := h3; obtain ⟨el, hpt⟩ := ptrT_spec hpt
           have hoff : ad.add 0 = ad := by simp [Addr.add]
           simp [method, typeInfo, hi, hm, hs, follow, run_underlying hfs, hfd, hd, hg, receiverAt, run_underlying hpt, Place.get, asAddr, fieldPlace, run_sizeOf' hsz, ho, hoff, loadVar, run_isAgg' hsz, hc]
         · cases h3
       · cases h3
     · cases h
   · cases h
 · cases h
theorem exec_invoke {a : Act} {w : World} {name : String} {x : Operand} {f : FuncId} {rv : Value} {t : TypeId} {v : Value} (hc : c.callee = .invoke x name) (hx : a.eval x = .iface t v) (hm : (method (P.types.size + Made.depth) t v name).run P w = .ok (f, rv) w) (hf : callable P f = true) (ho : o.op = .call c) :
 (execOp a.eval o).run P w = .ok (.enter f (#[rv] ++ c.args.map a.eval)) w := by
 unfold callable at hf
 split at hf
 · rename_i fn hfn
   simp only [Bool.and_eq_true, Bool.not_eq_true', beq_eq_false_iff_ne, ne_eq] at hf; obtain ⟨b, hb⟩ := Option.isSome_iff_exists.1 hf.1; have hn := hf.2
   have h0 : (#[Value.iface t v] ++ c.args.map a.eval)[0]? = some (.iface t v) := by rw [Array.getElem?_append]; simp
   have h1 : (c.args.map a.eval).extract 0 c.args.size = c.args.map a.eval := by
    apply Array.ext'
    simp [List.take_of_length_le]
   simp [execOp, ho, resolve, hc, hx, invoke, callMethod, hm, callFunc, hfn, hb, hn, h0, h1]
 · cases hf
end
end
section
attribute [local irreducible] leT leH WO WX WC WD LS WS
mutual
def N.vis : N -> List N
 | .mk k ty v t fl c kids => .mk k ty v t fl c [] :: N.visl kids
def N.visl : List N -> List N
 | [] => []
 | n :: l => N.vis n ++ N.visl l
end
mutual
theorem vis_len : ∀ n : N, n.vis.length = n.cnt
 | .mk _ _ _ _ _ _ kids => by rw [N.vis, N.cnt, List.length_cons, visl_len kids]; omega
theorem visl_len : ∀ l : List N, (N.visl l).length = N.cntl l
 | [] => rfl
 | n :: l => by rw [N.visl, N.cntl, List.length_append, vis_len n, visl_len l]
end
def rowsN (ns : List N) : List Value := (ns.map fun n => N.cells n none 0).flatten
theorem rowsN_append (a b : List N) : rowsN (a ++ b) = rowsN a ++ rowsN b := by simp [rowsN]
theorem rowsN_len : ∀ ns : List N, (rowsN ns).length = ns.length * 19
 | [] => rfl
 | n :: l => by
   have := rowsN_len l; simp only [rowsN, List.map_cons, List.flatten_cons, List.length_append, List.length_cons] at this ⊢; rw [this]; have : (N.cells n none 0).length = 19 := rfl; omega
theorem visl_snoc : ∀ (l : List N) (n : N), N.visl (l ++ [n]) = N.visl l ++ n.vis
 | [], n => by simp [N.visl]
 | x :: l, n => by rw [List.cons_append, N.visl, N.visl, visl_snoc l n, List.append_assoc]
theorem News_row {E : En} {S : St} {x : Operand} {e size m cp : Nat} {A : Addr} {xs : List Value} (j : Nat) (hx : ev S x = .sc (.va (.slice (some A) m cp))) (hj : (j, Row e size (.slice (some A) m cp) m xs) ∈ E.A) : News E S x m xs := by
 intro a w r own hs; have he := va_of (hx ▸ (ev_ok hs.toR x).1); have hf := (hs.fact j _ hj).2; exact ⟨A, cp, he, rowCells hf, hf.2.2⟩
theorem len_le : ∀ l : List N, l.length <= N.cntl l
 | [] => Nat.le_refl _
 | ⟨k, ty, v, t, fl, c, kids⟩ :: l => by
   have := len_le l; rw [List.length_cons, N.cntl, N.cnt]; omega
theorem take_cnt {l : List N} {i : Nat} (h : i < l.length) : 1 + N.cntl (l.take (i + 1)) = 1 + N.cntl (l.take i) + l[i].cnt := by
 rw [List.take_succ_eq_append_getElem h, cntl_snoc]; omega
theorem take_rows (r : N) {l : List N} {i : Nat} (h : i < l.length) : rowsN (r :: N.visl (l.take (i + 1))) = rowsN (r :: N.visl (l.take i)) ++ rowsN l[i].vis := by
 rw [List.take_succ_eq_append_getElem h, visl_snoc, <- List.cons_append, rowsN_append]
theorem cnt_take_le : ∀ (i : Nat) (l : List N), N.cntl (l.take i) <= N.cntl l
 | 0, l => by simp [N.cntl]
 | i + 1, [] => Nat.le_refl _
 | i + 1, x :: l => by
   have := cnt_take_le i l; rw [List.take_succ_cons, N.cntl, N.cntl]; omega
section
variable {k ty : Int} {v t : ByteArray} {fl : Bool} {c : Int} {l : List N}
theorem N.kids_mk : (N.mk k ty v t fl c l).kids = l := rfl
theorem N.k_mk : (N.mk k ty v t fl c l).k = k := rfl
theorem N.ty_mk : (N.mk k ty v t fl c l).ty = ty := rfl
theorem N.v_mk : (N.mk k ty v t fl c l).v = v := rfl
theorem N.t_mk : (N.mk k ty v t fl c l).t = t := rfl
theorem N.fl_mk : (N.mk k ty v t fl c l).fl = fl := rfl
theorem N.c_mk : (N.mk k ty v t fl c l).c = c := rfl
end
def VisC (m : Nat) : Prop := ∀ (w : World) (n : N) (ka : Option Addr) (kc : Nat) (F : Nat -> Prop), GS w 31 19 F (.slice ka n.kids.length kc) (N.gs n.kids) -> (∀ k, F k -> k < w.heap.size) -> n.cnt <= m -> n.cnt <= 200000 ->
 Calls Tryz.prog 7 [.agg (n.cells ka kc).toArray].toArray w (Ret1 (fun z : Option Addr × Nat => .sc (.va (.slice z.1 n.cnt z.2))) (fun z => z.1.isSome = true) (fun z => Row 31 19 (.slice z.1 n.cnt z.2) n.cnt (rowsN n.vis)) w)
theorem c7 (m : Nat) (hV : VisC m) : VisC (m + 1) := by
 intro w n ka kc F hgs hF hm h200; obtain ⟨k, ty, v, t, fl, c, l⟩ := n; simp only [N.kids_mk, N.cnt] at *; obtain ⟨A, cp, e1, e2, e3⟩ := nkid_at hgs
 cases e1
 refine calls_start 1000 Tryz.func7 rfl fun E hX hP hA hQ => ?_
 repeat' first
  | refine zA ?_ | apply zI <;> intro hdec | with_reducible constructor
  | (refine zcS 13 (.ag [.va (.int .i64 k), .va (.int .i64 ty), .va (.string v), .va (.string t), .va (.string t), .va (.string ⟨#[]⟩), .va (.bool fl), .va (.bool false), .va (.bool false), .va (.int .i64 1), .va (.int .i64 c), .va (.int .i64 c), .va (.int .i64 0), .va (.int .i64 0), .va (.slice none 0 0), .va (.slice none 0 0), .va (.slice none 0 0), .va (.slice none 0 0), .va (.slice none 0 0)]) ?_ ?_
     · (intro a w r own hSim; simp only [go_sem]; have hc := c13 w k ty v t t ⟨#[]⟩ fl false false 1 c c 0 0 ka l.length kc; simp only [nodeC, List.map_cons, List.map_nil] at hc; with_reducible exact hc))
  | simp (maxSteps := 20000000) only [Tryz.f7, go_sem, zL, ↓reduceIte, reduceCtorEq, Nat.reduceAdd, Nat.reduceMul, Nat.reduceSub, Nat.reduceLeDiff, Nat.reduceEqDiff, Nat.reduceLT, Nat.reduceBEq, Int.reduceEq, hP, hX, N.cells, nodeC, N.kids_mk, N.k_mk, N.ty_mk, N.v_mk, N.t_mk, N.fl_mk, N.c_mk]
 apply WC_conc 1 31 ((N.mk k ty v t fl c []).cells none 0)
 rfl; intro g1 E2 h1 h2 h3; simp only [go_sem, ↓reduceIte, Nat.reduceAdd, Nat.zero_add]; refine zz ?_; intro hX hP hA hQ
 refine WC_imp [(0, Row 31 19 (.slice (some ⟨g1, 0, none⟩) (1 + N.cntl (l.take 0)) 1) (1 + N.cntl (l.take 0)) (rowsN ((N.mk k ty v t fl c []) :: N.visl (l.take 0))))] (fun l' B h => by
  obtain ⟨rfl, rfl⟩ : l' = 0 /\ B = _ := by simpa using h
  exact ⟨_, by rw [hA]; exact zm, fun w F h => Blk.row (n := 1) (cap := 1) h (Nat.le_refl _) zi rfl⟩) ?_
 intro E2 h1 h2 h3; replace hX := h1.trans hX
 replace hP : E2.X.P = Tryz.prog := by rw [hX]
 replace hQ := h3.trans hQ; replace hA := h2; clear h1 h2 h3
 apply WC_loopG (ι := Nat × Option Addr × Nat) (fun x => x.1 <= l.length) [13, 14, 15, 5, 16, 17, 18, 19, 3, 20, 12] (fun x => [(3, .sc (.va (.slice x.2.1 (1 + N.cntl (l.take x.1)) x.2.2))), (12, .sc (.va (.int .i64 x.1)))]) (fun _ => []) (fun x => [(0, Row 31 19 (.slice x.2.1 (1 + N.cntl (l.take x.1)) x.2.2) (1 + N.cntl (l.take x.1)) (rowsN ((N.mk k ty v t fl c []) :: N.visl (l.take x.1))))]) (fun x => l.length - x.1) (0, some ⟨g1, 0, none⟩, 1) (Nat.zero_le _) [(0, 0)] hX
 exact zq10; exact zq5; exact zq7; exact zq5; rfl; rfl; rfl; exact zq4; rintro ⟨i, a0, cp0⟩ hi E' hX' hA' hQ' J hJ; refine zl ?_; intro hX hP hA hQ
 refine vc_ok 900 _ _ _ ?_
 simp only at hi hA
 by_cases hlt : i < l.length
 · obtain ⟨A, rfl⟩ : ∃ A, ka = some A := by
    rcases e2 with e2 | e2
    · rw [e2] at hlt; simp at hlt
    · exact zq48
   obtain ⟨hF1, ka1, kc1, hcell, hgs1⟩ := e3 i l[i] (List.getElem?_eq_getElem hlt); have hT1 := take_cnt hlt; have hT2 := take_rows (N.mk k ty v t fl c []) hlt; have hle := cnt_take_le (i + 1) l; have hll := len_le l
   generalize l[i] = tk at hcell hgs1 hT1 hT2
   rw [Option.getD_some] at hF1 hcell
   have htk : tk.cnt + N.cntl (l.take i) <= N.cntl l := by omega
   repeat' first
    | refine zA ?_ | apply zI <;> intro hdec | with_reducible constructor | (refine WO_LE 850 (LS_rc (A.add (i * 19)) (tk.cells ka1 kc1) true hX ?_ ?_ ?_ ?_ (fun h => by cases h)) ?_; exact zq0; exact hcell; exact zq8; exact sz31; intro _ _)
    | (refine WO_LS 850 (LS_call1 (α := Option Addr × Nat) (f := 7) (fun z => .sc (.va (.slice z.1 tk.cnt z.2))) (fun z => z.1.isSome = true) (fun z => Row 31 19 (.slice z.1 tk.cnt z.2) tk.cnt (rowsN tk.vis)) hP ?_ ?_ ?_ ?_ ?_) ?_
       rfl; exact zq1; exact zq9; exact zq0
       · (intro a w r own hSim; simp only [go_sem]; rw [hX] at hSim; have hc := hV w tk ka1 kc1 F (GS.of0 hSim hF hgs1) (fun k hk => Nat.lt_of_lt_of_le (hF k hk) hSim.frm.size) zo zo; simp only [N.cells, nodeC] at hc; (with_reducible refine hc.mono fun e w' hr => ?_); exact hr)
       rintro ⟨a1, cp1⟩ ha1 E2 h1 h2 h3; obtain ⟨A1, rfl⟩ := Option.isSome_iff_exists.1 ha1; refine zz ?_; intro hX hP hA hQ)
    | (refine WO_LS 850 (LS_append (e := 31) (size := 19) (bytes := 248) 0 (.slice a0 (1 + N.cntl (l.take i)) cp0) (1 + N.cntl (l.take i)) (rowsN ((N.mk k ty v t fl c []) :: N.visl (l.take i))) tk.cnt (rowsN tk.vis) hP rfl ?_ ?_ ?_ ?_ ?_ ?_ ?_) ?_
       exact zq1; exact zq0; exact zq52; exact News_row (A := A1) (cp := cp1) 1 (by simp only [go_sem]) zw0
       · (rw [rowsN_len, vis_len])
       omega; decide; rintro v' ⟨_, a', cp', rfl⟩ E2 h1 h2 h3; rw [<- hT1, <- hT2] at h2; refine zz ?_; intro hX hP hA hQ)
    | (apply WX_lpG _ _ [(2, 0)] hX (hJ (i + 1, a', cp') zo zo); exact zq96; exact zq3; exact zq96; exact zq3; rfl; rfl; rfl; exact zq4) | refine zs30 ?_
   all_goals try first
    | omega | rfl | (unfold I64; omega)
 · skip
   repeat' first
    | refine zA ?_ | apply zI <;> intro hdec | with_reducible constructor
    | simp (maxSteps := 20000000) only [Tryz.f7, go_sem, zL, ↓reduceIte, reduceCtorEq, Nat.reduceAdd, Nat.reduceMul, Nat.reduceSub, Nat.reduceLeDiff, Nat.reduceEqDiff, Nat.reduceLT, Nat.reduceBEq, Int.reduceEq, hP, hX, N.cells, nodeC]
   all_goals try first
    | omega
    | (intro a w' r own hs'
       obtain rfl : i = l.length := by omega
       rw [List.take_length] at hA; have hf := (hs'.fact 0 _ zw0).2; exact ret1_fin1 hs' (a0, cp0) (rowSome hf zo) (fun r => .inr (by rw [List.take_length]; rfl)) zw0)
theorem vis_zero : VisC 0 := fun w n ka kc F _ _ h _ => by
 obtain ⟨k, ty, v, t, fl, c, l⟩ := n; simp only [N.cnt] at h; omega
theorem vis_all : ∀ m, VisC m
 | 0 => vis_zero
 | m + 1 => c7 m (vis_all m)
theorem c28 (w : World) (p : Option Addr) : Calls Tryz.prog 28 [.slice none 0 0, .pointer p].toArray w (RetS (.sc (.va (.pointer none))) w) := by
 refine calls_start 1000 Tryz.func28 rfl fun E hX hP hA hQ => ?_
 repeat' first
  | refine zA ?_ | apply zI <;> intro hdec | with_reducible constructor | refine zs0 ?_
 all_goals first
  | exact zr0 | omega
theorem c58 (w : World) (n x : N) (A : Addr) (kc i : Nat) (ka1 : Option Addr) (kc1 : Nat) (hi : i < n.kids.length) (hc : ∀ j u, (x.cells ka1 kc1)[j]? = some u -> w.cell? ((A.add (i * 19)).add j) = some u) :
 Calls Tryz.prog 58 [.agg (n.cells (some A) kc).toArray, .int .i64 i].toArray w (RetS (.ag ((x.cells ka1 kc1).map .va)) w) := by
 refine calls_start 1000 Tryz.func58 rfl fun E hX hP hA hQ => ?_
 repeat' first
  | refine zA ?_ | apply zI <;> intro hdec | with_reducible constructor | (refine WO_LE 850 (LS_rc (A.add (i * 19)) (x.cells ka1 kc1) true hX ?_ ?_ ?_ ?_ (fun h => by cases h)) ?_; exact zq0; exact hc; exact zq8; exact sz31; intro _ _) | refine zs30 ?_
 all_goals first
  | omega | rfl | (intro a w' r own hs'; exact retS_ag (x.cells ka1 kc1) hs'.frm) | (exfalso; omega)
def posA (c : Int) (g : Nat) : Asn := Blk g 172 [.int .i64 1, .int .i64 c, .int .i64 c, .int .i64 0, .int .i64 0]
theorem c26 (w : World) (c : Int) (h1 : 1 <= c) (h2 : c <= 200) : Calls Tryz.prog 26 [.agg [.int .i64 1, .int .i64 c, .int .i64 c, .int .i64 0, .int .i64 0].toArray].toArray w (Ret1 (fun g : Nat => .sc (.va (.pointer (some ⟨g, 0, none⟩)))) (fun _ => True) (posA c) w) := by
 have hs : sml c = c := by unfold sml; rw [if_neg zo]
 have hs0 : sml 0 = 0 := by decide
 have hmx : imax c 1 = c := by unfold imax; split <;> omega
 refine calls_start 1000 Tryz.func26 rfl fun E hX hP hA hQ => ?_
 repeat' first
  | refine zA ?_ | apply zI <;> intro hdec | with_reducible constructor
  | refine zu 1 sch26_1 [] ?_
  | (refine zdS 48 (.sc (.va (.int .i64 c))) ?_ ?_
     · (intro a w r own hSim; simp only [go_sem]; have hc := c48 w c; rw [hs] at hc; with_reducible exact hc))
  | (refine zdS 48 (.sc (.va (.int .i64 0))) ?_ ?_
     · (intro a w r own hSim; simp only [go_sem]; have hc := c48 w 0; rw [hs0] at hc; with_reducible exact hc))
  | simp (maxSteps := 20000000) only [Tryz.f26, go_sem, zL, ↓reduceIte, reduceCtorEq, Nat.reduceAdd, Nat.reduceMul, Nat.reduceSub, Nat.reduceLeDiff, Nat.reduceEqDiff, Nat.reduceLT, Nat.reduceBEq, Int.reduceEq, hP, hX, hs, hs0, hmx]
 all_goals try first
  | omega
  | (intro a w' r own hs'
     have h2 := hs'.conc (n := 1) (t := 172) (vals := [.int .i64 1, .int .i64 c, .int .i64 c, .int .i64 0, .int .i64 0]) zp; exact ret1_fin1 h2 (r 1) trivial (fun r => .inr rfl) zm)
