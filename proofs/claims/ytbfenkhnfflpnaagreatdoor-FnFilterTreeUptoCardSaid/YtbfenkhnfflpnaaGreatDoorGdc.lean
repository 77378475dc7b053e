/- Lemmas for FnFilterTree; each condition stands in its statement. -/
import Derived.Test.YtbfenkhnfflpnaaGreatDoorGcz
namespace Go.Proofs.YtbfenkhnfflpnaaGreatDoor.Sx
open Go Go.RowKit
set_option maxRecDepth 100000
set_option maxHeartbeats 40000000
set_option linter.all false
section
attribute [local irreducible] leT leH WO WX WC WD
structure ls1 (dg : Nat -> Int) (nd : Int) (c : Nat) (n : Int) (d : Nat -> Int) : Prop where
 a1 : 0 <= n
 a2 : n <= 1
 a3 : (c : Int) <= nd
 a4 : ∀ i : Nat, (i : Int) < nd - c -> d i = dg i
 a5 : ∀ i : Nat, nd - c <= i -> (i : Int) < nd -> 48 <= d i /\ d i <= 57
 a6 : (c : Int) = nd -> n = 0 /\ dg 0 < d 0 /\ d 0 <= 57
theorem ls1_step {dg d : Nat -> Int} {nd n m v : Int} {c r : Nat} (h : ls1 dg nd c n d) (hdg : dgOk dg nd) (hd0 : 49 <= dg 0 /\ dg 0 <= 52) (hr : (r : Int) = nd - 1 - c) (hm : m = n + 2 * (dg r - 48)) (hv : v = m - 10 * (m / 10) + 48) : ls1 dg nd (c + 1) (m / 10) (updD d r v) := by
 obtain ⟨a1, a2, a3, a4, a5, a6⟩ := h; have h1 := hdg r zo
 refine ⟨zo, zo, zo, fun i hi => ?_, fun i h2 h3 => ?_, fun hc => ?_⟩
 · unfold updD
   rw [if_neg zo]; exact a4 i zo
 · unfold updD
   split
   omega; exact a5 i zo h3
 · obtain rfl : r = 0 := by omega
   unfold updD
   rw [if_pos rfl]; omega
theorem ls1_st {dg d : Nat -> Int} {nd n : Int} {c : Nat} (h : ls1 dg nd c n d) (hdg : dgOk dg nd) (hd0 : 49 <= dg 0 /\ dg 0 <= 52) (hc : 0 <= nd - 1 - (c : Int)) : ls1 dg nd (c + 1) (IntKind.u64.wrap ((IntKind.u64.wrap (n + IntKind.u64.wrap (IntKind.u64.wrap (IntKind.u64.wrap (d (nd - 1 - (c : Int)).toNat) - 48) * 2 ^ min 1 64))).tdiv 10)) (updD d (nd - (c : Int) - 1).toNat (IntKind.u8.wrap (IntKind.u64.wrap (IntKind.u64.wrap (IntKind.u64.wrap (n + IntKind.u64.wrap (IntKind.u64.wrap (IntKind.u64.wrap (d (nd - 1 - (c : Int)).toNat) - 48) * 2 ^ min 1 64)) - IntKind.u64.wrap (10 * IntKind.u64.wrap ((IntKind.u64.wrap (n + IntKind.u64.wrap (IntKind.u64.wrap (IntKind.u64.wrap (d (nd - 1 - (c : Int)).toNat) - 48) * 2 ^ min 1 64))).tdiv 10))) + 48)))) := by
 have e : (nd - (c : Int) - 1).toNat = (nd - 1 - (c : Int)).toNat := by omega
 have q4 := h.a4 (nd - 1 - (c : Int)).toNat zo; have hr := hdg (nd - 1 - (c : Int)).toNat zo; have q1 := h.a1; have q2 := h.a2
 have hN : IntKind.u64.wrap (n + IntKind.u64.wrap (IntKind.u64.wrap (IntKind.u64.wrap (d (nd - 1 - (c : Int)).toNat) - 48) * 2 ^ min 1 64)) = n + 2 * (dg (nd - 1 - (c : Int)).toNat - 48) := by
  rw [q4, show min 1 64 = 1 from rfl, Int.pow_one]
  generalize dg (nd - 1 - (c : Int)).toNat = y at hr ⊢
  simp only [wrapU64_eq]; omega
 rw [e, hN]
 generalize hm : n + 2 * (dg (nd - 1 - (c : Int)).toNat - 48) = m
 have hm1 : 0 <= m := by omega
 have hm2 : m <= 19 := by omega
 have ht : m.tdiv 10 = m / 10 := Int.tdiv_eq_ediv_of_nonneg hm1
 have hQ : IntKind.u64.wrap (m.tdiv 10) = m / 10 := by rw [ht]; simp only [wrapU64_eq]; omega
 rw [hQ]
 refine ls1_step h hdg hd0 (r := (nd - 1 - (c : Int)).toNat) zo hm.symm ?_
 simp only [wrapU8_eq, wrapU64_eq]; omega
theorem cut0 (a : Addr) (c k : Nat) : cutA a c 0 k = a := by unfold cutA; simp [Addr.add]
section
variable {E : En} {S : St} {P : Program} {dst : Option Tmp} {t ty : TypeId} {x : Operand} {pos : String} {after : Array Edge} {guard : Option (Nat × Bool)} {ops : List Oper} {L : List Nat} {k : Kt} {i : Nat} {l : List Nat}
theorem WQ_rc {P : Program} {w0 : World} {M : Nat -> Prop} {d : List Deferred} {rt : List (Nat × Nat)} (n0 : Nat) (ad : Addr) (v : Value) (hX : E.X = ⟨P, w0, M, d, rt⟩) (hQ : QP E.Q) (ho : nthO ops i = some ⟨dst, .load t x, ty, pos, after, guard⟩) (hL : L.contains i = false) (hw : ∀ a w r own, Sim E.X S E.A a w r own -> Region.wanted ⟨dst, .load t x, ty, pos, after, guard⟩ (yielded ops.toArray a.tmps) = true)
 (hx : ev S x = .sc (.va (.pointer (some ad)))) (hc : w0.cell? ad = some v) (hM : ¬ M ad.block) (hsz : szT P t = some (1, false)) (h : vq E n0 ops L k l (S.put dst (.sc (.va v)))) : WQ E ops L k (i :: l) S :=
 WQ_take (sv := .sc (.va v)) hQ ho hL rfl hw (fun _ _ _ _ _ => trivial) (fun a w r own hs w' hw' => by
  obtain rfl := hw' rfl; have hp := va_of (hx ▸ (ev_ok hs.toR x).1); have hc0 : w'.cell? ad = some v := hs.cell (by rw [hX]; exact hc) (by rw [hX]; exact hM)
  have hP : E.X.P = P := by rw [hX]
  rw [hP]
  refine ⟨v, ok_va r v, trivial, ?_⟩
  simp [execOp, hp, Instr.loadAt, Instr.sureAddr, loadVar, run_isAgg' hsz, hc0]) (vq_ok hQ n0 l _ h)
theorem WQ_asl {lo hi : Option Operand} (n0 n m : Nat) (hP : E.X.P = P) (hQ : QP E.Q) (ho : nthO ops i = some ⟨dst, .slice t x lo hi none, ty, pos, after, guard⟩) (hL : L.contains i = false) (hw : ∀ a w r own, Sim E.X S E.A a w r own -> Region.wanted ⟨dst, .slice t x lo hi none, ty, pos, after, guard⟩ (yielded ops.toArray a.tmps) = true)
 (hT : arT P t = some (n, m)) (hx0 : isP (ev S x) = true) (hl : isIntO S lo = true) (hh : isIntO S hi = true) (h1 : 0 <= lowOf S lo) (h2 : lowOf S lo <= highOf S n hi) (h3 : highOf S n hi <= n)
 (h : vq E n0 ops L k l (S.put dst (.sc (.va (.slice (some (cutA (adOf (ev S x)) n (lowOf S lo) m)) ((highOf S n hi).toNat - (lowOf S lo).toNat) (n - (lowOf S lo).toNat)))))) : WQ E ops L k (i :: l) S :=
 WQ_take (sv := .sc (.va (.slice (some (cutA (adOf (ev S x)) n (lowOf S lo) m)) ((highOf S n hi).toNat - (lowOf S lo).toNat) (n - (lowOf S lo).toNat)))) hQ ho hL rfl hw (fun _ _ _ _ _ => trivial) (fun a w r own hs w' _ => by
  subst hP; have hx := isP_of hx0; have e1 := va_of (hx ▸ (ev_ok hs.toR x).1); obtain ⟨e, inf, hu, he, rfl⟩ := arT_spec hT
  have e0 : ∀ y, ev (⟨S.t, [], S.n, S.m⟩ : St) y = ev S y := fun y => by cases y <;> rfl
  have hs' : SimR ⟨S.t, [], S.n, S.m⟩ a w' r := ⟨hs.sz, hs.slot, hs.slt, fun n t cs hm => by cases hm⟩
  have el : ∀ lo, lowOf (⟨S.t, [], S.n, S.m⟩ : St) lo = lowOf S lo := fun lo => by cases lo <;> simp only [lowOf, e0]
  have eh : ∀ n hi, highOf (⟨S.t, [], S.n, S.m⟩ : St) n hi = highOf S n hi := fun n hi => by cases hi <;> simp only [highOf, e0]
  have ei : ∀ lo, isIntO (⟨S.t, [], S.n, S.m⟩ : St) lo = isIntO S lo := fun lo => by cases lo <;> simp only [isIntO, e0]
  have hb := sliceBounds_run (P := E.X.P) hs' (b := false) (lo := lo) (hi := hi) (len := n) (cap := n) (by rw [ei]; exact hl) (by rw [ei]; exact hh) (by rw [el]; exact h1) (by rw [el, eh]; exact h2) (by rw [eh]; exact h3); rw [el, eh] at hb
  refine ⟨_, ok_va r _, trivial, ?_⟩
  simp [execOp, e1, Instr.sliceAt, run_underlying hu, Instr.sureAddr, hb, sizeOf, typeInfo, he, cutA]) (vq_ok hQ n0 l _ h)
end
section
attribute [local irreducible] LS WS WQ
theorem c172_1 (w : World) (F : Nat -> Prop) (hG : Gl w F) (g : Nat) (hgF : ¬ F g) (nd dp : Int) (ng tr : Bool) (dg : Nat -> Int) (hD : (DecA g nd dp ng tr dg).P w (fun k => k = g)) (h0 : 1 <= nd) (h8 : nd <= 800) (hp : -1000 <= dp /\ dp <= 1000) (hdg : dgOk dg nd) (hd0 : 49 <= dg 0 /\ dg 0 <= 52) : Calls Tryz.prog 172 [.pointer (some ⟨g, 0, none⟩), .int .u64 1].toArray w (RetD (fun _ : Int × Bool × (Nat -> Int) => .tu []) (fun x => 1 <= x.1 /\ x.1 <= nd /\ dgOk x.2.2 x.1 /\ dg 0 < x.2.2 0 /\ x.2.2 0 <= 57) (fun x => DecA g x.1 dp ng x.2.1 x.2.2) g w) := by
 obtain ⟨_, bq, oq, cq, hq1, hq2, ⟨hq3, s1, hq4, hq5, hq5', hq6⟩, hq7, s2, hq8, hq9, hq9', hq10⟩ := hG.lc; have hMq : ¬ (fun k => k = g) bq := fun h => hgF (by rw [<- show bq = g from h]; exact hq1); have hM11 : ¬ (fun k => k = g) (11 : Nat) := fun h => hgF (by rw [<- show 11 = g from h]; exact hG.lc.1)
 refine calls_startD 1000 g 270 804 _ [.sc (.va (.pointer (some ⟨g, 0, none⟩))), .sc (.va (.int .u64 1))] Tryz.func172 rfl ⟨⟨rfl, rfl⟩, ⟨rfl, rfl⟩, trivial⟩ hD fun E hX hP hA hQ => ?_
 repeat' first
  | refine zA ?_ | apply zI <;> intro hdec | with_reducible constructor | (with_reducible refine vqd_dec ?_ ?_ <;> intro hdec <;> first | rw [decide_eq_true hdec] | rw [decide_eq_false hdec] | skip) | (with_reducible refine vqd_ndec ?_ ?_ <;> intro hdec <;> first | rw [decide_eq_true hdec] | rw [decide_eq_false hdec] | skip)
  | (with_reducible refine vqd_t 850 ?_ ?_
     · exact zq2)
  | (with_reducible refine vqd_f 850 ?_ ?_
     · exact zq2)
  | (with_reducible show WC _ (.loop (.seq (.seq (.region 7 _ _) _) _)) _ _
     apply WC_loopG (ι := Nat × Int × (Nat -> Int)) (fun x => ls1 dg nd x.1 x.2.1 x.2.2) [45, 46, 49, 50, 51, 52, 53, 54, 55, 56, 57, 58, 59, 60, 7, 61, 62, 8, 63, 64, 65, 66, 9, 67, 68, 6, 69, 70, 71, 72, 73, 74, 75, 76, 77, 78, 79, 80, 81, 82, 83, 84, 47, 48, 5] (fun x => [(5, .sc (.va (.int .i64 (nd - 1 - x.1)))), (6, .sc (.va (.int .i64 (nd - x.1)))), (7, .sc (.va (.int .u64 x.2.1)))]) (fun _ => []) (fun x => [(0, DecA g nd dp ng tr x.2.2)]) (fun x => nd.toNat + 1 - x.1) (0, 0, dg) ⟨Int.le_refl 0, zj, zj, fun i _ => rfl, fun i h1 h2 => by dsimp only at h1; omega, fun h => by dsimp only at h; omega⟩ [(1, 0)] hX
     exact zq87; exact zq5; exact zq11; exact zq5; rfl; rfl; rfl; exact zq4; rintro ⟨c, n, d⟩ q E' hX' hA' hQ' J hJ; refine zl ?_; intro hX hP hA hQ; dsimp only at q hA; have q1 := q.a1; have q2 := q.a2; have q3 := q.a3; have q4 := q.a4 (nd - 1 - c).toNat; have hdr := hdg (nd - 1 - c).toNat
     refine vc_ok 900 _ _ _ ?_)
  | exact zG11 [(0, 0)] (hJ ((c + 1, IntKind.u64.wrap ((IntKind.u64.wrap (n + IntKind.u64.wrap (IntKind.u64.wrap (IntKind.u64.wrap (d (nd - 1 - (c : Int)).toNat) - 48) * 2 ^ min 1 64))).tdiv 10), updD d (nd - (c : Int) - 1).toNat (IntKind.u8.wrap (IntKind.u64.wrap (IntKind.u64.wrap (IntKind.u64.wrap (n + IntKind.u64.wrap (IntKind.u64.wrap (IntKind.u64.wrap (d (nd - 1 - (c : Int)).toNat) - 48) * 2 ^ min 1 64)) - IntKind.u64.wrap (10 * IntKind.u64.wrap ((IntKind.u64.wrap (n + IntKind.u64.wrap (IntKind.u64.wrap (IntKind.u64.wrap (d (nd - 1 - (c : Int)).toNat) - 48) * 2 ^ min 1 64))).tdiv 10))) + 48))))) (ls1_st q hdg hd0 (by assumption)) zj)
  | exact zG11 [(1, 0)] (hJ ((c + 1, IntKind.u64.wrap ((IntKind.u64.wrap (n + IntKind.u64.wrap (IntKind.u64.wrap (IntKind.u64.wrap (d (nd - 1 - (c : Int)).toNat) - 48) * 2 ^ min 1 64))).tdiv 10), updD d (nd - (c : Int) - 1).toNat (IntKind.u8.wrap (IntKind.u64.wrap (IntKind.u64.wrap (IntKind.u64.wrap (n + IntKind.u64.wrap (IntKind.u64.wrap (IntKind.u64.wrap (d (nd - 1 - (c : Int)).toNat) - 48) * 2 ^ min 1 64)) - IntKind.u64.wrap (10 * IntKind.u64.wrap ((IntKind.u64.wrap (n + IntKind.u64.wrap (IntKind.u64.wrap (IntKind.u64.wrap (d (nd - 1 - (c : Int)).toNat) - 48) * 2 ^ min 1 64))).tdiv 10))) + 48))))) (ls1_st q hdg hd0 (by assumption)) zj)
  | exact zG11 [(2, 0)] (hJ ((c + 1, IntKind.u64.wrap ((IntKind.u64.wrap (n + IntKind.u64.wrap (IntKind.u64.wrap (IntKind.u64.wrap (d (nd - 1 - (c : Int)).toNat) - 48) * 2 ^ min 1 64))).tdiv 10), updD d (nd - (c : Int) - 1).toNat (IntKind.u8.wrap (IntKind.u64.wrap (IntKind.u64.wrap (IntKind.u64.wrap (n + IntKind.u64.wrap (IntKind.u64.wrap (IntKind.u64.wrap (d (nd - 1 - (c : Int)).toNat) - 48) * 2 ^ min 1 64)) - IntKind.u64.wrap (10 * IntKind.u64.wrap ((IntKind.u64.wrap (n + IntKind.u64.wrap (IntKind.u64.wrap (IntKind.u64.wrap (d (nd - 1 - (c : Int)).toNat) - 48) * 2 ^ min 1 64))).tdiv 10))) + 48))))) (ls1_st q hdg hd0 (by assumption)) zj)
  | (with_reducible show WC _ (.loop (.seq (.seq (.region 18 _ _) _) _)) _ _
     apply WC_loopG (ι := Unit) (fun _ => True) [85, 86, 87, 88, 10, 89, 90, 91, 92, 11, 93, 94, 6, 95, 96, 97, 98, 99, 100, 101, 102, 103, 104, 105, 106, 107, 108, 109, 110, 7] (fun _ => [(6, .sc (.va (.int .i64 (nd - c)))), (7, .sc (.va (.int .u64 n)))]) (fun _ => []) (fun _ => [(0, DecA g nd dp ng tr d)]) (fun _ => 0) () True.intro [(0, 0)] hX
     exact zq10; exact zq5; exact zq7; exact zq5; rfl; rfl; rfl; exact zq4; intro u hi E' hX' hA' hQ' J hJ; refine zl ?_; intro hX hP hA hQ; have q6 := q.a6 zo; have q7 := q6.1
     refine vc_ok 900 _ _ _ ?_)
  | (refine WO_LS 850 (LS_callD (α := Int × Int) (f := 171) g 270 804 _ _ (fun _ => .tu []) (fun x => 0 <= x.1 /\ x.1 <= nd /\ (x.1 = 0 -> x.2 = 0) /\ (0 < x.1 -> x.2 = dp) /\ (0 < nd -> d 0 ≠ 48 -> 0 < x.1)) (fun x => DecA g x.1 x.2 ng tr d) hP rfl ?_ ?_ ?_ zw0 ?_) ?_
     exact zq1; exact zq33; exact zq0
     · (intro a w r own hSim hDD; simp only [go_sem]; first | (simp only [Int.add_zero] at hDD; exact c171 _ _ _ _ _ _ _ hDD zo zo ⟨zo, zo⟩) | (simp only [Int.add_zero] at hDD; rw [show nd = 800 by omega]; exact c171 _ _ _ _ _ _ _ hDD zo zo ⟨zo, zo⟩))
     rintro ⟨y1, y2⟩ hy E2 h1 h2 h3; refine zz ?_; intro hX hP hA hQ)
  | (refine zr16 ?_; intro _ _) | (refine zr17 ?_; intro _ _) | (refine zr18 ?_; intro _ _) | (refine zr19 ?_; intro _ _) | (refine zr14 ?_ ?_; intro _ _) | (refine zr10 ?_; intro _ _ E2 h1 h2 h3; refine zz ?_; intro hX hP hA hQ) | (refine zr11 ?_; intro _ _ E2 h1 h2 h3; refine zz ?_; intro hX hP hA hQ) | (refine zr12 ?_; intro _ _ E2 h1 h2 h3; refine zz ?_; intro hX hP hA hQ) | (refine zr13 ?_; intro _ _ E2 h1 h2 h3; refine zz ?_; intro hX hP hA hQ) | (refine zr9 ?_ ?_; intro _ _ E2 h1 h2 h3; refine zz ?_; intro hX hP hA hQ) | (refine zr15 ?_ ?_ ?_; intro _ _) | refine zr34 ?_ | refine zr35 ?_ | refine zr30 ?_ ?_ | refine zr32 ?_ ?_ ?_
  | (with_reducible show WC _ (.region _ _ true) _ _
     apply WC_q 900 [13] hP
     exact zq1; exact zq2; exact zq1)
  | (refine zr111 ?_; intro _ _) | (refine WO_LE 850 (LS_rc (⟨bq, oq + 2, none⟩) [.int .i64 1] false hX ?_ ?_ ?_ ?_ (fun _ => rfl)) ?_; exact zq0; exact one_cell hq3; exact hMq; exact sz3; intro _ _)
  | (refine WO_LE 850 (LS_asl 800 1 hP ar268 ?_ ?_ ?_ ?_ ?_ ?_) ?_
     exact zq0; exact zq0; exact zq0
     rotate_left 3
     intro _ _)
  | (refine WQ_asl 850 800 1 hP ?_ rfl rfl ?_ ar268 ?_ ?_ ?_ ?_ ?_ ?_ ?_
     exact zq2; exact zq19; exact zq0; exact zq0; exact zq0
     rotate_left 3)
  | (refine WQ_rc 850 (⟨11, 0, none⟩) (.slice (some ⟨bq, oq, none⟩) 61 cq) hX ?_ rfl rfl ?_ ?_ ?_ ?_ ?_ ?_
     exact zq2; exact zq19; exact zq0; exact hq2; exact hM11; exact sz342
     skip)
  | (refine WQ_rc 850 (⟨bq, oq + 2 + 1, none⟩) (.string s1) hX ?_ rfl rfl ?_ ?_ ?_ ?_ ?_ ?_
     exact zq2; exact zq19; exact zq0; exact hq4; exact hMq; exact sz9
     skip)
  | (refine WO_LS 850 (LS_callD (α := Bool) (f := 195) g 270 804 _ _ (fun b => .sc (.va (.bool b))) (fun b => b = decide (dg 0 < bt s1 0)) (fun _ => DecA g nd dp ng tr dg) hP rfl ?_ ?_ ?_ zw0 ?_) ?_
     exact zq1; exact zq9; exact zq0
     · (intro a w r own hSim hDD; simp only [go_sem]; exact c195 _ _ nd dp ng tr dg hDD (nd.toNat - 0) 800 s1 zo hq5 hq5' (by rw [hq6]; omega))
     intro b hb E2 h1 h2 h3; rw [hq6, decide_eq_true zo] at hb; subst hb; refine zz ?_; intro hX hP hA hQ)
  | apply WX_fin hX rfl hQ (.inr rfl)
  | refine zs29 ?_
 all_goals try first
  | exact zr1 | (with_reducible show (_ : Int) <= _; omega) | (with_reducible show (_ : Int) < _; omega) | exact zr21 | (with_reducible show (_ : Nat) < _; omega) | (with_reducible show (_ : Nat) <= _; omega)
 all_goals try first
  | (exfalso; omega) | (exfalso; have q6 := q.a6 zo; omega)
  | (intro a w' r' own hs'
     have q6 := q.a6 zo; have hy1 : 0 < y1 := hy.2.2.2.2 zo zo; have e : y2 = dp := hy.2.2.2.1 hy1; exact retD_fin hs' zw0 ⟨y1, tr, d⟩ ⟨zj, by have := hy.2.1; exact this, fun i hi => q.a5 i zo (by dsimp only at hi; have := hy.2.1; dsimp only at this; omega), q6.2.1, q6.2.2⟩ (fun r => tu0) (fun h => by rw [e] at h; exact h))
end
