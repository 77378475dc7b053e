/- Lemmas for FnFilterTree; each condition stands in its statement. -/
import Derived.Test.YtbfenkhnfflpnaaGreatDoorGcl
namespace Go.Proofs.YtbfenkhnfflpnaaGreatDoor.Sx
open Go Go.RowKit
set_option maxRecDepth 100000
set_option maxHeartbeats 40000000
set_option linter.all false
section
attribute [local irreducible] leT leH WO WX WC WD LS WS
def sch37_11b : Sch := tkN [0, 1] <| .take 2 (some [0]) <| tkN [3, 4] <| .take 5 (some [0]) <| tkN [6, 7, 8] <| .take 9 (some [0]) <| tkN [10] <| .two 11 (.one 12 <| .one 13 <| .done) 12 (.one 11 <| .one 13 <| .done)
def sch37_9b : Sch := tkN [0, 1] <| .take 2 (some [0]) <| tkN [3, 4] <| .take 5 (some [0]) <| .take 6 (some [0]) <| tkN [7] <| .two 8 (.one 9 <| .one 10 <| .done) 9 (.one 8 <| .one 10 <| .done)
def sch37_10b : Sch := tkN [0] <| .take 1 (some [0]) <| .take 2 (some [0]) <| tkN [3, 4] <| .take 5 (some [0]) <| tkN [6, 7, 8] <| .take 9 (some [0]) <| tkN [10, 11, 12] <| .take 13 (some [0]) <| tkN [14] <| .one 15 <| .one 16 <| .one 17 <| tkN [18] <| .one 19 <| .done
attribute [go_sem] sch37_11b sch37_9b sch37_10b
structure KO where
 kids : List T
 ka : Option Addr
 kc : Nat
 lf : Int
 sa : Option Addr
 sn : Nat
 sc : Nat
 xs : List Value
theorem modB (x : Int) {n : Int} (h : 0 < n) : 0 <= (x.tmod n + n).tmod n /\ (x.tmod n + n).tmod n < n := by
 have h1 := Int.lt_tmod_of_pos x h; exact ⟨Int.tmod_nonneg _ zo, Int.tmod_lt_of_pos _ h⟩
theorem notM {B : Int} {w : World} {g : Nat} {lf : Int} {sa : Option Addr} {sn sc : Nat} {xs : List Value} {F0 FI : Nat -> Prop} (h : FitIn B w g lf sa sn sc xs F0 FI) {ad : Addr} {i : Nat} (hf : FI ad.block) : ¬ (fun k => k ∈ [g] \/ F0 k) (ad.add i).block := by
 rw [add_block]; exact fun hm => hm.elim (fun he => (h.fi _ hf).2.1 (by simpa using he)) (h.fi _ hf).2.2
theorem good_void {n : Nat} {k st : Int} {v an tg : ByteArray} {kids : List T} (h : T.good (n + 1) ⟨k, v, an, tg, st, kids⟩) (hk : k = 1) (hv : v = ⟨#[]⟩) : T.good (n + 1) ⟨k, v, an, tg, 2, kids⟩ := by
 subst hk hv
 rcases h with ⟨h, _⟩ | ⟨_, h, _⟩ | ⟨h, _⟩
 exact absurd h zi; exact .inr (.inl ⟨rfl, h, zi, zi, zi, fun h => absurd h zi⟩); exact absurd h zi
theorem c37_2 (n : Nat) (hn : n <= 3) (hT : TreeC n) (hK : KeyC n) (B : Int) (w : World) (g : Nat) (lf : Int) (sa : Option Addr) (sn sc : Nat) (xs : List Value) (F0 FI : Nat -> Prop) (k st : Int) (v an tg : ByteArray) (ka : Option Addr) (kn kc : Nat) (st' : Int) (v' an' tg' : ByteArray) (fl : Bool)
 (hIn : FitIn B w g lf sa sn sc xs F0 FI) (hI : InT (n + 1) w FI ka kn) (hv : v.size <= 1048576) (han : an.size <= 1048576) (htg : tg.size <= 1048576) :
 Calls Tryz.prog 37 [.pointer (some ⟨g, 0, none⟩), .agg (treeC 2 v' an' tg' st' none 0 0).toArray, .agg (treeC k v an tg st ka kn kc).toArray, .int .i64 (4 - n), .bool fl].toArray w
  (RetN FO.res (fun x => x.ok B (n + 2) (lf + 1) /\ x.t.k = 2) (fun x => Asn.sep x.row x.trs) g 60 FO.cs F0 w) := by
 refine calls_startF 1000 [g] [(0, 60, [.va (.int .i64 63), .va (.int .i64 lf), .va (.slice sa sn sc)])] [.sc (.pt 0 0), .ag ((treeC 2 v' an' tg' st' none 0 0).map .va), .ag ((treeC k v an tg st ka kn kc).map .va), .sc (.va (.int .i64 (4 - n))), .sc (.va (.bool fl))] (Row 9 1 (.slice sa sn sc) sn xs) F0 Tryz.func37 rfl ⟨⟨rfl, rfl⟩, ⟨rfl, rfl⟩, ⟨rfl, rfl⟩, ⟨rfl, rfl⟩, ⟨rfl, rfl⟩, trivial⟩ zp (HpOk_one hIn.hg rfl) hIn.row (fun k hk => ⟨by simpa using (hIn.f0 k hk).1, (hIn.f0 k hk).2⟩) fun E hX hP hA hQ => ?_
 repeat' first
  | refine zA ?_ | apply zI <;> intro hdec | with_reducible constructor
  | (refine zcS 32 (.sc (.va (.int .i64 ((st.tmod 2 + 2).tmod 2)))) ?_ ?_
     · (intro a w r own hSim; simp only [go_sem]; with_reducible exact c32 st 2 zi zi _))
  | refine zr112 ?_ | (cases fl)
  | simp (maxSteps := 20000000) only [Tryz.f37, go_sem, zN, ↓reduceIte, reduceCtorEq, Nat.reduceAdd, Nat.reduceMul, Nat.reduceSub, Nat.reduceLeDiff, Nat.reduceEqDiff, Option.map_some, Option.map_none, Bool.not_true, Int.reduceSub, Bool.not_false, decide_true, decide_false, Nat.reduceLT, Nat.reduceBEq, Bool.true_and, Bool.and_true, Bool.false_and, Bool.and_false, Int.reduceEq, false_and, and_false, hP, hX, treeC, fitC]
 all_goals try (have m1 := modB st (n := 2) zi; have m2 := modB ((st.tmod 2 + 2).tmod 2 - 1) (n := 2) zi; unfold I64; omega)
 all_goals first
  | (with_reducible show WC _ _ _ ⟨_, [_, (1, 24, [_, _, _, _, .va (.int .i64 (1 + (((st.tmod 2 + 2).tmod 2 - 1).tmod 2 + 2).tmod 2)), _]), _, _], _, _⟩
     apply WC_addE (Trs 24 6 (.slice none ([] : List T).length 0) (T.gs [])) (fun w => GS.nil)
     intro E2 h1 h2 h3; dsimp only; refine zz ?_; intro hX hP hA hQ
     apply WC_loopG (ι := KO) (fun x => x.kids.length <= 6 /\ (∀ t ∈ x.kids, t.good (n + 1)) /\ x.lf <= lf /\ fitOk B x.lf x.sn x.xs /\ (True)) [27, 28, 29, 30, 31, 32, 33, 34, 35, 36, 37, 38, 39, 40, 41, 42, 43, 44, 45, 49, 50, 51, 52, 53, 54, 55, 56, 57, 58, 59, 60, 13, 61, 62, 63, 64, 65, 66, 67, 68, 69, 70, 71, 72, 73, 74, 75, 76, 77, 78, 79, 80, 81, 82, 83, 84, 85, 86, 87, 88, 89, 90, 91, 14, 92, 93, 94, 95, 96, 97, 98, 99, 100, 101, 102, 103, 104, 105, 46, 47, 48, 12] (fun x => [(12, .sc (.va (.int .i64 x.kids.length)))]) (fun x => [(0, 60, [.va (.int .i64 63), .va (.int .i64 x.lf), .va (.slice x.sa x.sn x.sc)]), (1, 24, [.va (.int .i64 2), .va (.string v'), .va (.string an'), .va (.string tg'),   .va (.int .i64 (1 + (((st.tmod 2 + 2).tmod 2 - 1).tmod 2 + 2).tmod 2)), .va (.slice x.ka x.kids.length x.kc)]), (2, 24, [.va (.int .i64 k), .va (.string v), .va (.string an), .va (.string tg), .va (.int .i64 st), .va (.slice ka kn kc)]), (3, 24, [.va (.int .i64 0), .va (.string ⟨#[]⟩), .va (.string ⟨#[]⟩), .va (.string ⟨#[]⟩), .va (.int .i64 0), .va (.slice none 0 0)])]) (fun x => [(0, Row 9 1 (.slice x.sa x.sn x.sc) x.sn x.xs), (1, Trs 24 6 (.slice x.ka x.kids.length x.kc) (T.gs x.kids))]) (fun x => 7 - x.kids.length) ⟨[], none, 0, lf, sa, sn, sc, xs⟩ ⟨Nat.zero_le _, (fun t ht => by cases ht), Int.le_refl _, hIn.ok, trivial⟩ [(0, 0), (1, 1)] hX
     exact zq10; exact zq5; exact zq7; exact zq5; rfl; rfl; rfl; exact zq4; rintro ⟨kids, ka0, kc0, lf0, sa0, sn0, sc0, xs0⟩ ⟨hlen, hall, hlf, hfit, hpair⟩ E' hX' hA' hQ' J hJ; refine zl ?_; intro hX hP hA hQ
     refine vc_ok 900 _ _ _ ?_)
  | (with_reducible show WC _ _ _ ⟨_, [_, (1, 24, [_, _, _, _, .va (.int .i64 (2)), _]), _, _], _, _⟩
     apply WC_addE (Trs 24 6 (.slice none ([] : List T).length 0) (T.gs [])) (fun w => GS.nil)
     intro E2 h1 h2 h3; dsimp only; refine zz ?_; intro hX hP hA hQ
     apply WC_loopG (ι := KO) (fun x => x.kids.length <= 6 /\ (∀ t ∈ x.kids, t.good (n + 1)) /\ x.lf <= lf /\ fitOk B x.lf x.sn x.xs /\ (True)) [27, 28, 29, 30, 31, 32, 33, 34, 35, 36, 37, 38, 39, 40, 41, 42, 43, 44, 45, 49, 50, 51, 52, 53, 54, 55, 56, 57, 58, 59, 60, 13, 61, 62, 63, 64, 65, 66, 67, 68, 69, 70, 71, 72, 73, 74, 75, 76, 77, 78, 79, 80, 81, 82, 83, 84, 85, 86, 87, 88, 89, 90, 91, 14, 92, 93, 94, 95, 96, 97, 98, 99, 100, 101, 102, 103, 104, 105, 46, 47, 48, 12] (fun x => [(12, .sc (.va (.int .i64 x.kids.length)))]) (fun x => [(0, 60, [.va (.int .i64 63), .va (.int .i64 x.lf), .va (.slice x.sa x.sn x.sc)]), (1, 24, [.va (.int .i64 2), .va (.string v'), .va (.string an'), .va (.string tg'),   .va (.int .i64 (2)), .va (.slice x.ka x.kids.length x.kc)]), (2, 24, [.va (.int .i64 k), .va (.string v), .va (.string an), .va (.string tg), .va (.int .i64 st), .va (.slice ka kn kc)]), (3, 24, [.va (.int .i64 0), .va (.string ⟨#[]⟩), .va (.string ⟨#[]⟩), .va (.string ⟨#[]⟩), .va (.int .i64 0), .va (.slice none 0 0)])]) (fun x => [(0, Row 9 1 (.slice x.sa x.sn x.sc) x.sn x.xs), (1, Trs 24 6 (.slice x.ka x.kids.length x.kc) (T.gs x.kids))]) (fun x => 7 - x.kids.length) ⟨[], none, 0, lf, sa, sn, sc, xs⟩ ⟨Nat.zero_le _, (fun t ht => by cases ht), Int.le_refl _, hIn.ok, trivial⟩ [(0, 0), (1, 1)] hX
     exact zq10; exact zq5; exact zq7; exact zq5; rfl; rfl; rfl; exact zq4; rintro ⟨kids, ka0, kc0, lf0, sa0, sn0, sc0, xs0⟩ ⟨hlen, hall, hlf, hfit, hpair⟩ E' hX' hA' hQ' J hJ; refine zl ?_; intro hX hP hA hQ
     refine vc_ok 900 _ _ _ ?_)
 all_goals simp only at hlen hall hlf hfit hpair hA
 all_goals by_cases hlt : kids.length + 1 <= kn
 · obtain ⟨A, rfl⟩ : ∃ A, ka = some A := Option.isSome_iff_exists.1 (hI.2.1.resolve_left zo)
   obtain ⟨hF1, k1, v1, an1, tg1, st1, ka1, kn1, kc1, hcell, hv1, han1, htg1, hI1⟩ := hI.2.2 kids.length zo; rw [Option.getD_some] at hF1 hcell
   repeat' first
    | refine zA ?_ | apply zI <;> intro hdec | with_reducible constructor
    | (with_reducible show WC _ (.region 11 _ _) _ _
       apply WC_drawn 900 sch37_11b [13] [(0, [11, 13])] hP
       exact zq1; exact zq2; exact zq1)
    | refine zr56 ?_
    | (refine WD_LS 850 ?_ (LS_callM2 (α := FO) (f := 19) (cs := [.va (.int .i64 63), .va (.int .i64 lf0), .va (.slice sa0 sn0 sc0)]) 0 60 [0] FO.res (fun x => x.ok B (n + 1) lf0) FO.row FO.trs FO.cs hP ?_ ?_ ?_ ?_ ?_ ?_ ?_) ?_ ?_
       exact zq2; rfl; exact zq1; exact zq30; exact zq0; exact zq15; exact zq14
       · (intro a w r own hSim; rw [hX] at hSim; simp only [go_sem]; rw [show ((4 : Int) - ↑n + 1) = 5 - ↑n from by omega]; have hc := (hT _ _ _ lf0 sa0 sn0 sc0 xs0 _ FI k1 st1 v1 an1 tg1 ka1 kn1 kc1 (decide (1 + (((st.tmod 2 + 2).tmod 2 - 1).tmod 2 + 2).tmod 2 = 2)) (FitIn.of hSim zm 0 zw0 hIn.fi hfit) zo (InT.of hSim hIn.fi hI1) hv1 han1 htg1); simp only [treeC] at hc; (with_reducible refine hc.mono fun e w' hr => ?_); obtain ⟨y, ⟨h1, h2⟩, h3⟩ := hr; exact ⟨y, h1, h3⟩)
       exact zq31; rintro ⟨⟨k2, v2, an2, tg2, st2, kids2⟩, ka2, kc2, lf2, sa2, sn2, sc2, xs2⟩ ⟨hgood, hlf2, hfit2⟩ E2 h1 h2 h3
       simp only at hgood hlf2 hfit2
       refine zz ?_; intro hX hP hA hQ)
    | (refine zcS 20 (.sc (.va (.bool (decide ((k2 = 1 /\ st2 = 1 /\ v2 = ⟨#[]⟩) /\ an2 = ⟨#[]⟩ /\ tg2 = ⟨#[]⟩))))) ?_ ?_; exact zq92) | (refine zr102 ?_; rintro ⟨a', cp'⟩ - E2 h1 h2 h3; refine zz ?_; intro hX hP hA hQ) | (refine zr103 ?_; rintro ⟨a', cp'⟩ - E2 h1 h2 h3; refine zz ?_; intro hX hP hA hQ) | exact zr88 | exact zr85
    | simp (maxSteps := 20000000) only [Tryz.f37, go_sem, zL, ↓reduceIte, reduceCtorEq, Nat.reduceAdd, Nat.reduceMul, Nat.reduceSub, Nat.reduceLeDiff, Nat.reduceEqDiff, Nat.reduceLT, Nat.reduceBEq, Int.reduceEq, hP, hX, treeC, fitC, Int.reduceSub, Int.toNat_natCast]
   all_goals try first
    | omega | rfl | (unfold I64; omega) | exact zr47 | exact zr46 | exact zr52 | exact zr51
 · skip
   repeat' first
    | refine zA ?_ | apply zI <;> intro hdec | with_reducible constructor
    | simp (maxSteps := 20000000) only [Tryz.f37, go_sem, zL, ↓reduceIte, reduceCtorEq, Nat.reduceAdd, Nat.reduceMul, Nat.reduceSub, Nat.reduceLeDiff, Nat.reduceEqDiff, Nat.reduceLT, Nat.reduceBEq, Int.reduceEq, hP, hX, treeC, fitC, Int.reduceSub, Int.toNat_natCast]
   all_goals try first
    | omega | rfl | (unfold I64; omega) | exact zr47 | exact zr46 | exact zr52 | exact zr51
 · obtain ⟨A, rfl⟩ : ∃ A, ka = some A := Option.isSome_iff_exists.1 (hI.2.1.resolve_left zo)
   obtain ⟨hF1, k1, v1, an1, tg1, st1, ka1, kn1, kc1, hcell, hv1, han1, htg1, hI1⟩ := hI.2.2 kids.length zo; rw [Option.getD_some] at hF1 hcell
   repeat' first
    | refine zA ?_ | apply zI <;> intro hdec | with_reducible constructor
    | (with_reducible show WC _ (.region 11 _ _) _ _
       apply WC_drawn 900 sch37_11b [13] [(0, [11, 13])] hP
       exact zq1; exact zq2; exact zq1)
    | refine zr56 ?_
    | (refine WD_LS 850 ?_ (LS_callM2 (α := FO) (f := 19) (cs := [.va (.int .i64 63), .va (.int .i64 lf0), .va (.slice sa0 sn0 sc0)]) 0 60 [0] FO.res (fun x => x.ok B (n + 1) lf0) FO.row FO.trs FO.cs hP ?_ ?_ ?_ ?_ ?_ ?_ ?_) ?_ ?_
       exact zq2; rfl; exact zq1; exact zq30; exact zq0; exact zq15; exact zq14
       · (intro a w r own hSim; rw [hX] at hSim; simp only [go_sem]; rw [show ((4 : Int) - ↑n + 1) = 5 - ↑n from by omega]; have hc := (hT _ _ _ lf0 sa0 sn0 sc0 xs0 _ FI k1 st1 v1 an1 tg1 ka1 kn1 kc1 true (FitIn.of hSim zm 0 zw0 hIn.fi hfit) zo (InT.of hSim hIn.fi hI1) hv1 han1 htg1); simp only [treeC] at hc; (with_reducible refine hc.mono fun e w' hr => ?_); obtain ⟨y, ⟨h1, h2⟩, h3⟩ := hr; exact ⟨y, h1, h3⟩)
       exact zq31; rintro ⟨⟨k2, v2, an2, tg2, st2, kids2⟩, ka2, kc2, lf2, sa2, sn2, sc2, xs2⟩ ⟨hgood, hlf2, hfit2⟩ E2 h1 h2 h3
       simp only at hgood hlf2 hfit2
       refine zz ?_; intro hX hP hA hQ)
    | (refine zcS 20 (.sc (.va (.bool (decide ((k2 = 1 /\ st2 = 1 /\ v2 = ⟨#[]⟩) /\ an2 = ⟨#[]⟩ /\ tg2 = ⟨#[]⟩))))) ?_ ?_; exact zq92) | (refine zr102 ?_; rintro ⟨a', cp'⟩ - E2 h1 h2 h3; refine zz ?_; intro hX hP hA hQ) | (refine zr103 ?_; rintro ⟨a', cp'⟩ - E2 h1 h2 h3; refine zz ?_; intro hX hP hA hQ) | exact zr88 | exact zr85
    | simp (maxSteps := 20000000) only [Tryz.f37, go_sem, zL, ↓reduceIte, reduceCtorEq, Nat.reduceAdd, Nat.reduceMul, Nat.reduceSub, Nat.reduceLeDiff, Nat.reduceEqDiff, Nat.reduceLT, Nat.reduceBEq, Int.reduceEq, hP, hX, treeC, fitC, Int.reduceSub, Int.toNat_natCast]
   all_goals try first
    | omega | rfl | (unfold I64; omega) | exact zr47 | exact zr46 | exact zr52 | exact zr51
 · skip
   repeat' first
    | refine zA ?_ | apply zI <;> intro hdec | with_reducible constructor
    | simp (maxSteps := 20000000) only [Tryz.f37, go_sem, zL, ↓reduceIte, reduceCtorEq, Nat.reduceAdd, Nat.reduceMul, Nat.reduceSub, Nat.reduceLeDiff, Nat.reduceEqDiff, Nat.reduceLT, Nat.reduceBEq, Int.reduceEq, hP, hX, treeC, fitC, Int.reduceSub, Int.toNat_natCast]
   all_goals try first
    | omega | rfl | (unfold I64; omega) | exact zr47 | exact zr46 | exact zr52 | exact zr51
