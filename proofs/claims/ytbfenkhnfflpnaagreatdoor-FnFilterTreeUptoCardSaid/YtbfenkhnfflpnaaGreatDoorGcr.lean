/- Lemmas for FnFilterTree; each condition stands in its statement. -/
import Derived.Test.YtbfenkhnfflpnaaGreatDoorGco
import Derived.Test.YtbfenkhnfflpnaaGreatDoorGcq
namespace Go.Proofs.YtbfenkhnfflpnaaGreatDoor.Sx
open Go Go.RowKit
set_option maxRecDepth 100000
set_option maxHeartbeats 40000000
set_option linter.all false
section
attribute [local irreducible] leT leH WO WX WC WD LS WS
def sch19_12b : Sch := tkN [0] <| tkS [1] <| tkN [2, 8] <| .one 3 <| .one 4 <| tkN [5] <| .one 6 <| tkN [7] <| .one 9 <| tkN [10] <| .one 11 <| .done
def sch19_4b : Sch := tkN [0, 1, 2] <| tkS [3] <| tkN [4] <| tkS [5] <| tkN [6, 7] <| tkS [8] <| tkN [9, 10, 11, 12, 13] <| tkS [14] <| tkN [15, 16, 17] <| .one 18 <| tkN [19] <| .one 20 <| .done
attribute [go_sem] sch19_12b sch19_4b
theorem WD_q {E : En} {S : St} {g : Rg} {k : Kt} {i : Nat} {s : Sch} {o : Oper} {C : Prop} {sv : SV} (n : Nat) (hQ : QP E.Q) (hq : qop E.X.P S o = some (C, sv)) (hC : C) (h : vd E n g k s (S.put o.dst sv)) : WD E g k i o s S :=
 WD_LS n hQ (LS_yl fun a w r own hs => qop_ok hs.toR hq hC) (fun n js _ hn => by cases hn) fun _ _ E' h1 h2 h3 => by
  obtain rfl := En_eq _ _ h1 h2 h3; exact h
theorem strs_snoc {xs : List Value} {s : ByteArray} (h : strs xs) : strs (xs ++ [.string s]) := fun u hu => (List.mem_append.1 hu).elim (h u) (fun h => ⟨s, List.mem_singleton.1 h⟩)
theorem mod_one {k : Int} (h : (k.tmod 4 + 4).tmod 4 = 1) : 1 + (((k.tmod 4 + 4).tmod 4 - 1).tmod 4 + 4).tmod 4 = 1 := by
 rw [h]; decide
theorem Row.cell {e : Nat} {v : Option Addr} {n c : Nat} {xs : List Value} {w : World} {F : Nat -> Prop} (h : (Row e 1 (.slice v n c) n xs).P w F) {i : Nat} (hi : i < n) : ∃ u, xs[i]? = some u /\ v.isSome = true /\ w.cell? ((v.getD default).add (i * 1)) = some u := by
 obtain ⟨⟨h1, h2⟩, _, _⟩ := h
 rcases h2 with ⟨e1, rfl⟩ | ⟨g, cap, cur, e1, _, hg, _, _, hs, htk⟩
 · exact absurd hi (Nat.not_lt_zero i)
 · cases e1
   have hx : i < xs.length := by omega
   refine ⟨xs[i], List.getElem?_eq_getElem hx, rfl, ?_⟩
   rw [Option.getD_some, addr_add]; simp only [World.cell?, hg]
   have h3 : (cur.toList.take (n * 1))[i]? = some xs[i] := by rw [htk]; exact List.getElem?_eq_getElem hx
   rw [List.getElem?_take] at h3
   split at h3
   · simpa using h3
   · cases h3
theorem c19_1 (n : Nat) (hn : n <= 4)  (B : Int) (w : World) (g : Nat) (lf : Int) (sa : Option Addr) (sn sc : Nat) (xs : List Value) (F0 FI : Nat -> Prop) (k st : Int) (v an tg : ByteArray) (ka : Option Addr) (kn kc : Nat) (fl : Bool)
 (hIn : FitIn B w g lf sa sn sc xs F0 FI) (hlf1 : 1 <= lf) (hI : InT n w FI ka kn) (hv : v.size <= 1048576) (han : an.size <= 1048576) (htg : tg.size <= 1048576) (hkk : 1 + (((k.tmod 4 + 4).tmod 4 - 1).tmod 4 + 4).tmod 4 = 1) :
 Calls Tryz.prog 19 [.pointer (some ⟨g, 0, none⟩), .agg (treeC k v an tg st ka kn kc).toArray, .int .i64 (5 - n), .bool fl].toArray w
 (RetN FO.res (fun x => x.ok B (n + 1) lf /\ ((k.tmod 4 + 4).tmod 4 = 1 -> x.t.k = 1 /\ x.lf = lf - 1)) (fun x => Asn.sep x.row x.trs) g 60 FO.cs F0 w) := by
 have m4 := modB k (n := 4) zi; have m4' := modB ((k.tmod 4 + 4).tmod 4 - 1) (n := 4) zi; have m5 := modB st (n := 5) zi; have m5' := modB ((st.tmod 5 + 5).tmod 5 - 1) (n := 5) zi; have hfit := hIn.ok
 refine calls_startF 1000 [g] [(0, 60, [.va (.int .i64 63), .va (.int .i64 lf), .va (.slice sa sn sc)])] [.sc (.pt 0 0), .ag ((treeC k v an tg st ka kn kc).map .va), .sc (.va (.int .i64 (5 - n))), .sc (.va (.bool fl))] (Row 9 1 (.slice sa sn sc) sn xs) F0 Tryz.func19 rfl ⟨⟨rfl, rfl⟩, ⟨rfl, rfl⟩, ⟨rfl, rfl⟩, ⟨rfl, rfl⟩, trivial⟩ zp (HpOk_one hIn.hg rfl) hIn.row (fun k hk => ⟨by simpa using (hIn.f0 k hk).1, (hIn.f0 k hk).2⟩) fun E hX hP hA hQ => ?_
 repeat' first
  | refine zA ?_ | apply zI <;> intro hdec | with_reducible constructor | refine zr25 ?_ | refine zr27 ?_ | refine zr37 ?_ | (refine zr26 ?_; intro ya hya) | (refine zr31 ?_; intro yt _) | refine zr41 ?_ | refine zr39 ?_ | (refine zr45 ?_; rintro ⟨zv, zan, ztg, zst⟩ hgs; simp only at hgs)
  | refine zu 12 sch19_12b [9, 11] ?_
  | refine zu 4 sch19_4b [20] ?_
  | refine zu 16 sch19_16 [11] ?_
  | (refine zr50 ?_; rintro v' ⟨_, a', cp', rfl⟩ E2 h1 h2 h3; refine zz ?_; intro hX hP hA hQ) | refine zr33 ?_ | refine zs17 ?_
 all_goals try first
  | omega | rfl | exact zr29
  | (intro a w' r own hs'
     obtain ⟨own2, hs2⟩ := hs'.addE (B := Trs 24 6 (.slice none ([] : List T).length 0) (T.gs [])) (fun w => GS.nil); exact retN_fin2 hs2 ⟨⟨1, zv, zan, ztg, zst, []⟩, none, 0, lf - 1, sa, sn, sc, xs⟩ ⟨⟨.inr (.inl ⟨rfl, rfl, hgs⟩), Int.le_refl _, ⟨by have := hfit.1; dsimp only; omega, by have := hfit.2.1; dsimp only; omega, hfit.2.2⟩⟩, fun _ => ⟨rfl, rfl⟩⟩ zm (fun r => ⟨_, rfl, CL_va _⟩) (j1 := 0) (j2 := 1) zw1 zm zi)
  | (intro a w' r own hs'
     obtain ⟨own2, hs2⟩ := hs'.addE (B := Trs 24 6 (.slice none ([] : List T).length 0) (T.gs [])) (fun w => GS.nil); exact retN_fin2 hs2 ⟨⟨1, zv, zan, ztg, zst, []⟩, none, 0, lf - 1, a', (sn + 1), cp', (xs ++ [.string zan])⟩ ⟨⟨.inr (.inl ⟨rfl, rfl, hgs⟩), Int.le_refl _, ⟨by have := hfit.1; dsimp only; omega, by have := hfit.2.1; dsimp only; omega, strs_snoc hfit.2.2⟩⟩, fun _ => ⟨rfl, rfl⟩⟩ zm (fun r => ⟨_, rfl, CL_va _⟩) (j1 := 1) (j2 := 2) zw1 zm zi)
theorem c19_20 (n : Nat) (hn : n <= 4) (h0 : n = 0) (B : Int) (w : World) (g : Nat) (lf : Int) (sa : Option Addr) (sn sc : Nat) (xs : List Value) (F0 FI : Nat -> Prop) (k st : Int) (v an tg : ByteArray) (ka : Option Addr) (kn kc : Nat) (fl : Bool)
 (hIn : FitIn B w g lf sa sn sc xs F0 FI) (hlf1 : 1 <= lf) (hI : InT n w FI ka kn) (hv : v.size <= 1048576) (han : an.size <= 1048576) (htg : tg.size <= 1048576) (hkk : 1 + (((k.tmod 4 + 4).tmod 4 - 1).tmod 4 + 4).tmod 4 = 2) :
 Calls Tryz.prog 19 [.pointer (some ⟨g, 0, none⟩), .agg (treeC k v an tg st ka kn kc).toArray, .int .i64 (5 - n), .bool fl].toArray w
 (RetN FO.res (fun x => x.ok B (n + 1) lf /\ ((k.tmod 4 + 4).tmod 4 = 1 -> x.t.k = 1 /\ x.lf = lf - 1)) (fun x => Asn.sep x.row x.trs) g 60 FO.cs F0 w) := by
 have m4 := modB k (n := 4) zi; have m4' := modB ((k.tmod 4 + 4).tmod 4 - 1) (n := 4) zi; have m5 := modB st (n := 5) zi; have m5' := modB ((st.tmod 5 + 5).tmod 5 - 1) (n := 5) zi; have hfit := hIn.ok
 refine calls_startF 1000 [g] [(0, 60, [.va (.int .i64 63), .va (.int .i64 lf), .va (.slice sa sn sc)])] [.sc (.pt 0 0), .ag ((treeC k v an tg st ka kn kc).map .va), .sc (.va (.int .i64 (5 - n))), .sc (.va (.bool fl))] (Row 9 1 (.slice sa sn sc) sn xs) F0 Tryz.func19 rfl ⟨⟨rfl, rfl⟩, ⟨rfl, rfl⟩, ⟨rfl, rfl⟩, ⟨rfl, rfl⟩, trivial⟩ zp (HpOk_one hIn.hg rfl) hIn.row (fun k hk => ⟨by simpa using (hIn.f0 k hk).1, (hIn.f0 k hk).2⟩) ?_
 intro E hX hP hA hQ; subst h0
 repeat' first
  | refine zA ?_ | apply zI <;> intro hdec | with_reducible constructor | refine zr25 ?_ | refine zr27 ?_ | refine zr37 ?_ | (refine zr26 ?_; intro ya hya) | (refine zr31 ?_; intro yt _) | refine zr41 ?_ | refine zr39 ?_ | (refine zr45 ?_; rintro ⟨zv, zan, ztg, zst⟩ hgs; simp only at hgs)
  | refine zu 12 sch19_12b [9, 11] ?_
  | refine zu 4 sch19_4b [20] ?_
  | refine zu 16 sch19_16 [11] ?_
  | (refine zr50 ?_; rintro v' ⟨_, a', cp', rfl⟩ E2 h1 h2 h3; refine zz ?_; intro hX hP hA hQ) | refine zr33 ?_ | refine zs26 ?_
 all_goals try first
  | omega | rfl | exact zr29 | exact zr64 | exact zr63
theorem c19_30 (n : Nat) (hn : n <= 4) (h0 : n = 0) (B : Int) (w : World) (g : Nat) (lf : Int) (sa : Option Addr) (sn sc : Nat) (xs : List Value) (F0 FI : Nat -> Prop) (k st : Int) (v an tg : ByteArray) (ka : Option Addr) (kn kc : Nat) (fl : Bool)
 (hIn : FitIn B w g lf sa sn sc xs F0 FI) (hlf1 : 1 <= lf) (hI : InT n w FI ka kn) (hv : v.size <= 1048576) (han : an.size <= 1048576) (htg : tg.size <= 1048576) (hkk : 1 + (((k.tmod 4 + 4).tmod 4 - 1).tmod 4 + 4).tmod 4 = 3) :
 Calls Tryz.prog 19 [.pointer (some ⟨g, 0, none⟩), .agg (treeC k v an tg st ka kn kc).toArray, .int .i64 (5 - n), .bool fl].toArray w
 (RetN FO.res (fun x => x.ok B (n + 1) lf /\ ((k.tmod 4 + 4).tmod 4 = 1 -> x.t.k = 1 /\ x.lf = lf - 1)) (fun x => Asn.sep x.row x.trs) g 60 FO.cs F0 w) := by
 have m4 := modB k (n := 4) zi; have m4' := modB ((k.tmod 4 + 4).tmod 4 - 1) (n := 4) zi; have m5 := modB st (n := 5) zi; have m5' := modB ((st.tmod 5 + 5).tmod 5 - 1) (n := 5) zi; have hfit := hIn.ok
 refine calls_startF 1000 [g] [(0, 60, [.va (.int .i64 63), .va (.int .i64 lf), .va (.slice sa sn sc)])] [.sc (.pt 0 0), .ag ((treeC k v an tg st ka kn kc).map .va), .sc (.va (.int .i64 (5 - n))), .sc (.va (.bool fl))] (Row 9 1 (.slice sa sn sc) sn xs) F0 Tryz.func19 rfl ⟨⟨rfl, rfl⟩, ⟨rfl, rfl⟩, ⟨rfl, rfl⟩, ⟨rfl, rfl⟩, trivial⟩ zp (HpOk_one hIn.hg rfl) hIn.row (fun k hk => ⟨by simpa using (hIn.f0 k hk).1, (hIn.f0 k hk).2⟩) ?_
 intro E hX hP hA hQ; subst h0
 repeat' first
  | refine zA ?_ | apply zI <;> intro hdec | with_reducible constructor | refine zr25 ?_ | refine zr27 ?_ | refine zr37 ?_ | (refine zr26 ?_; intro ya hya) | (refine zr31 ?_; intro yt _) | refine zr41 ?_ | refine zr39 ?_ | (refine zr45 ?_; rintro ⟨zv, zan, ztg, zst⟩ hgs; simp only at hgs)
  | refine zu 12 sch19_12b [9, 11] ?_
  | refine zu 4 sch19_4b [20] ?_
  | refine zu 16 sch19_16 [11] ?_
  | (refine zr50 ?_; rintro v' ⟨_, a', cp', rfl⟩ E2 h1 h2 h3; refine zz ?_; intro hX hP hA hQ) | refine zr33 ?_ | refine zs26 ?_
 all_goals try first
  | omega | rfl | exact zr29 | exact zr64 | exact zr63
theorem rowCell {e : Nat} {A : Addr} {n c : Nat} {xs : List Value} {w : World} {F : Nat -> Prop} (h : (Row e 1 (.slice (some A) n c) n xs).P w F) {i : Nat} {u : Value} (hi : i < n) (hu : xs[i]? = some u) : w.cell? (A.add (i * 1)) = some u := by
 obtain ⟨u', h1, _, h3⟩ := Row.cell h hi; rw [hu] at h1
 cases h1
 exact h3
theorem c19_4 (n : Nat) (hn : n <= 4)  (B : Int) (w : World) (g : Nat) (lf : Int) (sa : Option Addr) (sn sc : Nat) (xs : List Value) (F0 FI : Nat -> Prop) (k st : Int) (v an tg : ByteArray) (ka : Option Addr) (kn kc : Nat) (fl : Bool)
 (hIn : FitIn B w g lf sa sn sc xs F0 FI) (hlf1 : 1 <= lf) (hI : InT n w FI ka kn) (hv : v.size <= 1048576) (han : an.size <= 1048576) (htg : tg.size <= 1048576) (hkk : 1 + (((k.tmod 4 + 4).tmod 4 - 1).tmod 4 + 4).tmod 4 = 4) :
 Calls Tryz.prog 19 [.pointer (some ⟨g, 0, none⟩), .agg (treeC k v an tg st ka kn kc).toArray, .int .i64 (5 - n), .bool fl].toArray w
 (RetN FO.res (fun x => x.ok B (n + 1) lf /\ ((k.tmod 4 + 4).tmod 4 = 1 -> x.t.k = 1 /\ x.lf = lf - 1)) (fun x => Asn.sep x.row x.trs) g 60 FO.cs F0 w) := by
 have m4 := modB k (n := 4) zi; have m4' := modB ((k.tmod 4 + 4).tmod 4 - 1) (n := 4) zi; have m5 := modB st (n := 5) zi; have m5' := modB ((st.tmod 5 + 5).tmod 5 - 1) (n := 5) zi; have hfit := hIn.ok
 refine calls_startF 1000 [g] [(0, 60, [.va (.int .i64 63), .va (.int .i64 lf), .va (.slice sa sn sc)])] [.sc (.pt 0 0), .ag ((treeC k v an tg st ka kn kc).map .va), .sc (.va (.int .i64 (5 - n))), .sc (.va (.bool fl))] (Row 9 1 (.slice sa sn sc) sn xs) F0 Tryz.func19 rfl ⟨⟨rfl, rfl⟩, ⟨rfl, rfl⟩, ⟨rfl, rfl⟩, ⟨rfl, rfl⟩, trivial⟩ zp (HpOk_one hIn.hg rfl) hIn.row (fun k hk => ⟨by simpa using (hIn.f0 k hk).1, (hIn.f0 k hk).2⟩) fun E hX hP hA hQ => ?_
 rcases Nat.eq_zero_or_pos sn with h0 | h0
 · skip
   repeat' first
    | refine zA ?_ | apply zI <;> intro hdec | with_reducible constructor | refine zr25 ?_ | refine zr27 ?_ | refine zr37 ?_ | (refine zr26 ?_; intro ya hya) | (refine zr31 ?_; intro yt _) | refine zr41 ?_ | refine zr39 ?_ | (refine zr45 ?_; rintro ⟨zv, zan, ztg, zst⟩ hgs; simp only at hgs)
    | refine zu 12 sch19_12b [9, 11] ?_
    | refine zu 4 sch19_4b [20] ?_
    | refine zu 16 sch19_16 [11] ?_
    | (refine zr50 ?_; rintro v' ⟨_, a', cp', rfl⟩ E2 h1 h2 h3; refine zz ?_; intro hX hP hA hQ) | refine zr33 ?_ | refine zs17 ?_
   all_goals try first
    | omega | rfl | exact zr29 | exact zr64 | exact zr63
 · skip
   obtain ⟨i, hi, hil⟩ : ∃ i : Nat, ((v.size : Int) + an.size).tmod sn = i /\ i < sn := by
    have h1 := Int.tmod_nonneg (sn : Int) (show (0 : Int) <= (v.size : Int) + an.size by omega); have h2 := Int.tmod_lt_of_pos ((v.size : Int) + an.size) (show (0 : Int) < sn by omega); exact ⟨(((v.size : Int) + an.size).tmod sn).toNat, zo, zo⟩
   obtain ⟨u, hu1, hu2, hu3⟩ := Row.cell hIn.row hil; obtain ⟨s, rfl⟩ := hfit.2.2 u (List.mem_of_getElem? hu1); obtain ⟨A, rfl⟩ := Option.isSome_iff_exists.1 hu2
   repeat' first
    | refine zA ?_ | apply zI <;> intro hdec | with_reducible constructor
    | (refine WD_LS 850 ?_ (LS_rcell (A.add (i * 1)) [.string s] false hP ?_ ?_ ?_ (fun _ => rfl)) ?_ ?_
       · exact zq2
       · simp only [go_sem, Int.toNat_natCast]
       · (intro a w r own hSim; exact one_cell (rowCell (hSim.fact 0 _ zw0).2 hil hu1))
       exact sz9; exact zq16; intro _ _ E2 h1 h2 h3; obtain rfl := En_eq _ _ h1 h2 h3)
    | refine zr25 ?_ | refine zr27 ?_
    | (refine zcS 33 (.sc (.va (.bool true))) ?_ ?_
       · (intro a w r own hSim; simp only [go_sem]; rw [hX] at hSim; have hb := hSim.blk (n := 0) (t := 60) (cs := [.int .i64 63, .int .i64 (lf - 1), .slice (some A) sn sc]) zm; with_reducible exact c33 _ _ (lf - 1) (some A) sn sc _ hb zi))
    | (refine zr26 ?_; intro ya hya)
    | (refine zc0 (α := ByteArray) 35 (fun z => .sc (.va (.string z))) (fun _ => True) ?_ ?_
       · (intro a w r own hSim; simp only [go_sem]; rw [hX] at hSim; have hb := hSim.blk (n := 0) (t := 60) (cs := [.int .i64 63, .int .i64 (lf - 1), .slice (some A) sn sc]) zm; with_reducible exact c35 tg _ (lf - 1) _ (some A) sn sc zo _ hb)
       intro yt _)
    | refine zr41 ?_ | refine zr39 ?_
    | (apply WO_call0 (α := ByteArray × ByteArray × ByteArray × Int) (f := 36) 900 (fun x => .ag [.va (.int .i64 1), .va (.string x.1), .va (.string x.2.1), .va (.string x.2.2.1), .va (.int .i64 x.2.2.2), .va (.slice none 0 0)]) (fun x => goodS x.1 x.2.2.2) hP
       rfl; exact zq1; exact zq32; exact zq0
       · (intro a w r own hSim; simp only [go_sem]; rw [hX] at hSim; have hb := hSim.blk (n := 0) (t := 60) (cs := [.int .i64 63, .int .i64 (lf - 1), .slice (some A) sn sc]) zm; have hc := c36 v ya yt (1 + (((st.tmod 5 + 5).tmod 5 - 1).tmod 5 + 5).tmod 5) (lf - 1) fl (r 0) (some A) sn sc zo zo w hb; simp only [treeC] at hc; (with_reducible refine hc.mono fun e w' hr => ?_); exact hr)
       rintro ⟨zv, zan, ztg, zst⟩ hgs
       simp only at hgs)
    | refine zu 12 sch19_12b [9, 11] ?_
    | refine zu 4 sch19_4b [20] ?_
    | refine zu 16 sch19_16 [11] ?_
    | (refine WD_LS 850 ?_ (LS_append (e := 9) (size := 1) (bytes := 16) 0 (.slice (some A) sn sc) (sn) (xs) 1 [.string zan] hP rfl ?_ ?_ ?_ ?_ ?_ ?_ ?_) ?_ ?_; exact zq2; exact zq1; exact zq0; exact zq13; exact zq22; rfl; exact zq63; decide; exact zq16; rintro v' ⟨_, a', cp', rfl⟩ E2 h1 h2 h3; refine zz ?_; intro hX hP hA hQ) | refine zr33 ?_
    | simp (maxSteps := 20000000) only [Tryz.f19, go_sem, zL, ↓reduceIte, reduceCtorEq, Nat.reduceAdd, Nat.reduceMul, Nat.reduceSub, Nat.reduceLeDiff, Nat.reduceEqDiff, Nat.reduceLT, Nat.reduceBEq, Int.reduceEq, hP, hX, treeC, fitC, hkk, Int.reduceSub, hi, Int.toNat_natCast]
   all_goals try first
    | omega | rfl | exact zr29
    | (intro a w' r own hs'
       obtain ⟨own2, hs2⟩ := hs'.addE (B := Trs 24 6 (.slice none ([] : List T).length 0) (T.gs [])) (fun w => GS.nil); exact retN_fin2 hs2 ⟨⟨4, ⟨#[]⟩, s, ⟨#[]⟩, 0, []⟩, none, 0, lf - 1, some A, sn, sc, xs⟩ ⟨⟨.inl ⟨rfl, rfl⟩, Int.le_refl _, ⟨by have := hfit.1; dsimp only; omega, by have := hfit.2.1; dsimp only; omega, hfit.2.2⟩⟩, fun h => absurd (hkk.symm.trans (mod_one h)) zi⟩ zm (fun r => ⟨_, rfl, CL_va _⟩) (j1 := 0) (j2 := 1) zw1 zm zi)
theorem c19_2c (n : Nat) (hn : n <= 4) (m : Nat) (hm : n = m + 1) (hC : CollC m) (B : Int) (w : World) (g : Nat) (lf : Int) (sa : Option Addr) (sn sc : Nat) (xs : List Value) (F0 FI : Nat -> Prop) (k st : Int) (v an tg : ByteArray) (ka : Option Addr) (kn kc : Nat) (fl : Bool)
 (hIn : FitIn B w g lf sa sn sc xs F0 FI) (hlf1 : 1 <= lf) (hI : InT n w FI ka kn) (hv : v.size <= 1048576) (han : an.size <= 1048576) (htg : tg.size <= 1048576) (hkk : 1 + (((k.tmod 4 + 4).tmod 4 - 1).tmod 4 + 4).tmod 4 = 2) :
 Calls Tryz.prog 19 [.pointer (some ⟨g, 0, none⟩), .agg (treeC k v an tg st ka kn kc).toArray, .int .i64 (5 - n), .bool fl].toArray w
 (RetN FO.res (fun x => x.ok B (n + 1) lf /\ ((k.tmod 4 + 4).tmod 4 = 1 -> x.t.k = 1 /\ x.lf = lf - 1)) (fun x => Asn.sep x.row x.trs) g 60 FO.cs F0 w) := by
 have m4 := modB k (n := 4) zi; have m4' := modB ((k.tmod 4 + 4).tmod 4 - 1) (n := 4) zi; have m5 := modB st (n := 5) zi; have m5' := modB ((st.tmod 5 + 5).tmod 5 - 1) (n := 5) zi; have hfit := hIn.ok
 refine calls_startF 1000 [g] [(0, 60, [.va (.int .i64 63), .va (.int .i64 lf), .va (.slice sa sn sc)])] [.sc (.pt 0 0), .ag ((treeC k v an tg st ka kn kc).map .va), .sc (.va (.int .i64 (5 - n))), .sc (.va (.bool fl))] (Row 9 1 (.slice sa sn sc) sn xs) F0 Tryz.func19 rfl ⟨⟨rfl, rfl⟩, ⟨rfl, rfl⟩, ⟨rfl, rfl⟩, ⟨rfl, rfl⟩, trivial⟩ zp (HpOk_one hIn.hg rfl) hIn.row (fun k hk => ⟨by simpa using (hIn.f0 k hk).1, (hIn.f0 k hk).2⟩) ?_
 intro E hX hP hA hQ; subst hm
 have hfit1 : fitOk (B - 1) (lf - 1) sn xs := ⟨by have := hfit.1; omega, by have := hfit.2.1; omega, hfit.2.2⟩
 repeat' first
  | refine zA ?_ | apply zI <;> intro hdec | with_reducible constructor
  | (refine WO_LS 850 (LS_callM2 (α := FO) (f := 37) (cs := [.va (.int .i64 63), .va (.int .i64 (lf - 1)), .va (.slice sa sn sc)]) 0 60 [0] FO.res (fun x => x.ok (B - 1) (m + 2) (lf - 1 + 1) /\ x.t.k = 2) FO.row FO.trs FO.cs hP ?_ ?_ ?_ ?_ ?_ ?_ ?_) ?_
     rfl; exact zq1; exact zq30; exact zq0; exact zq15; exact zq14
     · (intro a w r own hSim; rw [hX] at hSim; simp only [go_sem]; rw [show ((5 : Int) - ↑(m + 1)) = 4 - ↑m from by omega]; have hc := (hC _ _ _ (lf - 1) sa sn sc xs _ FI k st v an tg ka kn kc 2 0 ⟨#[]⟩ ya yt fl (FitIn.of hSim zm 0 zw0 hIn.fi hfit1) zi (InT.of hSim hIn.fi hI) hv han htg); simp only [treeC] at hc; (with_reducible refine hc.mono fun e w' hr => ?_); exact hr)
     rintro ⟨⟨k2, v2, an2, tg2, st2, kids2⟩, ka2, kc2, lf2, sa2, sn2, sc2, xs2⟩ ⟨⟨hgood, hlf2, hfit2⟩, hk2⟩ E2 h1 h2 h3; simp only [T.k_mk] at hgood hlf2 hfit2 hk2; refine zz ?_; intro hX hP hA hQ)
  | refine zr25 ?_ | refine zr27 ?_ | refine zr37 ?_ | (refine zr26 ?_; intro ya hya) | (refine zr31 ?_; intro yt _)
  | refine zu 16 sch19_16 [11] ?_
  | (refine zr90 ?_; rintro v' ⟨_, a', cp', rfl⟩ E2 h1 h2 h3; refine zz ?_; intro hX hP hA hQ) | refine zs17 ?_
 all_goals try first
  | omega | rfl | exact zr29 | exact zr94 | exact zr91
theorem c19_3c (n : Nat) (hn : n <= 4) (m : Nat) (hm : n = m + 1) (hC : CollC m) (B : Int) (w : World) (g : Nat) (lf : Int) (sa : Option Addr) (sn sc : Nat) (xs : List Value) (F0 FI : Nat -> Prop) (k st : Int) (v an tg : ByteArray) (ka : Option Addr) (kn kc : Nat) (fl : Bool)
 (hIn : FitIn B w g lf sa sn sc xs F0 FI) (hlf1 : 1 <= lf) (hI : InT n w FI ka kn) (hv : v.size <= 1048576) (han : an.size <= 1048576) (htg : tg.size <= 1048576) (hkk : 1 + (((k.tmod 4 + 4).tmod 4 - 1).tmod 4 + 4).tmod 4 = 3) :
 Calls Tryz.prog 19 [.pointer (some ⟨g, 0, none⟩), .agg (treeC k v an tg st ka kn kc).toArray, .int .i64 (5 - n), .bool fl].toArray w
 (RetN FO.res (fun x => x.ok B (n + 1) lf /\ ((k.tmod 4 + 4).tmod 4 = 1 -> x.t.k = 1 /\ x.lf = lf - 1)) (fun x => Asn.sep x.row x.trs) g 60 FO.cs F0 w) := by
 have m4 := modB k (n := 4) zi; have m4' := modB ((k.tmod 4 + 4).tmod 4 - 1) (n := 4) zi; have m5 := modB st (n := 5) zi; have m5' := modB ((st.tmod 5 + 5).tmod 5 - 1) (n := 5) zi; have hfit := hIn.ok
 refine calls_startF 1000 [g] [(0, 60, [.va (.int .i64 63), .va (.int .i64 lf), .va (.slice sa sn sc)])] [.sc (.pt 0 0), .ag ((treeC k v an tg st ka kn kc).map .va), .sc (.va (.int .i64 (5 - n))), .sc (.va (.bool fl))] (Row 9 1 (.slice sa sn sc) sn xs) F0 Tryz.func19 rfl ⟨⟨rfl, rfl⟩, ⟨rfl, rfl⟩, ⟨rfl, rfl⟩, ⟨rfl, rfl⟩, trivial⟩ zp (HpOk_one hIn.hg rfl) hIn.row (fun k hk => ⟨by simpa using (hIn.f0 k hk).1, (hIn.f0 k hk).2⟩) ?_
 intro E hX hP hA hQ; subst hm
 have hfit1 : fitOk (B - 1) (lf - 1) sn xs := ⟨by have := hfit.1; omega, by have := hfit.2.1; omega, hfit.2.2⟩
 repeat' first
  | refine zA ?_ | apply zI <;> intro hdec | with_reducible constructor
  | (refine WO_LS 850 (LS_callM2 (α := FO) (f := 37) (cs := [.va (.int .i64 63), .va (.int .i64 (lf - 1)), .va (.slice sa sn sc)]) 0 60 [0] FO.res (fun x => x.ok (B - 1) (m + 2) (lf - 1 + 1) /\ x.t.k = 3) FO.row FO.trs FO.cs hP ?_ ?_ ?_ ?_ ?_ ?_ ?_) ?_
     rfl; exact zq1; exact zq30; exact zq0; exact zq15; exact zq14
     · (intro a w r own hSim; rw [hX] at hSim; simp only [go_sem]; rw [show ((5 : Int) - ↑(m + 1)) = 4 - ↑m from by omega]; have hc := (hC _ _ _ (lf - 1) sa sn sc xs _ FI k st v an tg ka kn kc 3 0 ⟨#[]⟩ ya yt fl (FitIn.of hSim zm 0 zw0 hIn.fi hfit1) zi (InT.of hSim hIn.fi hI) hv han htg); simp only [treeC] at hc; (with_reducible refine hc.mono fun e w' hr => ?_); exact hr)
     rintro ⟨⟨k2, v2, an2, tg2, st2, kids2⟩, ka2, kc2, lf2, sa2, sn2, sc2, xs2⟩ ⟨⟨hgood, hlf2, hfit2⟩, hk2⟩ E2 h1 h2 h3; simp only [T.k_mk] at hgood hlf2 hfit2 hk2; refine zz ?_; intro hX hP hA hQ)
  | refine zr25 ?_ | refine zr27 ?_ | refine zr37 ?_ | (refine zr26 ?_; intro ya hya) | (refine zr31 ?_; intro yt _)
  | refine zu 16 sch19_16 [11] ?_
  | (refine zr90 ?_; rintro v' ⟨_, a', cp', rfl⟩ E2 h1 h2 h3; refine zz ?_; intro hX hP hA hQ) | refine zs17 ?_
 all_goals try first
  | omega | rfl | exact zr29 | exact zr94 | exact zr91
theorem c37 (n : Nat) (hn : n <= 3) (hT : TreeC n) (hK : KeyC n) : CollC n := by
 intro B w g lf sa sn sc xs F0 FI k st v an tg ka kn kc k' st' v' an' tg' fl hIn hk hI hv han htg
 rcases hk with rfl | rfl
 exact c37_2 n hn hT hK B w g lf sa sn sc xs F0 FI k st v an tg ka kn kc st' v' an' tg' fl hIn hI hv han htg; exact c37_3 n hn hT hK B w g lf sa sn sc xs F0 FI k st v an tg ka kn kc st' v' an' tg' fl hIn hI hv han htg
theorem c19 (n : Nat) (hn : n <= 4) (hC : ∀ m, n = m + 1 -> CollC m) : TreeC n := by
 intro B w g lf sa sn sc xs F0 FI k st v an tg ka kn kc fl hIn hlf hI hv han htg; have m4 := modB ((k.tmod 4 + 4).tmod 4 - 1) (n := 4) zi
 have key : 1 + (((k.tmod 4 + 4).tmod 4 - 1).tmod 4 + 4).tmod 4 = 1 \/ 1 + (((k.tmod 4 + 4).tmod 4 - 1).tmod 4 + 4).tmod 4 = 2 \/ 1 + (((k.tmod 4 + 4).tmod 4 - 1).tmod 4 + 4).tmod 4 = 3 \/ 1 + (((k.tmod 4 + 4).tmod 4 - 1).tmod 4 + 4).tmod 4 = 4 := by omega
 rcases key with h | h | h | h
 · exact c19_1 n hn B w g lf sa sn sc xs F0 FI k st v an tg ka kn kc fl hIn hlf hI hv han htg h
 · cases n with
   | zero => exact c19_20 0 hn rfl B w g lf sa sn sc xs F0 FI k st v an tg ka kn kc fl hIn hlf hI hv han htg h
   | succ m => exact c19_2c (m + 1) hn m rfl (hC m rfl) B w g lf sa sn sc xs F0 FI k st v an tg ka kn kc fl hIn hlf hI hv han htg h
 · cases n with
   | zero => exact c19_30 0 hn rfl B w g lf sa sn sc xs F0 FI k st v an tg ka kn kc fl hIn hlf hI hv han htg h
   | succ m => exact c19_3c (m + 1) hn m rfl (hC m rfl) B w g lf sa sn sc xs F0 FI k st v an tg ka kn kc fl hIn hlf hI hv han htg h
 · exact c19_4 n hn B w g lf sa sn sc xs F0 FI k st v an tg ka kn kc fl hIn hlf hI hv han htg h
theorem treeC_all : ∀ n : Nat, n <= 4 -> TreeC n
 | 0, h => c19 0 h fun m e => by cases e
 | m + 1, h => c19 (m + 1) h fun m' e => by
   cases e
   exact c37 m zo (treeC_all m zo) (c80 m zo (treeC_all m zo))
def sch10_6b : Sch := tkN [0, 1, 2, 3] <| .take 4 (some [0]) <| tkN [5, 6, 7, 8, 9] <| .take 10 (some [0]) <| .two 11 (tkN [12] <| .one 13 <| .one 14 <| .done) 13 (.one 11 <| tkN [12] <| .one 14 <| .done)
attribute [go_sem] sch10_6b
theorem add0 (a : Addr) : a.add 0 = a := rfl
def docR (a b c : Bool) : List Value := [.bool a, .bool b, .bool c, .int .i64 0, .int .i64 0, .slice none 0 0, .slice none 0 0]
def docC (t : T) (ka : Option Addr) (kc : Nat) (a b c : Bool) : List Value := treeC t.k t.v t.an t.tg t.st ka t.kids.length kc ++ docR a b c
theorem FitIn.of0 {B : Int} {w0 : World} {FI : Nat -> Prop} {rt : List (Nat × Nat)} {S : St} {A : Facts} {a : Act} {w : World} {r : Nat -> Nat} {own : Nat -> Option Ent} (hs : Sim ⟨Tryz.prog, w0, fun _ => False, [], rt⟩ S A a w r own) {lf : Int} {sa : Option Addr} {sn sc : Nat} {xs : List Value}
 {n : Nat} (hm : (n, 60, (fitC lf sa sn sc).map .va) ∈ S.h) (j : Nat) (hj : (j, Row 9 1 (.slice sa sn sc) sn xs) ∈ A) (hfi : ∀ k, FI k -> k < w0.heap.size) (hok : fitOk B lf sn xs) :
 FitIn B w (r n) lf sa sn sc xs (fun k => ∃ j' ∈ [j], own k = some (.fa j')) FI := by
 have hon := (hs.heap n 60 _ hm).2.2.1; have hnew : ∀ k e, own k = some e -> w0.heap.size <= k := fun k e hk => (hs.bnd k e hk).2.elim id False.elim
 refine ⟨hs.blk hm, P_congr (hs.fact j _ hj).2 fun k => by simp, fun k hk => ?_, fun k hk => ?_, hok⟩
 · obtain ⟨j', _, hj'⟩ := hk
   refine ⟨fun he => ?_, (hs.bnd k _ hj').1⟩
   rw [he, hon] at hj'
   cases hj'
 · have h1 := hfi k hk
   refine ⟨Nat.lt_of_lt_of_le h1 hs.frm.size, fun he => ?_, fun ⟨j', _, hj'⟩ => ?_⟩
   exact absurd (hnew _ _ hon) zo; exact absurd (hnew _ _ hj') zo
theorem InT.of0 {w0 : World} {FI : Nat -> Prop} {rt : List (Nat × Nat)} {S : St} {A : Facts} {a : Act} {w : World} {r : Nat -> Nat} {own : Nat -> Option Ent} (hs : Sim ⟨Tryz.prog, w0, fun _ => False, [], rt⟩ S A a w r own)
 (hfi : ∀ k, FI k -> k < w0.heap.size) {n : Nat} {ka : Option Addr} {kn : Nat} (h : InT n w0 FI ka kn) : InT n w FI ka kn :=
 h.ext (fun _ h => h) fun k hk => hs.frm.block k (hfi k hk) (fun h => h)
theorem ret1_fin2 {α : Type} {P : Program} {w0 : World} {rt : List (Nat × Nat)} {S : St} {A : Facts} {a : Act} {w : World} {r : Nat -> Nat} {own : Nat -> Option Ent} (hs : Sim ⟨P, w0, fun _ => False, [], rt⟩ S A a w r own) {res : α -> SV} {φ : α -> Prop} {B1 B2 : α -> Asn}
 (x : α) (hx : φ x) {u : Value} (hu : ∀ r, (res x).ok r u) {j1 j2 : Nat} (h1 : (j1, B1 x) ∈ A) (h2 : (j2, B2 x) ∈ A) (hne : j1 ≠ j2) : Ret1 res φ (fun x => Asn.sep (B1 x) (B2 x)) w0 (.returned u) w := by
 refine ⟨x, hx, ⟨u, rfl, hu⟩, hs.frm, fun k => own k = some (.fa j1) \/ own k = some (.fa j2), fun k hk => ?_, fun k => own k = some (.fa j1), fun k => own k = some (.fa j2), fun k => Iff.rfl, fun k hk hk' => ?_, (hs.fact j1 _ h1).2, (hs.fact j2 _ h2).2⟩
 · obtain ⟨j, hj⟩ : ∃ j, own k = some (.fa j) := hk.elim (fun h => ⟨_, h⟩) (fun h => ⟨_, h⟩)
   obtain ⟨b1, b2⟩ := hs.bnd k _ hj; exact ⟨b2.elim id False.elim, b1⟩
 · have e1 : own k = some (.fa j1) := hk
   have e2 : own k = some (.fa j2) := hk'; rw [e1] at e2; simp only [Option.some.injEq, Ent.fa.injEq] at e2; exact hne e2
structure DO where
 t : T
 ka : Option Addr
 kc : Nat
 a : Option Addr
 cp : Nat
def DO.res (x : DO) : SV := .sc (.va (.slice x.a 1 x.cp))
def DO.row (x : DO) : Asn := Row 44 13 (.slice x.a 1 x.cp) 1 (docC x.t x.ka x.kc false false false)
def DO.trs (x : DO) : Asn := Trs 24 6 (.slice x.ka x.t.kids.length x.kc) (T.gs x.t.kids)
theorem c10 (w : World) (ad : Addr) (k st : Int) (v an tg : ByteArray) (ka : Option Addr) (kn kc : Nat) (FI : Nat -> Prop) (hc : ∀ j u, (treeC k v an tg st ka kn kc ++ docR false false false)[j]? = some u -> w.cell? (ad.add j) = some u)
 (hI : InT 4 w FI ka kn) (hFI : ∀ k, FI k -> k < w.heap.size) (hv : v.size <= 1048576) (han : an.size <= 1048576) (htg : tg.size <= 1048576) :
 Calls Tryz.prog 10 [.slice (some ad) 1 1, .int .i64 63].toArray w (Ret1 DO.res (fun x => x.t.good 5) (fun x => Asn.sep x.row x.trs) w) := by
 refine calls_start 1000 Tryz.func10 rfl fun E hX hP hA hQ => ?_
 repeat' first
  | refine zA ?_ | apply zI <;> intro hdec | with_reducible constructor | refine zs0 ?_
 apply WC_addE (Row 44 13 (.slice none 0 0) 0 []) (fun w => ⟨World.ownsRow_nil w _ _ _, fun k => by simp [Value.ownBlock], fun u hu => by cases hu⟩)
 intro E2 h1 h2 h3; dsimp only; refine zz ?_; intro hX hP hA hQ
 apply WC_addE (Trs 24 6 (.slice none ([] : List T).length 0) (T.gs [])) (fun w => GS.nil)
 intro E2 h1 h2 h3; dsimp only; refine zz ?_; intro hX hP hA hQ
 apply WC_addE (Row 9 1 (.slice none 0 0) 0 []) (fun w => ⟨World.ownsRow_nil w _ _ _, fun k => by simp [Value.ownBlock], fun u hu => by cases hu⟩)
 intro E2 h1 h2 h3; dsimp only; refine zz ?_; intro hX hP hA hQ
 apply WC_loopG (ι := Option DO) (fun x => ∀ y, x = some y -> y.t.good 5) [9, 10, 11, 12, 13, 14, 15, 16, 19, 20, 21, 7, 22, 23, 24, 25, 26, 27, 28, 29, 30, 31, 32, 33, 34, 8, 35, 36, 37, 38, 39, 40, 41, 42, 43, 44, 45, 46, 47, 48, 49, 50, 51, 52, 53, 5, 17, 18, 6] (fun x => match x with | none => [(5, .sc (.va (.slice none 0 0))), (6, .sc (.va (.int .i64 0)))] | some x => [(5, .sc (.va (.slice x.a 1 x.cp))), (6, .sc (.va (.int .i64 1)))]) (fun _ => []) (fun x => match x with | none => [(0, Row 44 13 (.slice none 0 0) 0 []), (1, Trs 24 6 (.slice none ([] : List T).length 0) (T.gs [])), (2, Row 9 1 (.slice none 0 0) 0 [])] | some x => [(0, x.row), (1, x.trs)]) (fun x => match x with | none => 1 | some _ => 0) none (fun y h => by cases h) [(0, 0), (1, 1), (2, 2)] hX
 exact zq10; exact zq5; exact zq7; exact zq5; rfl; rfl; rfl; exact zq4; intro x hi E' hX' hA' hQ' J hJ; refine zl ?_; intro hX hP hA hQ
 refine vc_ok 900 _ _ _ ?_
 cases x with
 | none =>
   simp only at hA hJ
   repeat' first
    | refine zA ?_ | apply zI <;> intro hdec | with_reducible constructor
    | (with_reducible show WC _ (.region 6 _ _) _ _
       apply WC_drawn 900 sch10_6b [14] [(0, [11, 14])] hP
       exact zq1; exact zq2; exact zq1)
    | (refine WS_rc 850 (ad.add 7) ([.bool false]) false hX ?_ rfl ?_ ?_ ?_ ?_ (fun _ => rfl) ?_; exact zq2; exact zq0; exact one_cell (hc 7 _ rfl); exact zq8; exact sz4) | (refine WS_rc 850 (ad) (treeC k v an tg st ka kn kc) true hX ?_ rfl ?_ ?_ ?_ ?_ (fun h => by cases h) ?_; exact zq2; exact zq0; exact (fun j u h => hc j u (by rw [List.getElem?_append_left (List.getElem?_eq_some_iff.1 h).1]; exact h)); exact zq8; exact sz24)
    | (refine WD_LS 850 ?_ (LS_callM2 (α := FO) (f := 19) (cs := [.va (.int .i64 63), .va (.int .i64 30), .va (.slice none 0 0)]) 0 60 [2] FO.res (fun x => x.ok 30 5 30) FO.row FO.trs FO.cs hP ?_ ?_ ?_ ?_ ?_ ?_ ?_) ?_ ?_
       exact zq2; rfl; exact zq1; exact zq30; exact zq0; exact zq15; exact zq14
       · (intro a w r own hSim; rw [hX] at hSim; simp only [go_sem]; have hc' := (treeC_all 4 zi 30 _ _ 30 none 0 0 [] _ FI k st v an tg ka kn kc false (FitIn.of0 hSim (n := 0) zm 2 zw2 hFI ⟨zi, zi, fun u hu => by cases hu⟩) zi (InT.of0 hSim hFI hI) hv han htg); simp only [treeC, show (5 : Int) - ((4 : Nat) : Int) = 1 from rfl] at hc'; (with_reducible refine hc'.mono fun e w' hr => ?_); obtain ⟨y, ⟨h1, h2⟩, h3⟩ := hr; exact ⟨y, h1, h3⟩)
       exact zq31; rintro ⟨⟨k2, v2, an2, tg2, st2, kids2⟩, ka2, kc2, lf2, sa2, sn2, sc2, xs2⟩ ⟨hgood, hlf2, hfit2⟩ E2 h1 h2 h3
       simp only at hgood hlf2 hfit2
       refine zz ?_; intro hX hP hA hQ)
    | (refine zcS 20 (.sc (.va (.bool (decide ((k2 = 1 /\ st2 = 1 /\ v2 = ⟨#[]⟩) /\ an2 = ⟨#[]⟩ /\ tg2 = ⟨#[]⟩))))) ?_ ?_
       · (intro a w r own hSim; simp only [go_sem]; have hc3 := c20 w k2 st2 v2 an2 tg2 ka2 kids2.length kc2; simp only [treeC] at hc3; with_reducible exact hc3))
    | (refine WO_LE 850 (LS_rc (ad.add 6) [.bool false] false hX ?_ ?_ ?_ ?_ (fun _ => rfl)) ?_; exact zq0; exact one_cell (hc 6 _ rfl); exact zq8; exact sz4; intro _ _) | (refine WO_LS 850 (LS_append (e := 44) (size := 13) (bytes := 160) 0 (.slice none 0 0) (0) ([]) 1 (docC (T.mk k2 v2 an2 tg2 st2 kids2) ka2 kc2 false false false) hP rfl ?_ ?_ ?_ ?_ ?_ ?_ ?_) ?_; exact zq1; exact zq0; exact zq44; exact zq22; rfl; decide; decide; rintro v' ⟨_, a', cp', rfl⟩ E2 h1 h2 h3; refine zz ?_; intro hX hP hA hQ) | (refine WO_LS 850 (LS_append (e := 44) (size := 13) (bytes := 160) 0 (.slice none 0 0) (0) ([]) 1 (docC (T.mk k2 v2 an2 tg2 2 kids2) ka2 kc2 false false false) hP rfl ?_ ?_ ?_ ?_ ?_ ?_ ?_) ?_; exact zq1; exact zq0; exact zq44; exact zq22; rfl; decide; decide; rintro v' ⟨_, a', cp', rfl⟩ E2 h1 h2 h3; refine zz ?_; intro hX hP hA hQ)
    | exact zG7 [(6, 0), (5, 1)] (hJ (some ⟨T.mk k2 v2 an2 tg2 st2 kids2, ka2, kc2, a', cp'⟩) (fun y h => by cases h; exact hgood) (by first | exact Nat.zero_lt_one | (simp only; exact Nat.zero_lt_one) | simp))
    | exact zG7 [(6, 0), (5, 1)] (hJ (some ⟨T.mk k2 v2 an2 tg2 2 kids2, ka2, kc2, a', cp'⟩) (fun y h => by cases h; exact (good_void hgood hdec.1.1 hdec.1.2.2)) (by first | exact Nat.zero_lt_one | (simp only; exact Nat.zero_lt_one) | simp))
    | simp (maxSteps := 20000000) only [Tryz.f10, go_sem, zL, ↓reduceIte, reduceCtorEq, Nat.reduceAdd, Nat.reduceMul, Nat.reduceSub, Nat.reduceLeDiff, Nat.reduceEqDiff, Nat.reduceLT, Nat.reduceBEq, Int.reduceEq, hP, hX, treeC, Int.toNat_zero, Nat.zero_mul, add0, docR]
   all_goals try first
    | omega | (unfold I64; omega) | rfl
 | some x =>
   simp only at hA hJ
   repeat' first
    | refine zA ?_ | apply zI <;> intro hdec | with_reducible constructor | refine zs0 ?_
   all_goals try first
    | omega | rfl | (intro a w' r own hs'; exact ret1_fin2 hs' x (hi x rfl) (fun r => .inr rfl) (j1 := 0) (j2 := 1) zw0 zw1 zi)
theorem numR_k {s : ByteArray} {k : Int} (h : numR s k) (h0 : k ≠ 0) : k = 3 \/ k = 4 := by
 rcases h with h | ⟨t, _, p, _, _, _, _, _, h | h⟩
 exact absurd h h0; exact .inl h.1; exact .inr h.1
theorem known1 {s : ByteArray} (h : knownR s 1) : s ∈ nullW := by
 rcases h with h | h | h | h | h
 exact h.2; exact zq21; exact zq21; exact zq21; exact zq70
theorem known2 {s : ByteArray} (h : knownR s 2) : s ∈ boolW := by
 rcases h with h | h | h | h | h
 exact zq21; exact h.2; exact zq21; exact zq21; exact zq70
theorem known5 {s : ByteArray} (h : knownR s 5) : s ∈ infW := by
 rcases h with h | h | h | h | h
 exact zq21; exact zq21; exact h.2; exact zq21; exact zq70
theorem known6 {s : ByteArray} (h : knownR s 6) : s ∈ nanW := by
 rcases h with h | h | h | h | h
 exact zq21; exact zq21; exact zq21; exact h.2; exact zq70
theorem known34 {s : ByteArray} {k : Int} (h : knownR s k) (hk : k = 3 \/ k = 4) : numR s k := by
 rcases h with h | h | h | h | h
 exact zq71; exact zq71; exact zq71; exact zq71; exact h
theorem boolW_pos {s : ByteArray} (h : s ∈ boolW) : 0 < s.size := by
 simp only [boolW, List.mem_cons, List.not_mem_nil, or_false] at h
 rcases h with rfl | rfl | rfl | rfl | rfl | rfl <;> decide
theorem infW_pos {s : ByteArray} (h : s ∈ infW) : 0 < s.size := by
 simp only [infW, List.mem_cons, List.not_mem_nil, or_false] at h
 rcases h with rfl | rfl | rfl | rfl | rfl | rfl | rfl | rfl | rfl <;> decide
theorem numR_pos {s : ByteArray} {k : Int} (h : numR s k) (h0 : k ≠ 0) : 0 < s.size := by
 rcases h with h | ⟨t, ht, p, h1, h2, h3, _⟩
 · exact absurd h h0
 · rw [ByteArray.size_extract] at h3
   rcases ht with rfl | ⟨h, _⟩
   omega; exact h
theorem kpos2 {s : ByteArray} {k : Int} (h : knownR s k) (e : k = 2) : 0 < s.size := boolW_pos (known2 (e ▸ h))
theorem kpos5 {s : ByteArray} {k : Int} (h : knownR s k) (e : k = 5) : 0 < s.size := infW_pos (known5 (e ▸ h))
theorem kpos3 {s : ByteArray} {k : Int} (h : knownR s k) (e : k = 3) : 0 < s.size := numR_pos (known34 h (.inl e)) (by rw [e]; decide)
def plainN (s : ByteArray) (x : Int × Int × ByteArray) : Prop :=
 (x.1 = 8 /\ x.2.2 = s) \/ (x.1 = 2 /\ s ∈ nullW /\ x.2.2 = ⟨#[]⟩) \/ (x.1 = 3 /\ s ∈ boolW /\ x.2.2 = if bt s 0 = 116 \/ bt s 0 = 84 then ⟨#[116, 114, 117, 101]⟩ else ⟨#[102, 97, 108, 115, 101]⟩) \/
 (x.1 = 4 /\ numR s 3 /\ x.2.2 = signedF s) \/ (x.1 = 5 /\ numR s 4 /\ x.2.2 = s) \/ (x.1 = 6 /\ s ∈ infW /\ x.2.2 = if bt s 0 = 45 then ⟨#[45, 73, 110, 102]⟩ else ⟨#[43, 73, 110, 102]⟩) \/ (x.1 = 7 /\ s ∈ nanW /\ x.2.2 = ⟨#[78, 97, 78]⟩)
theorem c81 (s : ByteArray) (p1 p2 p3 p4 p5 : Int) (m : Option Addr) (hs : s.size <= 2147483647) (w : World) : Calls Tryz.prog 81 [.pointer m, .string s, .agg (nodeC 8 31 s s s ⟨#[]⟩ false false false p1 p2 p3 p4 p5 none 0 0).toArray].toArray w
 (Ret0 (fun x : Int × Int × ByteArray => .ag ((nodeC x.1 x.2.1 x.2.2 s s ⟨#[]⟩ false false false p1 p2 p3 p4 p5 none 0 0).map .va)) (plainN s) w) := by
 refine calls_start 1000 Tryz.func81 rfl fun E hX hP hA hQ => ?_
 repeat' first
  | refine zA ?_ | apply zI <;> intro hdec | with_reducible constructor
  | (refine zc0 (α := Int) 78 (fun k => .sc (.va (.int .i64 k))) (knownR s) ?_ ?_
     · (intro a w r own hSim; simp only [go_sem]; with_reducible exact c78 s hs _)
     intro k hk)
  | (refine zcS 114 (.sc (.va (.string (signedF s)))) ?_ ?_
     · (intro a w r own hSim; simp only [go_sem]; with_reducible exact c114 s hs (kpos3 hk hdec) _))
  | refine zs6 ?_
 all_goals try first
  | omega | (have := kpos2 hk (by assumption); omega) | (have := kpos5 hk (by assumption); omega)
 all_goals (intro a w' r own hs')
 all_goals first
  | (exact ⟨(8, 31, s), .inl ⟨rfl, rfl⟩, ⟨_, rfl, fun r => ⟨_, rfl, CL_va (nodeC 8 31 (s) s s ⟨#[]⟩ false false false p1 p2 p3 p4 p5 none 0 0)⟩⟩, hs'.frm⟩) | (exact ⟨(2, 22, ⟨#[]⟩), .inr (.inl ⟨rfl, known1 ((by assumption : k = 1) ▸ hk), rfl⟩), ⟨_, rfl, fun r => ⟨_, rfl, CL_va (nodeC 2 22 (⟨#[]⟩) s s ⟨#[]⟩ false false false p1 p2 p3 p4 p5 none 0 0)⟩⟩, hs'.frm⟩) | (exact ⟨(2, 23, ⟨#[]⟩), .inr (.inl ⟨rfl, known1 ((by assumption : k = 1) ▸ hk), rfl⟩), ⟨_, rfl, fun r => ⟨_, rfl, CL_va (nodeC 2 23 (⟨#[]⟩) s s ⟨#[]⟩ false false false p1 p2 p3 p4 p5 none 0 0)⟩⟩, hs'.frm⟩) | (exact ⟨(3, 32, ⟨#[116, 114, 117, 101]⟩), .inr (.inr (.inl ⟨rfl, known2 ((by assumption : k = 2) ▸ hk), (if_pos (by first | exact .inl (by assumption) | exact .inr (by assumption))).symm⟩)), ⟨_, rfl, fun r => ⟨_, rfl, CL_va (nodeC 3 32 (⟨#[116, 114, 117, 101]⟩) s s ⟨#[]⟩ false false false p1 p2 p3 p4 p5 none 0 0)⟩⟩, hs'.frm⟩) | (exact ⟨(3, 32, ⟨#[102, 97, 108, 115, 101]⟩), .inr (.inr (.inl ⟨rfl, known2 ((by assumption : k = 2) ▸ hk), (if_neg zo).symm⟩)), ⟨_, rfl, fun r => ⟨_, rfl, CL_va (nodeC 3 32 (⟨#[102, 97, 108, 115, 101]⟩) s s ⟨#[]⟩ false false false p1 p2 p3 p4 p5 none 0 0)⟩⟩, hs'.frm⟩) | (exact ⟨(4, 26, signedF s), .inr (.inr (.inr (.inl ⟨rfl, (by assumption : k = 3) ▸ known34 hk (.inl (by assumption : k = 3)), rfl⟩))), ⟨_, rfl, fun r => ⟨_, rfl, CL_va (nodeC 4 26 (signedF s) s s ⟨#[]⟩ false false false p1 p2 p3 p4 p5 none 0 0)⟩⟩, hs'.frm⟩) | (exact ⟨(5, 30, s), .inr (.inr (.inr (.inr (.inl ⟨rfl, (by assumption : k = 4) ▸ known34 hk (.inr (by assumption : k = 4)), rfl⟩)))), ⟨_, rfl, fun r => ⟨_, rfl, CL_va (nodeC 5 30 (s) s s ⟨#[]⟩ false false false p1 p2 p3 p4 p5 none 0 0)⟩⟩, hs'.frm⟩) | (exact ⟨(6, 24, ⟨#[45, 73, 110, 102]⟩), .inr (.inr (.inr (.inr (.inr (.inl ⟨rfl, known5 ((by assumption : k = 5) ▸ hk), (if_pos (by assumption)).symm⟩))))), ⟨_, rfl, fun r => ⟨_, rfl, CL_va (nodeC 6 24 (⟨#[45, 73, 110, 102]⟩) s s ⟨#[]⟩ false false false p1 p2 p3 p4 p5 none 0 0)⟩⟩, hs'.frm⟩) | (exact ⟨(6, 24, ⟨#[43, 73, 110, 102]⟩), .inr (.inr (.inr (.inr (.inr (.inl ⟨rfl, known5 ((by assumption : k = 5) ▸ hk), (if_neg (by assumption)).symm⟩))))), ⟨_, rfl, fun r => ⟨_, rfl, CL_va (nodeC 6 24 (⟨#[43, 73, 110, 102]⟩) s s ⟨#[]⟩ false false false p1 p2 p3 p4 p5 none 0 0)⟩⟩, hs'.frm⟩) | (exact ⟨(7, 25, ⟨#[78, 97, 78]⟩), .inr (.inr (.inr (.inr (.inr (.inr ⟨rfl, known6 ((by assumption : k = 6) ▸ hk), rfl⟩))))), ⟨_, rfl, fun r => ⟨_, rfl, CL_va (nodeC 7 25 (⟨#[78, 97, 78]⟩) s s ⟨#[]⟩ false false false p1 p2 p3 p4 p5 none 0 0)⟩⟩, hs'.frm⟩)
inductive N where
 | mk (k ty : Int) (v t : ByteArray) (fl : Bool) (c : Int) (kids : List N)
def N.k : N -> Int | .mk k _ _ _ _ _ _ => k
def N.ty : N -> Int | .mk _ y _ _ _ _ _ => y
def N.v : N -> ByteArray | .mk _ _ v _ _ _ _ => v
def N.t : N -> ByteArray | .mk _ _ _ t _ _ _ => t
def N.fl : N -> Bool | .mk _ _ _ _ f _ _ => f
def N.c : N -> Int | .mk _ _ _ _ _ c _ => c
def N.kids : N -> List N | .mk _ _ _ _ _ _ l => l
def nvals (k ty : Int) (v t : ByteArray) (fl : Bool) (c : Int) : List Value :=
 [.int .i64 k, .int .i64 ty, .string v, .string t, .string t, .string ⟨#[]⟩, .bool fl, .bool false, .bool false, .int .i64 1, .int .i64 c, .int .i64 c, .int .i64 0, .int .i64 0, .slice none 0 0, .slice none 0 0, .slice none 0 0, .slice none 0 0]
mutual
def N.g : N -> G
 | .mk k ty v t fl c kids => .mk (nvals k ty v t fl c) (N.gs kids)
def N.gs : List N -> List G
 | [] => []
 | n :: l => N.g n :: N.gs l
end
theorem ngs_map : ∀ l : List N, N.gs l = l.map N.g
 | [] => rfl
 | t :: l => by rw [N.gs, ngs_map l, List.map_cons]
theorem ngs_len (l : List N) : (N.gs l).length = l.length := by rw [ngs_map, List.length_map]
theorem ngs_get (l : List N) (i : Nat) : (N.gs l)[i]? = l[i]?.map N.g := by rw [ngs_map, List.getElem?_map]
theorem ngs_append (l m : List N) : N.gs (l ++ m) = N.gs l ++ N.gs m := by simp [ngs_map]
def N.cells (n : N) (ka : Option Addr) (kc : Nat) : List Value := nodeC n.k n.ty n.v n.t n.t ⟨#[]⟩ n.fl false false 1 n.c n.c 0 0 ka n.kids.length kc
theorem nkid_at {w : World} {F : Nat -> Prop} {v : Value} {l : List N} (h : GS w 31 19 F v (N.gs l)) : ∃ A cp, v = .slice A l.length cp /\ (l = [] \/ A.isSome = true) /\ ∀ i n, l[i]? = some n -> F (A.getD default).block /\ ∃ ka kc, (∀ j u, (n.cells ka kc)[j]? = some u -> w.cell? (((A.getD default).add (i * 19)).add j) = some u) /\ GS w 31 19 F (.slice ka n.kids.length kc) (N.gs n.kids) := by
 obtain ⟨A, cp, e1, e2, e3⟩ := h.at; rw [ngs_len] at e1
 refine ⟨A, cp, e1, e2.imp (fun h => by cases l with | nil => rfl | cons x l => simp [N.gs] at h) id, fun i n hn => ?_⟩
 obtain ⟨f1, _, v', f3, f4⟩ := e3 i n.g (by rw [ngs_get, hn]; rfl)
 cases n with
 | mk k ty v t fl c kids =>
   obtain ⟨ka, kc, rfl, _⟩ := f4.at; simp only [N.g, G.kids, ngs_len] at *; exact ⟨f1, ka, kc, f3, f4⟩
theorem Sim.box {X : Cx} {S : St} {A : Facts} {a : Act} {w : World} {r : Nat -> Nat} {own : Nat -> Option Ent} (hs : Sim X S A a w r own) {jb g e size : Nat} (ys : List Nw) (hj : (jb, Blk g e (ys.map Nw.cells).flatten) ∈ A) (hy : ∀ y ∈ ys, y.ok A e size jb) (hn : ys.length <= 1000) :
 ∃ own', Sim X { S with m := S.m + 1 } ((S.m, Trs e size (.slice (some ⟨g, 0, none⟩) ys.length ys.length) (ys.map Nw.g)) :: outF (jb :: ys.filterMap (·.1)) A) a w r own' := by
 obtain ⟨_, hF, hb, h1⟩ := hs.fact jb _ hj; have hog : own g = some (.fa jb) := (hF g).2 rfl; have hkey := hs.trade (jb :: ys.filterMap (fun y : Nw => y.1)) (B := Trs e size (.slice (some ⟨g, 0, none⟩) ys.length ys.length) (ys.map Nw.g)) (F := fun k => ∃ j' ∈ jb :: ys.filterMap (fun y : Nw => y.1), own k = some (.fa j')) (w' := w) (Frm.refl _ w) ?_ (fun k hk => .inl hk); exact ⟨_, hkey⟩; have hfl := flat_len (ys := ys) (size := size) fun y hy' => (hy y hy').1
 refine GS.mk (rows := (ys.map Nw.cells).flatten) ⟨by rw [List.length_map]; exact hfl, .inr ⟨g, ys.length, (ys.map Nw.cells).flatten.toArray, by rw [List.length_map], Nat.zero_le _, hb, by rw [List.length_map]; exact Nat.le_refl _, by simp only [maxLen]; omega, by simpa using hfl, ?_⟩⟩ (fun k hk => ?_) h1 (GA.news fun y hy' => ?_)
 · rw [List.length_map, <- hfl]
   exact List.take_of_length_le (Nat.le_refl _)
 · simp only [Value.ownBlock, Option.some.injEq] at hk
   subst hk; exact ⟨jb, zp, hog⟩
 · obtain ⟨e1, e2⟩ := hy y hy'
   refine ⟨e1, ?_⟩
   split at e2
   · rename_i i' hi'
     obtain ⟨e3, e4⟩ := e2; have hgs : GS w e size (fun k => own k = some (.fa i')) y.2.2.1 y.2.2.2 := (hs.fact i' _ e4).2
     refine hgs.ext (fun k hk => ⟨⟨i', List.mem_cons_of_mem _ (List.mem_filterMap.2 ⟨y, hy', hi'⟩), hk⟩, fun hb' => ?_⟩) (fun _ _ => rfl)
     simp only [Value.ownBlock, Option.some.injEq] at hb'; subst hb'; rw [hog] at hk; simp only [Option.some.injEq, Ent.fa.injEq] at hk; exact e3 hk.symm
   · rw [e2]
     exact GS.nil
mutual
def N.cnt : N -> Nat
 | .mk _ _ _ _ _ _ kids => 1 + N.cntl kids
def N.cntl : List N -> Nat
 | [] => 0
 | n :: l => N.cnt n + N.cntl l
end
theorem cntl_snoc : ∀ (l : List N) (n : N), N.cntl (l ++ [n]) = N.cntl l + n.cnt
 | [], n => by simp [N.cntl]
 | x :: l, n => by rw [List.cons_append, N.cntl, N.cntl, cntl_snoc l n]; omega
def T.noPlus : T -> Prop
 | .mk k v _ _ st kids => (k = 1 -> st = 1 -> bt v 0 ≠ 43) /\ pls kids
where
 pls : List T -> Prop
  | [] => True
  | t :: l => T.noPlus t /\ pls l
def keyK (k : Int) : Prop := k ≠ 11 /\ k ≠ 13 /\ k ≠ 14
mutual
def N.ok (q : Prop) : N -> Prop
 | .mk k ty v t fl c kids => 1 <= c /\ c <= 200 /\ N.oks q kids /\
    ((k = 8 /\ kids = []) \/ (k = 2 /\ kids = [] /\ v = ⟨#[]⟩) \/ (k = 3 /\ kids = [] /\ plainN t (k, ty, v)) \/ (k = 4 /\ kids = [] /\ plainN t (k, ty, v) /\ (q -> bt t 0 ≠ 43)) \/ (k = 5 /\ kids = [] /\ plainN t (k, ty, v) /\ (q -> bt t 0 ≠ 43)) \/
     (k = 6 /\ kids = [] /\ plainN t (k, ty, v) /\ (q -> bt t 0 ≠ 43)) \/ (k = 7 /\ kids = [] /\ plainN t (k, ty, v)) \/ (k = 10 /\ ∃ x, kids = [x] /\ x.k = 8 /\ v = x.v) \/ (k = 17 /\ ∃ x, kids = [x] /\ x.k = 8 /\ v = x.t) \/
     (k = 16 /\ ∃ x y, kids = [x, y] /\ x.k = 8 /\ v = x.t /\ y.k ≠ 13) \/ (k = 19 /\ v = t /\ ∃ x, kids = [x] /\ x.k ≠ 13) \/ (k = 14 /\ v = ⟨#[]⟩ /\ ∀ x ∈ kids, x.k ≠ 13) \/ (k = 11 /\ v = ⟨#[]⟩ /\ ∀ x ∈ kids, x.k = 13) \/ (k = 13 /\ v = ⟨#[]⟩ /\ ∃ x y, kids = [x, y] /\ keyK x.k /\ y.k ≠ 13)) /\ (keyK k -> fl = false)
def N.oks (q : Prop) : List N -> Prop
 | [] => True
 | n :: l => N.ok q n /\ N.oks q l
end
