/- Lemmas for FnFilterTree; each condition stands in its statement. -/
import Derived.Test.YtbfenkhnfflpnaaGreatDoorGcl
namespace Go.Proofs.YtbfenkhnfflpnaaGreatDoor.Sx
open Go Go.RowKit
set_option maxRecDepth 100000
set_option maxHeartbeats 40000000
set_option linter.all false
section
attribute [local irreducible] leT leH WO WX WC WD LS WS
theorem gK0 : goodS ⟨#[107, 48]⟩ 1 := ⟨zi, zi, zi, fun _ => .inr (.inr ⟨zi, by unfold letterB; decide⟩)⟩
theorem gK1 : goodS ⟨#[107, 49]⟩ 1 := ⟨zi, zi, zi, fun _ => .inr (.inr ⟨zi, by unfold letterB; decide⟩)⟩
theorem gK2 : goodS ⟨#[107, 50]⟩ 1 := ⟨zi, zi, zi, fun _ => .inr (.inr ⟨zi, by unfold letterB; decide⟩)⟩
theorem cat0 : (⟨#[107]⟩ : ByteArray) ++ ⟨#[48]⟩ = ⟨#[107, 48]⟩ := by decide
theorem cat1 : (⟨#[107]⟩ : ByteArray) ++ ⟨#[49]⟩ = ⟨#[107, 49]⟩ := by decide
theorem cat2 : (⟨#[107]⟩ : ByteArray) ++ ⟨#[50]⟩ = ⟨#[107, 50]⟩ := by decide
def kNm (v : ByteArray) : Nat -> ByteArray
 | 0 => v
 | 1 => ⟨#[107, 48]⟩
 | 2 => ⟨#[107, 49]⟩
 | _ => ⟨#[107, 50]⟩
theorem kNext {l : List T} {i : Nat} {V vi : ByteArray} (hK : ∀ m, m < i -> ∃ a t, l[2 * a]? = some t /\ t.v = kNm V m) (hb : true = true -> ∃ a t, l[2 * a]? = some t /\ t.v = vi) (hv : vi = kNm V i) : ∀ m, m < i + 1 -> ∃ a t, l[2 * a]? = some t /\ t.v = kNm V m := fun m hm => by
 rcases Nat.lt_or_eq_of_le (Nat.le_of_lt_succ hm) with h | rfl
 exact hK m h; exact hv ▸ hb rfl
theorem pig {l : List T} (hl : l.length <= 4) {V : ByteArray} (h1 : ∃ a t, l[2 * a]? = some t /\ t.v = kNm V 1) (h2 : ∃ a t, l[2 * a]? = some t /\ t.v = kNm V 2) (h3 : ∃ a t, l[2 * a]? = some t /\ t.v = kNm V 3) : False := by
 obtain ⟨a1, t1, e1, f1⟩ := h1; obtain ⟨a2, t2, e2, f2⟩ := h2; obtain ⟨a3, t3, e3, f3⟩ := h3; have l1 := (List.getElem?_eq_some_iff.1 e1).1; have l2 := (List.getElem?_eq_some_iff.1 e2).1; have l3 := (List.getElem?_eq_some_iff.1 e3).1
 have key : a1 = a2 \/ a1 = a3 \/ a2 = a3 := by omega
 rcases key with rfl | rfl | rfl
 · rw [e1] at e2; cases e2; rw [f1] at f2; exact absurd f2 (by show ¬ (⟨#[107, 48]⟩ : ByteArray) = ⟨#[107, 49]⟩; decide)
 · rw [e1] at e3; cases e3; rw [f1] at f3; exact absurd f3 (by show ¬ (⟨#[107, 48]⟩ : ByteArray) = ⟨#[107, 50]⟩; decide)
 · rw [e2] at e3; cases e3; rw [f2] at f3; exact absurd f3 (by show ¬ (⟨#[107, 49]⟩ : ByteArray) = ⟨#[107, 50]⟩; decide)
theorem GS.of {w0 : World} {g : Nat} {F0 FM : Nat -> Prop} {S : St} {A : Facts} {a : Act} {w : World} {r : Nat -> Nat} {own : Nat -> Option Ent} (hs : Sim ⟨Tryz.prog, w0, fun k => k ∈ [g] \/ F0 k, [], rtOf 0 [g]⟩ S A a w r own)
 (hfm : ∀ k, FM k -> k < w0.heap.size /\ k ≠ g /\ ¬ F0 k) {e size : Nat} {v : Value} {l : List G} (h : GS w0 e size FM v l) : GS w e size FM v l :=
 h.ext (fun _ h => h) fun k hk => hs.frm.block k (hfm k hk).1 fun hm => hm.elim (fun he => (hfm k hk).2.1 (by simpa using he)) (hfm k hk).2.2
theorem FO.ok_one {B : Int} {n : Nat} {lf : Int} {v an tg : ByteArray} {st : Int} {kids : List T} {ka : Option Addr} {kc : Nat} {lf' : Int} {sa : Option Addr} {sn sc : Nat} {xs : List Value} (h : FO.ok B (n + 1) lf ⟨⟨1, v, an, tg, st, kids⟩, ka, kc, lf', sa, sn, sc, xs⟩) : (kids = [] /\ goodS v st) /\ lf' <= lf - 1 /\ fitOk B lf' sn xs := by
 obtain ⟨h1, h2, h3⟩ := h
 refine ⟨?_, h2, h3⟩
 rcases h1 with ⟨h, _⟩ | ⟨_, h⟩ | ⟨h, _⟩
 exact absurd h zi; exact h; exact absurd h zi
theorem c38_one (w : World) (st : Int) (v an tg : ByteArray) (ka : Option Addr) (kn kc : Nat) :
 Calls Tryz.prog 38 [.agg [.int .i64 1, .string v, .string an, .string tg, .int .i64 st, .slice ka kn kc].toArray].toArray w (RetS (.sc (.va (.bool (decide (st = 1 /\ v = ⟨#[]⟩))))) w) := by
 have h := c38 w 1 st v an tg ka kn kc
 simpa only [treeC, true_and] using h
theorem c38_3 (w : World) (v an tg : ByteArray) (ka : Option Addr) (kn kc : Nat) :
 Calls Tryz.prog 38 [.agg [.int .i64 1, .string v, .string an, .string tg, .int .i64 3, .slice ka kn kc].toArray].toArray w (RetS (.sc (.va (.bool false))) w) := by
 have h := c38_one w 3 v an tg ka kn kc
 simpa only [Int.reduceEq, false_and, decide_false] using h
theorem c80 (n : Nat) (hn : n <= 3) (hT : TreeC n) : KeyC n := by
 intro B w g lf sa sn sc xs F0 FI FM k st v an tg ka kn kc k' st' v' an' tg' ka' kc' l hIn hlf hI hv han htg hl4 hgs hFM
 refine calls_startF 1000 [g] [(0, 60, [.va (.int .i64 63), .va (.int .i64 lf), .va (.slice sa sn sc)])] [.sc (.pt 0 0), .ag ((treeC k v an tg st ka kn kc).map .va), .ag ((treeC k' v' an' tg' st' ka' l.length kc').map .va), .sc (.va (.int .i64 (4 - n)))] (Row 9 1 (.slice sa sn sc) sn xs) F0 Tryz.func80 rfl ⟨⟨rfl, rfl⟩, ⟨rfl, rfl⟩, ⟨rfl, rfl⟩, ⟨rfl, rfl⟩, trivial⟩ zp (HpOk_one hIn.hg rfl) hIn.row (fun k hk => ⟨by simpa using (hIn.f0 k hk).1, (hIn.f0 k hk).2⟩) fun E hX hP hA hQ => ?_
 repeat' first
  | refine zA ?_ | apply zI <;> intro hdec | with_reducible constructor | refine zr25 ?_
  | (refine zcS 33 (.sc (.va (.bool true))) ?_ ?_
     · (intro a w r own hSim; simp only [go_sem]; rw [hX] at hSim; have hb := hSim.blk (n := 0) (t := 60) (cs := [.int .i64 63, .int .i64 lf, .slice sa sn sc]) zm; with_reducible exact c33 _ _ lf sa sn sc _ hb zi))
  | (refine zcS 38 (.sc (.va (.bool (decide (st0 = 1 /\ v0 = ⟨#[]⟩))))) ?_ ?_
     · (intro a w r own hSim; simp only [go_sem]; with_reducible exact c38_one _ st0 v0 an0 tg0 ka0 0 kc0))
  | (refine zcS 38 (.sc (.va (.bool false))) ?_ ?_
     · (intro a w r own hSim; simp only [go_sem]; with_reducible exact c38_3 _ v0 an0 tg0 ka0 0 kc0))
  | (refine WO_LS 850 (LS_callM2 (α := FO) (f := 19) (cs := [.va (.int .i64 63), .va (.int .i64 lf), .va (.slice sa sn sc)]) 0 60 [0] FO.res (fun x => x.ok B (n + 1) lf /\ x.t.k = 1 /\ x.lf = lf - 1) FO.row FO.trs FO.cs hP ?_ ?_ ?_ ?_ ?_ ?_ ?_) ?_
     rfl; exact zq1; exact zq30; exact zq0; exact zq15; exact zq14
     · (intro a w r own hSim; rw [hX] at hSim; simp only [go_sem]; rw [show ((4 : Int) - ↑n + 1) = 5 - ↑n from by omega]; have hc := (hT _ _ _ lf sa sn sc xs _ FI k st v ⟨#[]⟩ ⟨#[]⟩ ka kn kc (decide (st' = 2)) (FitIn.of hSim zm 0 zw0 hIn.fi hIn.ok) hlf (InT.of hSim hIn.fi hI) hv zi zi); simp only [treeC] at hc; (with_reducible refine hc.mono fun e w' hr => ?_); obtain ⟨y, ⟨h1, h2⟩, h3⟩ := hr; exact ⟨y, ⟨h1, h2 (by first | assumption | decide)⟩, h3⟩)
     rintro ⟨⟨k0, v0, an0, tg0, st0, kids0⟩, ka0, kc0, lf0, sa0, sn0, sc0, xs0⟩ ⟨hok, hk1, hlfe⟩ E2 h1 h2 h3; simp only [T.k_mk] at hk1; subst hk1; obtain ⟨⟨hkids, hgs0⟩, hlf0, hfit0⟩ := FO.ok_one hok; subst hkids; refine zz ?_; intro hX hP hA hQ)
  | (refine WO_LS 850 (LS_callM2 (α := FO) (f := 19) (cs := [.va (.int .i64 63), .va (.int .i64 lf), .va (.slice sa sn sc)]) 0 60 [0] FO.res (fun x => x.ok B (n + 1) lf /\ x.t.k = 1 /\ x.lf = lf - 1) FO.row FO.trs FO.cs hP ?_ ?_ ?_ ?_ ?_ ?_ ?_) ?_
     rfl; exact zq1; exact zq30; exact zq0; exact zq15; exact zq14
     · (intro a w r own hSim; rw [hX] at hSim; simp only [go_sem]; rw [show ((4 : Int) - ↑n + 1) = 5 - ↑n from by omega]; have hc := (hT _ _ _ lf sa sn sc xs _ FI 1 1 v ⟨#[]⟩ ⟨#[]⟩ none 0 0 (decide (st' = 2)) (FitIn.of hSim zm 0 zw0 hIn.fi hIn.ok) hlf (InT.of hSim hIn.fi InT.nil) hv zi zi); simp only [treeC] at hc; (with_reducible refine hc.mono fun e w' hr => ?_); obtain ⟨y, ⟨h1, h2⟩, h3⟩ := hr; exact ⟨y, ⟨h1, h2 (by first | assumption | decide)⟩, h3⟩)
     rintro ⟨⟨k0, v0, an0, tg0, st0, kids0⟩, ka0, kc0, lf0, sa0, sn0, sc0, xs0⟩ ⟨hok, hk1, hlfe⟩ E2 h1 h2 h3; simp only [T.k_mk] at hk1; subst hk1; obtain ⟨⟨hkids, hgs0⟩, hlf0, hfit0⟩ := FO.ok_one hok; subst hkids; refine zz ?_; intro hX hP hA hQ)
  | simp (maxSteps := 20000000) only [Tryz.f80, go_sem, zL, ↓reduceIte, reduceCtorEq, Nat.reduceAdd, Nat.reduceMul, Nat.reduceSub, Nat.reduceLeDiff, Nat.reduceEqDiff, Nat.reduceLT, Nat.reduceBEq, Int.reduceEq, hP, hX, treeC, fitC, List.length_nil, true_and]
 all_goals try (unfold I64; omega)
 all_goals first
  | (with_reducible show WC _ _ _ ⟨_, [_, _, _, _, (4, 24, [_, .va (.string v0), _, _, .va (.int .i64 st0), _])], _, _⟩
     apply WC_loopG (ι := Nat × ByteArray × Int) (fun x => x.1 <= 3 /\ goodS x.2.1 x.2.2 /\ x.2.1 = kNm v0 x.1 /\ ∀ m, m < x.1 -> ∃ a t, l[2 * a]? = some t /\ t.v = kNm v0 m) [44, 45, 46, 47, 48, 49, 50, 51, 52, 55, 56, 57, 58, 59, 60, 61, 53, 54, 10] (fun x => [(10, .sc (.va (.int .i64 x.1)))]) (fun x => [(0, 60, [.va (.int .i64 63), .va (.int .i64 lf0), .va (.slice sa0 sn0 sc0)]), (2, 24, [.va (.int .i64 k'), .va (.string v'), .va (.string an'), .va (.string tg'), .va (.int .i64 st'), .va (.slice ka' l.length kc')]), (3, 24, [.va (.int .i64 0), .va (.string ⟨#[]⟩), .va (.string ⟨#[]⟩), .va (.string ⟨#[]⟩), .va (.int .i64 0), .va (.slice none 0 0)]), (4, 24, [.va (.int .i64 1), .va (.string x.2.1), .va (.string an0), .va (.string tg0), .va (.int .i64 x.2.2), .va (.slice ka0 0 kc0)])]) (fun _ => [(2, Row 9 1 (.slice sa0 sn0 sc0) sn0 xs0), (3, Trs 24 6 (.slice ka0 0 kc0) (T.gs []))]) (fun x => 3 - x.1) (0, v0, st0) ⟨Nat.zero_le _, hgs0, rfl, fun m hm => absurd hm (Nat.not_lt_zero m)⟩ [(2, 2), (3, 3)] hX
     exact zq10; exact zq5; exact zq7; exact zq5; rfl; rfl; rfl; exact zq4; rintro ⟨i, vi, sti⟩ ⟨hi, hgi, hvi, hK⟩ E' hX' hA' hQ' J hJ; refine zl ?_; intro hX hP hA hQ
     refine vc_ok 900 _ _ _ ?_)
  | (with_reducible show WC _ _ _ ⟨_, [_, _, _, _, (4, 24, [_, .va (.string v0), _, _, .va (.int .i64 3), _])], _, _⟩
     apply WC_loopG (ι := Nat × ByteArray × Int) (fun x => x.1 <= 3 /\ goodS x.2.1 x.2.2 /\ x.2.1 = kNm v0 x.1 /\ ∀ m, m < x.1 -> ∃ a t, l[2 * a]? = some t /\ t.v = kNm v0 m) [44, 45, 46, 47, 48, 49, 50, 51, 52, 55, 56, 57, 58, 59, 60, 61, 53, 54, 10] (fun x => [(10, .sc (.va (.int .i64 x.1)))]) (fun x => [(0, 60, [.va (.int .i64 63), .va (.int .i64 lf0), .va (.slice sa0 sn0 sc0)]), (2, 24, [.va (.int .i64 k'), .va (.string v'), .va (.string an'), .va (.string tg'), .va (.int .i64 st'), .va (.slice ka' l.length kc')]), (3, 24, [.va (.int .i64 0), .va (.string ⟨#[]⟩), .va (.string ⟨#[]⟩), .va (.string ⟨#[]⟩), .va (.int .i64 0), .va (.slice none 0 0)]), (4, 24, [.va (.int .i64 1), .va (.string x.2.1), .va (.string an0), .va (.string tg0), .va (.int .i64 x.2.2), .va (.slice ka0 0 kc0)])]) (fun _ => [(2, Row 9 1 (.slice sa0 sn0 sc0) sn0 xs0), (3, Trs 24 6 (.slice ka0 0 kc0) (T.gs []))]) (fun x => 3 - x.1) (0, v0, 3) ⟨Nat.zero_le _, (show goodS v0 3 from ⟨zi, zi, hgs0.2.2.1, fun h => absurd h zi⟩), rfl, fun m hm => absurd hm (Nat.not_lt_zero m)⟩ [(2, 2), (3, 3)] hX
     exact zq10; exact zq5; exact zq7; exact zq5; rfl; rfl; rfl; exact zq4; rintro ⟨i, vi, sti⟩ ⟨hi, hgi, hvi, hK⟩ E' hX' hA' hQ' J hJ; refine zl ?_; intro hX hP hA hQ
     refine vc_ok 900 _ _ _ ?_)
  | (with_reducible show WC _ _ _ ⟨_, [_, _, _, _, (4, 24, [_, .va (.string ⟨#[101]⟩), _, _, .va (.int .i64 st0), _])], _, _⟩
     apply WC_loopG (ι := Nat × ByteArray × Int) (fun x => x.1 <= 3 /\ goodS x.2.1 x.2.2 /\ x.2.1 = kNm ⟨#[101]⟩ x.1 /\ ∀ m, m < x.1 -> ∃ a t, l[2 * a]? = some t /\ t.v = kNm ⟨#[101]⟩ m) [44, 45, 46, 47, 48, 49, 50, 51, 52, 55, 56, 57, 58, 59, 60, 61, 53, 54, 10] (fun x => [(10, .sc (.va (.int .i64 x.1)))]) (fun x => [(0, 60, [.va (.int .i64 63), .va (.int .i64 lf0), .va (.slice sa0 sn0 sc0)]), (2, 24, [.va (.int .i64 k'), .va (.string v'), .va (.string an'), .va (.string tg'), .va (.int .i64 st'), .va (.slice ka' l.length kc')]), (3, 24, [.va (.int .i64 0), .va (.string ⟨#[]⟩), .va (.string ⟨#[]⟩), .va (.string ⟨#[]⟩), .va (.int .i64 0), .va (.slice none 0 0)]), (4, 24, [.va (.int .i64 1), .va (.string x.2.1), .va (.string an0), .va (.string tg0), .va (.int .i64 x.2.2), .va (.slice ka0 0 kc0)])]) (fun _ => [(2, Row 9 1 (.slice sa0 sn0 sc0) sn0 xs0), (3, Trs 24 6 (.slice ka0 0 kc0) (T.gs []))]) (fun x => 3 - x.1) (0, ⟨#[101]⟩, st0) ⟨Nat.zero_le _, ⟨hgs0.1, hgs0.2.1, (by decide : (⟨#[101]⟩ : ByteArray).size <= 40), fun _ => .inr (.inr ⟨(by decide : 0 < (⟨#[101]⟩ : ByteArray).size), (by unfold letterB; decide : letterB (bt ⟨#[101]⟩ 0))⟩)⟩, rfl, fun m hm => absurd hm (Nat.not_lt_zero m)⟩ [(2, 2), (3, 3)] hX
     exact zq10; exact zq5; exact zq7; exact zq5; rfl; rfl; rfl; exact zq4; rintro ⟨i, vi, sti⟩ ⟨hi, hgi, hvi, hK⟩ E' hX' hA' hQ' J hJ; refine zl ?_; intro hX hP hA hQ
     refine vc_ok 900 _ _ _ ?_)
  | (with_reducible show WC _ _ _ ⟨_, [_, _, _, _, (4, 24, [_, .va (.string ⟨#[101]⟩), _, _, .va (.int .i64 3), _])], _, _⟩
     apply WC_loopG (ι := Nat × ByteArray × Int) (fun x => x.1 <= 3 /\ goodS x.2.1 x.2.2 /\ x.2.1 = kNm ⟨#[101]⟩ x.1 /\ ∀ m, m < x.1 -> ∃ a t, l[2 * a]? = some t /\ t.v = kNm ⟨#[101]⟩ m) [44, 45, 46, 47, 48, 49, 50, 51, 52, 55, 56, 57, 58, 59, 60, 61, 53, 54, 10] (fun x => [(10, .sc (.va (.int .i64 x.1)))]) (fun x => [(0, 60, [.va (.int .i64 63), .va (.int .i64 lf0), .va (.slice sa0 sn0 sc0)]), (2, 24, [.va (.int .i64 k'), .va (.string v'), .va (.string an'), .va (.string tg'), .va (.int .i64 st'), .va (.slice ka' l.length kc')]), (3, 24, [.va (.int .i64 0), .va (.string ⟨#[]⟩), .va (.string ⟨#[]⟩), .va (.string ⟨#[]⟩), .va (.int .i64 0), .va (.slice none 0 0)]), (4, 24, [.va (.int .i64 1), .va (.string x.2.1), .va (.string an0), .va (.string tg0), .va (.int .i64 x.2.2), .va (.slice ka0 0 kc0)])]) (fun _ => [(2, Row 9 1 (.slice sa0 sn0 sc0) sn0 xs0), (3, Trs 24 6 (.slice ka0 0 kc0) (T.gs []))]) (fun x => 3 - x.1) (0, ⟨#[101]⟩, 3) ⟨Nat.zero_le _, ⟨zi, zi, (by decide : (⟨#[101]⟩ : ByteArray).size <= 40), fun h => absurd h zi⟩, rfl, fun m hm => absurd hm (Nat.not_lt_zero m)⟩ [(2, 2), (3, 3)] hX
     exact zq10; exact zq5; exact zq7; exact zq5; rfl; rfl; rfl; exact zq4; rintro ⟨i, vi, sti⟩ ⟨hi, hgi, hvi, hK⟩ E' hX' hA' hQ' J hJ; refine zl ?_; intro hX hP hA hQ
     refine vc_ok 900 _ _ _ ?_)
 all_goals (have hi4 : i = 0 \/ i = 1 \/ i = 2 \/ i = 3 := (by simp only at hi; omega))
 all_goals (rcases hi4 with rfl | rfl | rfl | rfl)
 all_goals (simp only at hi hgi hvi hK)
 all_goals repeat' first
  | refine zA ?_ | apply zI <;> intro hdec | with_reducible constructor
  | (refine zc0 (α := Bool) 113 (fun b => .sc (.va (.bool b))) (fun b => b = true -> ∃ i t, l[2 * i]? = some t /\ t.v = vi) ?_ ?_
     · (intro a w r own hSim; simp only [go_sem]; rw [hX] at hSim; have hc := c113 k' st' v' an' tg' vi ka' kc' l FM _ zo (GS.of hSim hFM hgs); simp only [treeC] at hc; with_reducible exact hc)
     intro b hb
     cases b)
  | (refine WO_LE 850 (LS_i2s (k := .i32) (m := IntKind.i32.wrap (48 + ((0 : Nat) : Int))) ⟨#[48]⟩ hP ?_ ?_ ?_ un9) ?_
     · exact zq27
     · first | rfl | decide
     · rw [un21]; rfl
     intro _ _)
  | (refine WO_LE 850 (LS_i2s (k := .i32) (m := IntKind.i32.wrap (48 + ((1 : Nat) : Int))) ⟨#[49]⟩ hP ?_ ?_ ?_ un9) ?_
     · exact zq27
     · first | rfl | decide
     · rw [un21]; rfl
     intro _ _)
  | (refine WO_LE 850 (LS_i2s (k := .i32) (m := IntKind.i32.wrap (48 + ((2 : Nat) : Int))) ⟨#[50]⟩ hP ?_ ?_ ?_ un9) ?_
     · exact zq27
     · first | rfl | decide
     · rw [un21]; rfl
     intro _ _)
  | (apply WX_lpG _ [(2, Row 9 1 (.slice sa0 sn0 sc0) sn0 xs0), (3, Trs 24 6 (.slice ka0 0 kc0) (T.gs []))] [(2, 2), (3, 3)] hX (hJ ((1, ⟨#[107, 48]⟩, 1)) ⟨(by decide : 1 <= 3), gK0, rfl, kNext hK hb hvi⟩ (by decide : 3 - 1 < 3 - 0)); exact zq7; exact zq3; exact zq7; exact zq3; rfl; rfl; rfl; exact zq4) | (apply WX_lpG _ [(2, Row 9 1 (.slice sa0 sn0 sc0) sn0 xs0), (3, Trs 24 6 (.slice ka0 0 kc0) (T.gs []))] [(2, 2), (3, 3)] hX (hJ ((2, ⟨#[107, 49]⟩, 1)) ⟨(by decide : 2 <= 3), gK1, rfl, kNext hK hb hvi⟩ (by decide : 3 - 2 < 3 - 1)); exact zq7; exact zq3; exact zq7; exact zq3; rfl; rfl; rfl; exact zq4) | (apply WX_lpG _ [(2, Row 9 1 (.slice sa0 sn0 sc0) sn0 xs0), (3, Trs 24 6 (.slice ka0 0 kc0) (T.gs []))] [(2, 2), (3, 3)] hX (hJ ((3, ⟨#[107, 50]⟩, 1)) ⟨(by decide : 3 <= 3), gK2, rfl, kNext hK hb hvi⟩ (by decide : 3 - 3 < 3 - 2)); exact zq7; exact zq3; exact zq7; exact zq3; rfl; rfl; rfl; exact zq4)
  | simp (maxSteps := 20000000) only [Tryz.f80, go_sem, zL, ↓reduceIte, reduceCtorEq, Nat.reduceAdd, Nat.reduceMul, Nat.reduceSub, Nat.reduceLeDiff, Nat.reduceEqDiff, Nat.reduceLT, Nat.reduceBEq, Int.reduceEq, hP, hX, treeC, fitC, List.length_nil, true_and, cat0, cat1, cat2]
 all_goals try first
  | (unfold I64; omega) | (show ByteArray.size _ + ByteArray.size _ <= _; decide)
  | (intro a w' r own hs'
     exact retN_fin2 hs' ⟨⟨1, vi, an0, tg0, sti, []⟩, ka0, kc0, lf0, sa0, sn0, sc0, xs0⟩ ⟨⟨.inr (.inl ⟨rfl, rfl, hgi⟩), hlf0, hfit0⟩, rfl, hlfe⟩ zm (fun r => ⟨_, rfl, CL_va _⟩) (j1 := 2) (j2 := 3) zw0 zw1 zi)
  | exact (pig hl4 (hK 1 zi) (hK 2 zi) (hvi ▸ hb rfl)).elim
