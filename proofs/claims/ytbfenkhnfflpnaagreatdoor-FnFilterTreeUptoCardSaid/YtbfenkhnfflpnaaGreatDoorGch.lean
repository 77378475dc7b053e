/- Lemmas for FnFilterTree; each condition stands in its statement. -/
import Derived.Test.YtbfenkhnfflpnaaGreatDoorGae
import Derived.Laws.NewFold
import Derived.Room.AppendFits
import Derived.Laws.MakeOwn
namespace Go.Proofs.YtbfenkhnfflpnaaGreatDoor.Sx
open Go Go.RowKit
set_option maxRecDepth 100000
set_option maxHeartbeats 40000000
set_option linter.all false
section
attribute [local irreducible] leT leH WO WX WC WD LS WS
def letterB (b : Int) : Prop := (97 <= b /\ b <= 122) \/ (65 <= b /\ b <= 90)
def digitB (b : Int) : Prop := 48 <= b /\ b <= 57
instance (b : Int) : Decidable (letterB b) := by unfold letterB; infer_instance
instance (b : Int) : Decidable (digitB b) := by unfold digitB; infer_instance
def alnumB (b : Int) : Prop := letterB b \/ digitB b
instance (b : Int) : Decidable (alnumB b) := by unfold alnumB; infer_instance
theorem c105 (b : Int) (w : World) : Calls Tryz.prog 105 [.int .u8 b].toArray w (RetS (.sc (.va (.bool (decide (letterB b))))) w) := by
 refine calls_start 1000 Tryz.func105 rfl fun E hX hP hA hQ => ?_
 repeat' first
  | refine zA ?_ | apply zI <;> intro hdec | with_reducible constructor | refine zs2 ?_
 all_goals first
  | omega
  | (intro a w' r own hs
     refine ⟨⟨_, rfl, fun r => .inr (congrArg Value.bool ?_)⟩, hs.frm⟩
     clear hs hQ hX hP hA; rw [Bool.eq_iff_iff]; simp only [eq_self, decide_eq_true_eq, Bool.false_eq_true, false_iff, true_iff, iff_true, iff_false, Bool.or_eq_true, Bool.and_eq_true] at *
     try simp only [letterB] at *
     omega)
theorem c106 (b : Int) (w : World) : Calls Tryz.prog 106 [.int .u8 b].toArray w (RetS (.sc (.va (.bool (decide (digitB b))))) w) := by
 refine calls_start 1000 Tryz.func106 rfl fun E hX hP hA hQ => ?_
 repeat' first
  | refine zA ?_ | apply zI <;> intro hdec | with_reducible constructor | refine zs2 ?_
 all_goals first
  | omega
  | (intro a w' r own hs
     refine ⟨⟨_, rfl, fun r => .inr (congrArg Value.bool ?_)⟩, hs.frm⟩
     clear hs hQ hX hP hA; rw [Bool.eq_iff_iff]; simp only [eq_self, decide_eq_true_eq, Bool.false_eq_true, false_iff, true_iff, iff_true, iff_false, Bool.or_eq_true, Bool.and_eq_true] at *
     try simp only [digitB] at *
     omega)
theorem c77 (b : Int) (w : World) : Calls Tryz.prog 77 [.int .u8 b].toArray w (RetS (.sc (.va (.bool (decide (alnumB b))))) w) := by
 refine calls_start 1000 Tryz.func77 rfl fun E hX hP hA hQ => ?_
 repeat' first
  | refine zA ?_ | apply zI <;> intro hdec | with_reducible constructor
  | (refine zcS 105 (.sc (.va (.bool (decide (letterB b))))) ?_ ?_
     · (intro a w r own hs; simp only [go_sem]; exact c105 b _))
  | (refine zcS 106 (.sc (.va (.bool (decide (digitB b))))) ?_ ?_
     · (intro a w r own hs; simp only [go_sem]; exact c106 b _))
  | refine zs2 ?_
 all_goals first
  | omega
  | (intro a w' r own hs
     refine ⟨⟨_, rfl, fun r => .inr (congrArg Value.bool ?_)⟩, hs.frm⟩
     clear hs hQ hX hP hA; rw [Bool.eq_iff_iff]; simp only [eq_self, decide_eq_true_eq, Bool.false_eq_true, false_iff, true_iff, iff_true, iff_false, Bool.or_eq_true, Bool.and_eq_true] at *
     try simp only [letterB, digitB, alnumB] at *
     omega)
theorem c32 (x n : Int) (hn : 0 < n) (hn2 : n <= 1000) (w : World) : Calls Tryz.prog 32 [.int .i64 x, .int .i64 n].toArray w (RetS (.sc (.va (.int .i64 ((x.tmod n + n).tmod n)))) w) := by
 refine calls_start 1000 Tryz.func32 rfl fun E hX hP hA hQ => ?_
 repeat' first
  | refine zA ?_ | apply zI <;> intro hdec | with_reducible constructor | refine zs2 ?_
 · omega
 · have h1 := Int.lt_tmod_of_pos x hn
   have h2 := Int.tmod_lt_of_pos x hn; exact ⟨zo, zo⟩
 · omega
 · intro a w' r own hs
   exact retS_va _ hs.frm
theorem retN_fin {P : Program} {w0 : World} {g : Nat} {S : St} {A : Facts} {a : Act} {w : World} {r : Nat -> Nat} {own : Nat -> Option Ent} (hs : Sim ⟨P, w0, fun k => k ∈ [g], [], rtOf 0 [g]⟩ S A a w r own) {t : Nat} {cs : List Value} (hm : (0, t, cs.map .va) ∈ S.h) {sv : SV} {u : Value} (hu : ∀ r, sv.ok r u) :
 RetN (fun _ : Unit => sv) (fun _ => True) (fun _ => Asn.emp) g t (fun _ => cs) (fun _ => False) w0 (.returned u) w := by
 have hr := (hs.rts 0 g (List.mem_singleton_self _)).2; obtain ⟨_, _, _, vs, e4, e5, e6⟩ := hs.heap 0 t _ hm
 have hv : vs = cs := by
  have := CL_den (by simp [Cl.known]) e5; rw [this, List.map_map]; exact (List.map_congr_left fun v _ => rfl).trans (List.map_id _)
 subst hv; rw [hr] at e4; exact ⟨(), trivial, ⟨u, rfl, hu⟩, ⟨hs.frm.os, hs.frm.tape, hs.frm.output, hs.frm.size, fun k hk hn => hs.frm.block k hk (fun hm => hn (.inl (by simpa using hm)))⟩, e4, e6, fun _ => False, fun k hk => hk.elim, fun k hk => hk⟩
theorem c33 (w : World) (g : Nat) (lf : Int) (a : Option Addr) (m cp : Nat) (x : Int) (hg : w.heap[g]? = some (.cells [.int .i64 63, .int .i64 lf, .slice a m cp].toArray 60 (0, 0))) (hx : x = 1 \/ x = 2 \/ x = 4 \/ x = 8 \/ x = 16 \/ x = 32) :
 Calls Tryz.prog 33 [.pointer (some ⟨g, 0, none⟩), .int .i64 x].toArray w (RetS (.sc (.va (.bool true))) w) := by
 have hh := HpOk_one hg rfl
 refine calls_startG 1000 [g] [(0, 60, [.va (.int .i64 63), .va (.int .i64 lf), .va (.slice a m cp)])] [.sc (.pt 0 0), .sc (.va (.int .i64 x))] Tryz.func33 rfl ⟨⟨rfl, rfl⟩, ⟨rfl, rfl⟩, trivial⟩ zp hh fun E hX hP hA hQ => ?_
 repeat' first
  | refine zA ?_ | apply zI <;> intro hdec | with_reducible constructor | refine zs2 ?_
 intro a' w' r own hs; have hf := frm_back hs _ hh rfl (fun x hx => hx) (fun n hn => ⟨_, List.mem_singleton_self _, by simp at hn; omega⟩)
 rcases hx with rfl | rfl | rfl | rfl | rfl | rfl <;> refine ⟨⟨_, rfl, fun r => .inr (congrArg Value.bool ?_)⟩, hf⟩ <;> decide
def placeC (line col : Int) : List Value := [.int .i64 line, .int .i64 (1 + (col - 1).tmod 200), .int .i64 (1 + (col - 1).tmod 200), .int .i64 0, .int .i64 0]
theorem c40 (w : World) (g : Nat) (line col : Int) (hc : 1 <= col) (hc2 : col <= 1000000000) (hg : w.heap[g]? = some (.cells [.int .i64 line, .int .i64 col].toArray 65 (0, 0))) :
 Calls Tryz.prog 40 [.pointer (some ⟨g, 0, none⟩)].toArray w (RetN (fun _ : Unit => .ag ((placeC line col).map .va)) (fun _ => True) (fun _ => Asn.emp) g 65 (fun _ => [.int .i64 line, .int .i64 (col + 1)]) (fun _ => False) w) := by
 have hh := HpOk_one hg rfl
 refine calls_startG 1000 [g] [(0, 65, [.va (.int .i64 line), .va (.int .i64 col)])] [.sc (.pt 0 0)] Tryz.func40 rfl ⟨⟨rfl, rfl⟩, trivial⟩ zp hh ?_
 intro E hX hP hA hQ; have hm := Int.tmod_lt_of_pos (col - 1) (show (0 : Int) < 200 by decide); have hm2 := Int.tmod_nonneg (b := 200) (show (0 : Int) <= col - 1 by omega)
 repeat' first
  | refine zA ?_ | apply zI <;> intro hdec | with_reducible constructor | refine zs2 ?_
 all_goals first
  | (unfold I64; omega) | omega | (intro a w' r own hs; exact retN_fin hs zm fun r => ⟨_, rfl, CL_va (placeC line col)⟩)
def nodeC (kind type : Int) (value text origin path : ByteArray) (flow begun ended : Bool) (p1 p2 p3 p4 p5 : Int) (ka : Option Addr) (kn kc : Nat) : List Value :=
 [.int .i64 kind, .int .i64 type, .string value, .string text, .string origin, .string path, .bool flow, .bool begun, .bool ended, .int .i64 p1, .int .i64 p2, .int .i64 p3, .int .i64 p4, .int .i64 p5, .slice none 0 0, .slice none 0 0, .slice none 0 0, .slice none 0 0, .slice ka kn kc]
theorem c13 (w : World) (a b : Int) (v t og pt : ByteArray) (fl bg en : Bool) (p1 p2 p3 p4 p5 : Int) (ka : Option Addr) (kn kc : Nat) :
 Calls Tryz.prog 13 [.agg (nodeC a b v t og pt fl bg en p1 p2 p3 p4 p5 ka kn kc).toArray].toArray w (RetS (.ag ((nodeC a b v t og pt fl bg en p1 p2 p3 p4 p5 none 0 0).map .va)) w) := by
 refine calls_start 1000 Tryz.func13 rfl fun E hX hP hA hQ => ?_
 repeat' first
  | refine zA ?_ | apply zI <;> intro hdec | with_reducible constructor
  | simp (maxSteps := 20000000) only [Tryz.f13, go_sem, zN, ↓reduceIte, reduceCtorEq, Nat.reduceAdd, Nat.reduceMul, Nat.reduceSub, Nat.reduceLeDiff, Nat.reduceEqDiff, hP, hX, nodeC]
 all_goals (intro a' w' r own hs; exact retS_ag (nodeC a b v t og pt fl bg en p1 p2 p3 p4 p5 none 0 0) hs.frm)
theorem c39 (w : World) (a b : Int) (c : ByteArray) (p1 p2 p3 p4 p5 : Int) :
 Calls Tryz.prog 39 [.int .i64 a, .int .i64 b, .string c, .agg [.int .i64 p1, .int .i64 p2, .int .i64 p3, .int .i64 p4, .int .i64 p5].toArray].toArray w
  (RetS (.ag ((nodeC a b (if a = 8 \/ a = 19 then c else ⟨#[]⟩) c c ⟨#[]⟩ false false false p1 p2 p3 p4 p5 none 0 0).map .va)) w) := by
 refine calls_start 1000 Tryz.func39 rfl fun E hX hP hA hQ => ?_
 repeat' first
  | refine zA ?_ | apply zI <;> intro hdec | with_reducible constructor | refine zs2 ?_
 all_goals (intro a' w' r own hs)
 all_goals first
  | (rw [if_pos zo]; exact retS_ag (nodeC a b c c c ⟨#[]⟩ false false false p1 p2 p3 p4 p5 none 0 0) hs.frm) | (rw [if_neg zo]; exact retS_ag (nodeC a b ⟨#[]⟩ c c ⟨#[]⟩ false false false p1 p2 p3 p4 p5 none 0 0) hs.frm)
def treeC (kind : Int) (value anchor tag : ByteArray) (style : Int) (ka : Option Addr) (kn kc : Nat) : List Value := [.int .i64 kind, .string value, .string anchor, .string tag, .int .i64 style, .slice ka kn kc]
theorem c38 (w : World) (k st : Int) (v an tg : ByteArray) (ka : Option Addr) (kn kc : Nat) :
 Calls Tryz.prog 38 [.agg (treeC k v an tg st ka kn kc).toArray].toArray w (RetS (.sc (.va (.bool (decide (k = 1 /\ st = 1 /\ v = ⟨#[]⟩))))) w) := by
 refine calls_start 1000 Tryz.func38 rfl fun E hX hP hA hQ => ?_
 repeat' first
  | refine zA ?_ | apply zI <;> intro hdec | with_reducible constructor | refine zs19 ?_
 all_goals (intro a' w' r own hs)
 all_goals (refine ⟨⟨_, rfl, fun r => .inr (congrArg Value.bool ?_)⟩, hs.frm⟩; clear hs hQ hX hP hA; simp [*])
theorem c20 (w : World) (k st : Int) (v an tg : ByteArray) (ka : Option Addr) (kn kc : Nat) :
 Calls Tryz.prog 20 [.agg (treeC k v an tg st ka kn kc).toArray].toArray w (RetS (.sc (.va (.bool (decide ((k = 1 /\ st = 1 /\ v = ⟨#[]⟩) /\ an = ⟨#[]⟩ /\ tg = ⟨#[]⟩))))) w) := by
 refine calls_start 1000 Tryz.func20 rfl fun E hX hP hA hQ => ?_
 repeat' first
  | refine zA ?_ | apply zI <;> intro hdec | with_reducible constructor
  | (refine zcS 38 (.sc (.va (.bool (decide (k = 1 /\ st = 1 /\ v = ⟨#[]⟩))))) ?_ ?_
     · (intro a w r own hs; simp only [go_sem]; exact c38 w k st v an tg ka kn kc))
  | refine zs19 ?_
 all_goals (intro a' w' r own hs)
 all_goals (refine ⟨⟨_, rfl, fun r => .inr (congrArg Value.bool ?_)⟩, hs.frm⟩; clear hs hQ hX hP hA; simp_all)
def sml (n : Int) : Int := if n < 0 \/ 200 < n then 0 else n
theorem c48 (w : World) (n : Int) : Calls Tryz.prog 48 [.int .i64 n].toArray w (RetS (.sc (.va (.int .i64 (sml n)))) w) := by
 refine calls_start 1000 Tryz.func48 rfl fun E hX hP hA hQ => ?_
 repeat' first
  | refine zA ?_ | apply zI <;> intro hdec | with_reducible constructor | refine zs2 ?_
 all_goals (intro a' w' r own hs)
 all_goals first
  | (rw [show sml n = 0 by unfold sml; rw [if_pos zo]]; exact retS_va _ hs.frm) | (rw [show sml n = n by unfold sml; rw [if_neg zo]]; exact retS_va _ hs.frm)
theorem c4 (w : World) (k st : Int) (v an tg : ByteArray) (ka : Option Addr) (kn kc : Nat) :
 Calls Tryz.prog 4 [.agg (treeC k v an tg st ka kn kc).toArray].toArray w (RetS (.sc (.va (.bool (decide (v.size <= 2147483647 /\ an.size <= 2147483647 /\ tg.size <= 2147483647 /\ kn <= 2147483647))))) w) := by
 refine calls_start 1000 Tryz.func4 rfl fun E hX hP hA hQ => ?_
 repeat' first
  | refine zA ?_ | apply zI <;> intro hdec | with_reducible constructor | refine zs19 ?_
 all_goals (intro a' w' r own hs)
 all_goals (refine ⟨⟨_, rfl, fun r => .inr (congrArg Value.bool ?_)⟩, hs.frm⟩; clear hs hQ hX hP hA; simp; omega)
theorem all_succ {p : Nat -> Prop} {i : Nat} (h : ∀ j, j < i -> p j) (hi : p i) : ∀ j, j < i + 1 -> p j := fun j hj => (Nat.lt_succ_iff_lt_or_eq.1 hj).elim (h j) (fun e => e ▸ hi)
def allD (s : ByteArray) : Prop := ∀ j : Nat, j < s.size -> digitB (bt s j)
open Classical in
theorem c141 (s : ByteArray) (least most : Int) (hs : s.size <= 2147483647) (w : World) : Calls Tryz.prog 141 [.string s, .int .i64 least, .int .i64 most].toArray w (RetS (.sc (.va (.bool (decide (allD s /\ least <= s.size /\ s.size <= most))))) w) := by
 refine calls_start 1000 Tryz.func141 rfl fun E hX hP hA hQ => ?_
 repeat' first
  | refine zA ?_ | apply zI <;> intro hdec | with_reducible constructor | refine zs2 ?_
 apply WC_loopF (ι := Nat) (fun i => i <= s.size /\ ∀ j : Nat, j < i -> digitB (bt s j)) [8, 9, 10, 11, 14, 15, 16, 17, 18, 6, 12, 13, 7] (fun i => [(7, .sc (.va (.int .i64 i)))]) (fun i => s.size - i) 0 ⟨Nat.zero_le _, fun j hj => absurd hj (Nat.not_lt_zero _)⟩ hX
 exact zq43; exact zq24; intro i hi E' hX' hA' hQ' J hJ; rw [hA] at hJ; refine zl ?_; intro hX hP hA hQ
 refine vc_ok 900 _ _ _ ?_
 repeat' first
  | refine zA ?_ | apply zI <;> intro hdec | with_reducible constructor
  | (refine zcS 106 (.sc (.va (.bool (decide (digitB (bt s i)))))) ?_ ?_
     · (intro a w r own hs; simp only [go_sem]; exact c106 _ _))
  | refine zs2 ?_
 all_goals first
  | omega | (unfold I64; omega) | (apply WX_lpF _ hX (hJ (i + 1) ⟨zo, all_succ hi.2 (by assumption)⟩ zo); exact zq26; exact zq0; exact zq41; exact zq0; rfl)
  | (intro a w' r own hs'; refine ⟨⟨_, rfl, fun r => .inr (congrArg Value.bool ?_)⟩, hs'.frm⟩; clear hs' hQ hX hP hA hJ
     first
      | exact (decide_eq_false (fun h => absurd (h.1 i zo) (by assumption))).symm
      | (have hall : allD s := fun j hj => hi.2 j zo
         simp_all <;> omega))
theorem c185 (b : Int) (s : ByteArray) (hs : s.size <= 2147483647) (w : World) : Calls Tryz.prog 185 [.int .u8 b, .string s].toArray w (Ret0 (fun b : Bool => .sc (.va (.bool b))) (fun _ => True) w) := by
 refine calls_start 1000 Tryz.func185 rfl fun E hX hP hA hQ => ?_
 repeat' first
  | refine zA ?_ | apply zI <;> intro hdec | with_reducible constructor | refine zs2 ?_
 apply WC_loopF (ι := Nat) (fun i => i <= s.size) [6, 7, 8, 9, 12, 13, 14, 15, 16, 4, 10, 11, 5] (fun i => [(5, .sc (.va (.int .i64 i)))]) (fun i => s.size - i) 0 (Nat.zero_le _) hX
 exact zq43; exact zq24; intro i hi E' hX' hA' hQ' J hJ; rw [hA] at hJ; refine zl ?_; intro hX hP hA hQ
 refine vc_ok 900 _ _ _ ?_
 repeat' first
  | refine zA ?_ | apply zI <;> intro hdec | with_reducible constructor | refine zs2 ?_
 all_goals first
  | omega | (unfold I64; omega) | exact zr23 | exact zr20
theorem c109 (s : ByteArray) (hs : s.size <= 2147483647) (w : World) : Calls Tryz.prog 109 [.string s].toArray w (Ret0 (fun b : Bool => .sc (.va (.bool b))) (fun _ => True) w) := by
 refine calls_start 1000 Tryz.func109 rfl fun E hX hP hA hQ => ?_
 repeat' first
  | refine zA ?_ | apply zI <;> intro hdec | with_reducible constructor | refine zs2 ?_
 apply WC_loopF (ι := Nat) (fun i => i <= s.size) [4, 5, 6, 7, 10, 11, 12, 13, 14, 15, 16, 17, 18, 19, 2, 8, 9, 3] (fun i => [(3, .sc (.va (.int .i64 i)))]) (fun i => s.size - i) 0 (Nat.zero_le _) hX
 exact zq43; exact zq24; intro i hi E' hX' hA' hQ' J hJ; rw [hA] at hJ; refine zl ?_; intro hX hP hA hQ
 refine vc_ok 900 _ _ _ ?_
 repeat' first
  | refine zA ?_ | apply zI <;> intro hdec | with_reducible constructor | refine zs2 ?_
 all_goals first
  | omega | (unfold I64; omega) | exact zr23 | exact zr20
theorem c112 (s : ByteArray) (hs : s.size <= 2147483647) (w : World) : Calls Tryz.prog 112 [.string s].toArray w (Ret0 (fun b : Bool => .sc (.va (.bool b))) (fun _ => True) w) := by
 refine calls_start 1000 Tryz.func112 rfl fun E hX hP hA hQ => ?_
 repeat' first
  | refine zA ?_ | apply zI <;> intro hdec | with_reducible constructor | refine zs2 ?_
 apply WC_loopF (ι := Nat) (fun i => i <= s.size) [4, 5, 6, 7, 10, 11, 12, 13, 14, 15, 16, 17, 18, 19, 20, 21, 22, 23, 24, 25, 26, 27, 28, 29, 30, 31, 32, 33, 34, 35, 36, 37, 2, 8, 9, 3] (fun i => [(3, .sc (.va (.int .i64 i)))]) (fun i => s.size - i) 0 (Nat.zero_le _) hX
 exact zq43; exact zq24; intro i hi E' hX' hA' hQ' J hJ; rw [hA] at hJ; refine zl ?_; intro hX hP hA hQ
 refine vc_ok 900 _ _ _ ?_
 repeat' first
  | refine zA ?_ | apply zI <;> intro hdec | with_reducible constructor | refine zs2 ?_
 all_goals first
  | omega | (unfold I64; omega) | exact zr23 | exact zr20
theorem szpos {s : ByteArray} (h : ¬ s = ⟨#[]⟩) : 0 < s.size := by
 rcases Nat.eq_zero_or_pos s.size with h0 | h0
 · refine absurd ?_ h
   cases s with
   | mk d => congr; exact Array.eq_empty_of_size_eq_zero h0
 · exact h0
theorem c110 (s : ByteArray) (hs : s.size <= 2147483647) (w : World) : Calls Tryz.prog 110 [.string s].toArray w (Ret0 (fun b : Bool => .sc (.va (.bool b))) (fun _ => True) w) := by
 refine calls_start 1000 Tryz.func110 rfl fun E hX hP hA hQ => ?_
 repeat' first
  | refine zA ?_ | apply zI <;> intro hdec | with_reducible constructor
  | simp (maxSteps := 20000000) only [Tryz.f110, go_sem, zN, ↓reduceIte, reduceCtorEq, Nat.reduceAdd, Nat.reduceMul, Nat.reduceSub, Nat.reduceLeDiff, Nat.reduceEqDiff, hP, hX]
 all_goals try first
  | omega | (unfold I64; omega) | exact zr24 | exact zr28 | exact zr20
 all_goals
  apply WC_loopF (ι := Nat) (fun i => i <= s.size) [37, 38, 39, 40, 43, 44, 45, 46, 47, 48, 49, 50, 51, 52, 53, 54, 55, 56, 57, 58, 59, 60, 61, 62, 63, 64, 65, 66, 67, 68, 69, 70, 71, 72, 73, 74, 75, 76, 77, 78, 2, 41, 42, 3] (fun i => [(3, .sc (.va (.int .i64 i)))]) (fun i => s.size - i) 0 (Nat.zero_le _) hX
  exact zq43; exact zq24; intro i hi E' hX' hA' hQ' J hJ; rw [hA] at hJ; refine zl ?_; intro hX hP hA hQ
  refine vc_ok 900 _ _ _ ?_
  repeat' first
   | refine zA ?_ | apply zI <;> intro hdec | with_reducible constructor
   | simp (maxSteps := 20000000) only [Tryz.f110, go_sem, zN, ↓reduceIte, reduceCtorEq, Nat.reduceAdd, Nat.reduceMul, Nat.reduceSub, Nat.reduceLeDiff, Nat.reduceEqDiff, hP, hX]
  all_goals first
   | omega | (unfold I64; omega) | exact zr24 | exact zr28 | exact zr23 | exact zr20
theorem c111 (s : ByteArray) (hs : s.size <= 2147483647) (w : World) : Calls Tryz.prog 111 [.string s].toArray w (Ret0 (fun b : Bool => .sc (.va (.bool b))) (fun _ => True) w) := by
 refine calls_start 1000 Tryz.func111 rfl fun E hX hP hA hQ => ?_
 repeat' first
  | refine zA ?_ | apply zI <;> intro hdec | with_reducible constructor
  | simp (maxSteps := 20000000) only [Tryz.f111, go_sem, zN, ↓reduceIte, reduceCtorEq, Nat.reduceAdd, Nat.reduceMul, Nat.reduceSub, Nat.reduceLeDiff, Nat.reduceEqDiff, hP, hX]
 apply WC_loopF (ι := Nat) (fun i => i <= s.size) [4, 5, 6, 7, 8, 11, 12, 13, 14, 15, 16, 17, 18, 19, 20, 21, 22, 23, 24, 25, 26, 27, 28, 2, 9, 10, 3] (fun i => [(3, .sc (.va (.int .i64 i)))]) (fun i => s.size - i) 0 (Nat.zero_le _) hX
 exact zq43; exact zq24; intro i hi E' hX' hA' hQ' J hJ; rw [hA] at hJ; refine zl ?_; intro hX hP hA hQ
 refine vc_ok 900 _ _ _ ?_
 repeat' first
  | refine zA ?_ | apply zI <;> intro hdec | with_reducible constructor
  | (refine zc0 (α := Bool) 110 (fun b => .sc (.va (.bool b))) (fun _ => True) ?_ ?_
     · (intro a w r own hSim; simp only [go_sem]; exact c110 s hs _)
     intro b _
     cases b)
  | simp (maxSteps := 20000000) only [Tryz.f111, go_sem, zN, ↓reduceIte, reduceCtorEq, Nat.reduceAdd, Nat.reduceMul, Nat.reduceSub, Nat.reduceLeDiff, Nat.reduceEqDiff, hP, hX]
 all_goals first
  | omega | (unfold I64; omega) | exact zr24 | exact zr28 | exact zr23 | exact zr20
def signedF (s : ByteArray) : ByteArray := if bt s 0 = 43 \/ s = ⟨#[45, 48]⟩ then s.extract 1 s.size else s
theorem c114 (s : ByteArray) (hs : s.size <= 2147483647) (h0 : 0 < s.size) (w : World) : Calls Tryz.prog 114 [.string s].toArray w (RetS (.sc (.va (.string (signedF s)))) w) := by
 refine calls_start 1000 Tryz.func114 rfl fun E hX hP hA hQ => ?_
 repeat' first
  | refine zA ?_ | apply zI <;> intro hdec | with_reducible constructor | refine zs5 ?_
 all_goals first
  | omega
  | (intro a w' r own hs'
     refine ⟨⟨_, rfl, fun r => .inr (congrArg Value.string ?_)⟩, hs'.frm⟩
     first
      | exact (if_pos (.inl (by assumption))).symm
      | exact (if_pos (.inr (by assumption))).symm
      | exact (if_neg (by rintro (h | h) <;> contradiction)).symm)
theorem wrapU8 (x : Int) : 0 <= IntKind.u8.wrap x /\ IntKind.u8.wrap x < 256 := by
 unfold IntKind.wrap
 simp only [IntKind.signed, IntKind.bits, Bool.false_and, Bool.false_eq_true, if_false]; omega
theorem c143 (s : ByteArray) (hs : s.size <= 2147483647) (w : World) : Calls Tryz.prog 143 [.string s].toArray w (Ret0 (fun b : Bool => .sc (.va (.bool b))) (fun _ => True) w) := by
 refine calls_start 1000 Tryz.func143 rfl fun E hX hP hA hQ => ?_
 repeat' first
  | refine zA ?_ | apply zI <;> intro hdec | with_reducible constructor | refine zs5 ?_
 apply WO_LS 900 (LS_s2b hP rfl rfl un9 un207 un5)
 rintro ⟨g, cp⟩ _ E1 hX' hA' hQ'; rw [hA] at hA'; simp only [go_sem, List.filter_nil] at hA'
 have hP2 : E1.X.P = Tryz.prog := by rw [hX', hX]
 rw [hQ] at hQ'; rw [hX] at hX'; clear hQ hA hP hX; have hX := hX'; have hP := hP2; have hQ := hQ'; have hA := hA'; clear hX' hP2 hQ' hA'
 repeat' first
  | refine zA ?_ | apply zI <;> intro hdec | with_reducible constructor | refine zs5 ?_
 apply WC_loopF (ι := Nat) (fun i => i <= s.size) [11, 12, 13, 14, 4, 5, 15, 16, 17, 18, 19, 20, 21, 22, 23, 24, 25, 26, 10] (fun i => [(10, .sc (.va (.int .i64 i)))]) (fun i => s.size - i) 0 (Nat.zero_le _) hX
 exact zq43; exact zq24; intro i hi E' hX' hA' hQ' J hJ; rw [hA] at hJ; refine zl ?_; intro hX hP hA hQ
 refine vc_ok 900 _ _ _ ?_
 repeat' first
  | refine zA ?_ | apply zI <;> intro hdec | with_reducible constructor
  | (refine WO_LE 850 (LS_bload' g ((i : Int).toNat * 1) 5 s.size 0 hP ?_ ?_ ?_ ?_) ?_
     exact zq0; exact zq13
     · (simp only [Int.toNat_natCast]; omega)
     exact sz5; intro b hb)
  | (refine WO_LS 850 (LS_bstore' g ((i : Int).toNat * 1) 5 s.size _ 0 hP ?_ rfl ?_ ?_ ?_ ?_ ?_) ?_
     exact zq0; exact zq13
     · (simp only [Int.toNat_natCast]; omega)
     exact (wrapU8 _).1; exact (wrapU8 _).2; exact sz5; intro _ _ E2 h1 h2 h3; refine zz ?_; intro hX hP hA hQ)
  | (refine WO_LE 850 (LS_b2s' g s.size cp 0 hP ?_ ?_ ?_ ?_ ?_) ?_; exact zq0; exact zq13; exact un207; exact un9; exact un5; intro z _) | (apply WX_lp1 _ 0 (Byt g 5 s.size) hX (hJ (i + 1) zo zo) 0 zw0; exact zq26; exact zq0; exact zq41; exact zq0; rfl; exact Nat.lt_succ_self _) | (apply WX_lp1 _ 0 (Byt g 5 s.size) hX (hJ (i + 1) zo zo) 1 zw0; exact zq26; exact zq0; exact zq41; exact zq0; rfl; exact Nat.lt_succ_self _) | exact zr20 | refine zs5 ?_
 all_goals first | rfl | omega | (unfold I64; omega) | skip
 apply WO_LS 850 (LS_b2s' g s.size cp 0 hP (by simp only [go_sem]) zw0 un207 un9 un5)
 intro z _ E2 h1 h2 h3; obtain rfl := En_eq _ _ h1 h2 h3
 repeat' first
  | refine zA ?_ | apply zI <;> intro hdec | with_reducible constructor | exact zr20 | refine zs5 ?_
theorem c34 (s : ByteArray) (hs : s.size <= 2147483647) (w : World) : Calls Tryz.prog 34 [.string s].toArray w (Ret0 (fun z : ByteArray => .sc (.va (.string z))) (fun z => z.size <= 8) w) := by
 refine calls_start 1000 Tryz.func34 rfl fun E hX hP hA hQ => ?_
 repeat' first
  | refine zA ?_ | apply zI <;> intro hdec | with_reducible constructor | refine zs5 ?_
 apply WC_addE (Row 5 1 (.slice none 0 0) 0 []) (fun w => ⟨World.ownsRow_nil w _ _ _, fun k => by simp [Value.ownBlock], fun u hu => by cases hu⟩)
 intro E2 h1 h2 h3; dsimp only; refine zz ?_; intro hX hP hA hQ
 apply WC_loopG (ι := Nat × Nat × Option Addr × Nat × List Value) (fun x => x.1 <= s.size /\ x.2.1 <= 8 /\ (∀ u ∈ x.2.2.2.2, ∃ b : Int, u = .int .u8 b)) [5, 6, 7, 8, 9, 10, 11, 12, 13, 16, 17, 18, 19, 20, 21, 22, 23, 24, 25, 26, 27, 28, 29, 30, 31, 32, 33, 34, 35, 36, 37, 38, 39, 40, 41, 42, 3, 14, 15, 4] (fun x => [(3, .sc (.va (.slice x.2.2.1 x.2.1 x.2.2.2.1))), (4, .sc (.va (.int .i64 x.1)))]) (fun _ => []) (fun x => [(0, Row 5 1 (.slice x.2.2.1 x.2.1 x.2.2.2.1) x.2.1 x.2.2.2.2)]) (fun x => s.size - x.1) (0, 0, none, 0, []) ⟨Nat.zero_le _, Nat.zero_le _, fun u hu => by cases hu⟩ [(0, 0)] hX
 exact zq10; exact zq27; exact zq26; exact zq27; rfl; rfl; rfl; exact zq55; rintro ⟨i, n, ad, cp, xs⟩ ⟨hi, hn, hxs⟩ E' hX' hA' hQ' J hJ; refine zl ?_; intro hX hP hA hQ
 refine vc_ok 900 _ _ _ ?_
 simp only at hi hn hxs hA
 repeat' first
  | refine zA ?_ | apply zI <;> intro hdec | with_reducible constructor | (refine zcS 77 (.sc (.va (.bool (decide (alnumB (bt s i)))))) ?_ ?_; exact zq54) | (refine zr99 ?_; rintro v' ⟨_, a', cp', rfl⟩ E2 h1 h2 h3; refine zz ?_; intro hX hP hA hQ) | exact zr95 | exact zr110 | (refine WO_LE 850 (LS_b2sR (.slice ad n cp) (n) (xs) 0 hP ?_ ?_ hxs un207 un9 un5) ?_; exact zq0; exact zq13; intro z hz) | refine zs5 ?_
 all_goals try first
  | omega | (unfold I64; omega) | (intro a w' r own hs'; exact ⟨z, zo, ⟨_, rfl, fun r => .inr rfl⟩, hs'.frm⟩)
theorem c35 (s : ByteArray) (kind lf : Int) (g : Nat) (sa : Option Addr) (sn sc : Nat) (hs : s.size <= 2147483647) (w : World) (hg : w.heap[g]? = some (.cells [.int .i64 63, .int .i64 lf, .slice sa sn sc].toArray 60 (0, 0))) : Calls Tryz.prog 35 [.pointer (some ⟨g, 0, none⟩), .string s, .int .i64 kind].toArray w (Ret0 (fun z : ByteArray => .sc (.va (.string z))) (fun _ => True) w) := by
 refine calls_start 1000 Tryz.func35 rfl fun E hX hP hA hQ => ?_
 repeat' first
  | refine zA ?_ | apply zI <;> intro hdec | with_reducible constructor
  | (refine zcS 33 (.sc (.va (.bool true))) ?_ ?_
     · (intro a w r own hSim; simp only [go_sem]; rw [hX] at hSim; exact c33 _ g lf sa sn sc _ (hSim.keep hg) zi))
  | refine zs5 ?_
 all_goals try first
  | omega | exact zr20 | exact zr24
 apply WC_conc 0 5 [.int .u8 33]
 rfl; intro g1 E2 h1 h2 h3; simp only [go_sem, ↓reduceIte, Nat.reduceAdd, Nat.zero_add]; refine zz ?_; intro hX hP hA hQ
 refine WC_imp [(0, Row 5 1 (.slice (some ⟨g1, 0, none⟩) 1 1) 1 [.int .u8 33])] (fun l B h => by
  obtain ⟨rfl, rfl⟩ : l = 0 /\ B = _ := by simpa using h
  exact ⟨_, by rw [hA]; exact zm, fun w F h => Blk.row (n := 1) (cap := 1) h (Nat.le_refl _) zi rfl⟩) ?_
 intro E2 h1 h2 h3; replace hX := h1.trans hX
 replace hP : E2.X.P = Tryz.prog := by rw [hX]
 replace hQ := h3.trans hQ; replace hA := h2; clear h1 h2 h3
 apply WC_loopG (ι := Nat × Nat × Option Addr × Nat × List Value) (fun x => x.1 <= s.size /\ x.2.1 <= 9 /\ (∀ u ∈ x.2.2.2.2, ∃ b : Int, u = .int .u8 b)) [26, 27, 28, 29, 30, 31, 32, 33, 34, 37, 38, 39, 40, 41, 42, 43, 44, 45, 46, 7, 35, 36, 8] (fun x => [(7, .sc (.va (.slice x.2.2.1 x.2.1 x.2.2.2.1))), (8, .sc (.va (.int .i64 x.1)))]) (fun _ => []) (fun x => [(0, Row 5 1 (.slice x.2.2.1 x.2.1 x.2.2.2.1) x.2.1 x.2.2.2.2)]) (fun x => s.size - x.1) (1, 1, some ⟨g1, 0, none⟩, 1, [.int .u8 33]) ⟨szpos (by assumption), (by simp only; omega), fun u hu => ⟨33, List.mem_singleton.1 hu⟩⟩ [(0, 0)] hX
 exact zq10; exact zq27; exact zq26; exact zq27; rfl; rfl; rfl; exact zq55; rintro ⟨i, n, ad, cp, xs⟩ ⟨hi, hn, hxs⟩ E' hX' hA' hQ' J hJ; refine zl ?_; intro hX hP hA hQ
 refine vc_ok 900 _ _ _ ?_
 simp only at hi hn hxs hA
 repeat' first
  | refine zA ?_ | apply zI <;> intro hdec | with_reducible constructor | (refine zcS 77 (.sc (.va (.bool (decide (alnumB (bt s i)))))) ?_ ?_; exact zq54) | (refine zr99 ?_; rintro v' ⟨_, a', cp', rfl⟩ E2 h1 h2 h3; refine zz ?_; intro hX hP hA hQ)
  | (refine WO_LS 850 (LS_append (e := 5) (size := 1) (bytes := 1) 0 (.slice ad n cp) (n) (xs) 1 [.int .u8 120] hP rfl ?_ ?_ ?_ ?_ ?_ ?_ ?_) ?_
     exact zq1; exact zq0; exact zq13; exact zq22; rfl; omega; decide; rintro v' ⟨_, a', cp', rfl⟩ E2 h1 h2 h3; refine zz ?_; intro hX hP hA hQ)
  | exact zr95 | exact zr110 | (refine WO_LE 850 (LS_b2sR (.slice ad n cp) (n) (xs) 0 hP ?_ ?_ hxs un207 un9 un5) ?_; exact zq0; exact zq13; intro z hz) | (refine WO_LE 850 (LS_b2sR (.slice a' (n + 1) cp') (n + 1) (xs ++ [.int .u8 120]) 1 hP ?_ ?_ (fun u hu => (List.mem_append.1 hu).elim (hxs u) (fun h => ⟨_, List.mem_singleton.1 h⟩)) un207 un9 un5) ?_; exact zq0; exact zq13; intro z hz) | refine zs5 ?_
 all_goals try first
  | omega | (unfold I64; omega) | exact zr20
end
section
attribute [local irreducible] leT leH WO WX WC WD
def U64 (x : Int) : Prop := 0 <= x /\ x < 18446744073709551616
def intOf : SV -> Int
 | .sc (.va (.int _ n)) => n
 | _ => 0
def isI (k : IntKind) : SV -> Bool
 | .sc (.va (.int k' _)) => k == k'
 | _ => false
def fltOf : SV -> Nat
 | .sc (.va (.float _ n)) => n
 | _ => 0
def isF (k : FloatKind) : SV -> Bool
 | .sc (.va (.float k' _)) => k == k'
 | _ => false
theorem isI_of {k : IntKind} {s : SV} (h : isI k s = true) : s = .sc (.va (.int k (intOf s))) := by
 unfold isI at h
 split at h
 · rename_i k' n
   have : k = k' := by simpa using h
   subst this; rfl
 · cases h
theorem isF_of {k : FloatKind} {s : SV} (h : isF k s = true) : s = .sc (.va (.float k (fltOf s))) := by
 unfold isF at h
 split at h
 · rename_i k' n
   have : k = k' := by simpa using h
   subst this; rfl
 · cases h
section
variable {E : En} {S : St} {α : Type} {φ : α -> Prop} {c : Call} {dst : Option Tmp} {ty : TypeId} {pos : String} {after : Array Edge} {guard : Option (Nat × Bool)} {o : Oper} {P : Program}
theorem LS_any (res : α -> Value) (φ : α -> Prop) (h : ∀ a w r own, Sim E.X S E.A a w r own -> ∃ x, φ x /\ ∃ w', (w' = w \/ w' = w.drew) /\ (execOp a.eval o).run E.X.P w = .ok (.value (res x)) w') :
 LS E S o [] φ (fun x => S.put o.dst (.sc (.va (res x)))) (fun _ => E.A) := by
 intro a w r own hs K Q hK; obtain ⟨x, hx, w', hw, hr⟩ := h a w r own hs
 have hs' : Sim E.X S E.A a w' r own := by
  rcases hw with rfl | rfl
  exact hs; exact hs.drew
 have hh : w'.heap = w.heap := by rcases hw with rfl | rfl <;> rfl
 have hk := hK x hx _ _ _ _ (hs'.put o.dst (ok_va r (res x)) trivial) (.same (put_h ..).1 (put_h ..).2 (by rw [hh]; exact Nat.le_refl _) fun _ _ _ _ _ => by rw [hh])
 unfold Oper.wp
 rw [hr]; exact hk
def isCmp : BinOp -> Bool
 | .eql | .neq | .lss | .leq | .gtr | .geq => true
 | _ => false
theorem LS_fcmp {op : BinOp} {t yt : TypeId} {x y : Operand} (k : FloatKind) (hx0 : isF k (ev S x) = true) (hy0 : isF k (ev S y) = true) (hop : isCmp op = true) :
 LS E S ⟨dst, .binOp op t x y yt, ty, pos, after, guard⟩ [] (fun _ : Bool => True) (fun v => S.put dst (.sc (.va (.bool v)))) (fun _ => E.A) := by
 have hx := isF_of hx0; have hy := isF_of hy0
 generalize fltOf (ev S x) = a at hx
 generalize fltOf (ev S y) = b at hy
 refine LS_any (o := ⟨dst, .binOp op t x y yt, ty, pos, after, guard⟩) (fun v : Bool => Value.bool v) (fun _ => True) fun ac w r own hs => ?_
 have h1 := va_of (hx ▸ (ev_ok hs.toR x).1); have h2 := va_of (hy ▸ (ev_ok hs.toR y).1)
 cases op <;> simp only [isCmp, Bool.false_eq_true] at hop <;> exact ⟨_, trivial, w, .inl rfl, by simp [execOp, h1, h2, eqGuard, binOp, Op.floatCmp]; rfl⟩
def isAri : BinOp -> Bool
 | .add | .sub | .mul | .quo => true
 | _ => false
theorem choose_run (P : Program) (w : World) (q : Question) : ∃ n w', (w' = w \/ w' = w.drew) /\ (choose q).run P w = .ok n w' := by
 rw [run_choose_drew]
 split
 exact ⟨_, _, .inl rfl, rfl⟩; exact ⟨_, _, .inr rfl, rfl⟩
theorem fari_ok (op : BinOp) (hop : isAri op = true) (k : FloatKind) (a b : Nat) (P : Program) (w : World) : ∃ v w', (w' = w \/ w' = w.drew) /\ (Op.floatArith op k a b).run P w = .ok (.float k v) w' := by
 obtain ⟨n, w', hw, hn⟩ := choose_run P w (.nanBits k a b)
 have key : ∀ z : Option Nat, ∃ v w', (w' = w \/ w' = w.drew) /\ ((do match (<- (pure z : Sem (Option Nat))) with | some r => pure (Value.float k r) | none => pure (.float k (<- choose (.nanBits k a b)))) : Sem Value).run P w = .ok (.float k v) w' := by
  intro z
  cases z with
  | some v => exact ⟨v, w, .inl rfl, rfl⟩
  | none => exact ⟨n, w', hw, by simp only [Sem.run_bind, hn, Sem.run_pure, Result.andThen_ok]⟩
 cases op <;> simp only [isAri, Bool.false_eq_true] at hop
 exact key (k.format.add a b); exact key (k.format.sub a b); exact key (k.format.mul a b); exact key (k.format.div a b)
theorem LS_fari {op : BinOp} {t yt : TypeId} {x y : Operand} (k : FloatKind) (hx0 : isF k (ev S x) = true) (hy0 : isF k (ev S y) = true) (hop : isAri op = true) :
 LS E S ⟨dst, .binOp op t x y yt, ty, pos, after, guard⟩ [] (fun _ : Nat => True) (fun v => S.put dst (.sc (.va (.float k v)))) (fun _ => E.A) := by
 have hx := isF_of hx0; have hy := isF_of hy0
 generalize fltOf (ev S x) = a at hx
 generalize fltOf (ev S y) = b at hy
 refine LS_any (o := ⟨dst, .binOp op t x y yt, ty, pos, after, guard⟩) (fun v : Nat => Value.float k v) (fun _ => True) fun ac w r own hs => ?_
 have h1 := va_of (hx ▸ (ev_ok hs.toR x).1); have h2 := va_of (hy ▸ (ev_ok hs.toR y).1); obtain ⟨v, w2, hw2, hv⟩ := fari_ok op hop k a b E.X.P w
 refine ⟨v, trivial, w2, hw2, ?_⟩
 have hg : (eqGuard op t x y (.float k a) (.float k b)).run E.X.P w = .ok () w := by cases op <;> simp only [isAri, Bool.false_eq_true] at hop <;> rfl
 have hb : (binOp op t (.float k a) (.float k b)).run E.X.P w = .ok (.float k v) w2 := by
  cases op <;> simp only [isAri, Bool.false_eq_true] at hop <;> simpa only [binOp, ne_eq, not_true_eq_false, ↓reduceIte] using hv
 simp only [execOp, h1, h2, Sem.run_bind, hg, hb, Result.andThen_ok, Sem.run_pure]
theorem LS_fneg {t : TypeId} {x : Operand} (k : FloatKind) (hx0 : isF k (ev S x) = true) :
 LS E S ⟨dst, .unOp .neg t x, ty, pos, after, guard⟩ [] (fun _ : Nat => True) (fun v => S.put dst (.sc (.va (.float k v)))) (fun _ => E.A) := by
 have hx := isF_of hx0
 generalize fltOf (ev S x) = a at hx
 refine LS_any (o := ⟨dst, .unOp .neg t x, ty, pos, after, guard⟩) (fun v : Nat => Value.float k v) (fun _ => True) fun ac w r own hs => ?_
 have h1 := va_of (hx ▸ (ev_ok hs.toR x).1); exact ⟨_, trivial, w, .inl rfl, by simp [execOp, h1, Op.unary]; rfl⟩
theorem LS_i2f {s d : TypeId} {x : Operand} (k : FloatKind) (k' : IntKind) (hP : E.X.P = P) (hs : (P.underlying s).isSome = true) (hd : P.underlying d = some (.float k)) (hx0 : isI k' (ev S x) = true) :
 LS E S ⟨dst, .convert s d x, ty, pos, after, guard⟩ [] (fun _ : Nat => True) (fun v => S.put dst (.sc (.va (.float k v)))) (fun _ => E.A) := by
 have hx := isI_of hx0
 generalize intOf (ev S x) = n at hx
 refine LS_any (o := ⟨dst, .convert s d x, ty, pos, after, guard⟩) (fun v : Nat => Value.float k v) (fun _ => True) fun ac w r own hsim => ?_
 subst hP; have h1 := va_of (hx ▸ (ev_ok hsim.toR x).1); obtain ⟨ds, hs⟩ := Option.isSome_iff_exists.1 hs; exact ⟨_, trivial, w, .inl rfl, by simp [execOp, h1, convert, run_underlying hs, run_underlying hd, Conv.intToFloat]; rfl⟩
theorem wrapI64_rng (x : Int) : I64 (IntKind.i64.wrap x) := by
 have e : IntKind.i64.wrap x = if x % 18446744073709551616 >= 9223372036854775808 then x % 18446744073709551616 - 18446744073709551616 else x % 18446744073709551616 := by
  simp [IntKind.wrap, IntKind.bits, IntKind.signed]
 rw [e]
 unfold I64
 split <;> omega
theorem wrapU64_rng (x : Int) : U64 (IntKind.u64.wrap x) := by
 have e : IntKind.u64.wrap x = x % 18446744073709551616 := by
  simp [IntKind.wrap, IntKind.bits, IntKind.signed]
 rw [e]
 unfold U64
 omega
theorem wrapU64 {x : Int} (h : U64 x) : IntKind.u64.wrap x = x := by
 have e : IntKind.u64.wrap x = x % 18446744073709551616 := by
  simp [IntKind.wrap, IntKind.bits, IntKind.signed]
 rw [e]
 unfold U64 at h
 omega
theorem LS_f2i {s d : TypeId} {x : Operand} (k : FloatKind) (hP : E.X.P = P) (hs : (P.underlying s).isSome = true) (hd : P.underlying d = some (.int .i64)) (hx0 : isF k (ev S x) = true) :
 LS E S ⟨dst, .convert s d x, ty, pos, after, guard⟩ [] (fun n : Int => I64 n) (fun v => S.put dst (.sc (.va (.int .i64 v)))) (fun _ => E.A) := by
 have hx := isF_of hx0
 generalize fltOf (ev S x) = b at hx
 refine LS_any (o := ⟨dst, .convert s d x, ty, pos, after, guard⟩) (fun v : Int => Value.int .i64 v) (fun n => I64 n) fun ac w r own hsim => ?_
 subst hP; have h1 := va_of (hx ▸ (ev_ok hsim.toR x).1); obtain ⟨ds, hs⟩ := Option.isSome_iff_exists.1 hs; obtain ⟨n, w', hw, hn⟩ := choose_run E.X.P w (.floatToInt k b .i64)
 have hany : ∃ v, I64 v /\ ∃ w', (w' = w \/ w' = w.drew) /\ (Conv.floatToInt k b .i64).run E.X.P w = .ok (.int .i64 v) w' := by
  unfold Conv.floatToInt
  have he : ((do pure (.int .i64 (IntKind.i64.wrap (<- choose (.floatToInt k b .i64)))) : Sem Value)).run E.X.P w = .ok (.int .i64 (IntKind.i64.wrap n)) w' := by
   simp only [Sem.run_bind, hn, Result.andThen_ok, Sem.run_pure]
  dsimp only
  split
  · rename_i m hm
    split
    · rename_i hr
      have hmin : IntKind.i64.min = -9223372036854775808 := by decide
      have hmax : IntKind.i64.max = 9223372036854775807 := by decide
      rw [hmin, hmax] at hr; exact ⟨m, hr, w, .inl rfl, rfl⟩
    · exact ⟨_, wrapI64_rng n, w', hw, he⟩
  · exact ⟨_, wrapI64_rng n, w', hw, he⟩
 obtain ⟨v, hv, w2, hw2, hrun⟩ := hany
 refine ⟨v, hv, w2, hw2, ?_⟩
 simp only [execOp, h1, convert, Sem.run_bind, run_underlying hs, run_underlying hd, Result.andThen_ok]
 simp [hrun]
theorem bits_ok (op : BinOp) (hop : op = .andNot \/ op = .xor) (k : IntKind) (x y : Int) (P : Program) (w : World) (t : TypeId) : ∃ v, (binOp op t (.int k x) (.int k y)).run P w = .ok (.int k (k.wrap v)) w := by
 rcases hop with rfl | rfl <;> exact ⟨_, by simp [binOp, Op.intBits]; rfl⟩
theorem LS_bits {op : BinOp} {t yt : TypeId} {x y : Operand} (hx0 : isI .u64 (ev S x) = true) (hy0 : isI .u64 (ev S y) = true) (hop : op = .andNot \/ op = .xor) :
 LS E S ⟨dst, .binOp op t x y yt, ty, pos, after, guard⟩ [] (fun v : Int => U64 v) (fun v => S.put dst (.sc (.va (.int .u64 v)))) (fun _ => E.A) := by
 have hx := isI_of hx0; have hy := isI_of hy0
 generalize intOf (ev S x) = n at hx
 generalize intOf (ev S y) = m at hy
 refine LS_any (o := ⟨dst, .binOp op t x y yt, ty, pos, after, guard⟩) (fun v : Int => Value.int .u64 v) (fun v => U64 v) fun ac w r own hs => ?_
 have h1 := va_of (hx ▸ (ev_ok hs.toR x).1); have h2 := va_of (hy ▸ (ev_ok hs.toR y).1); obtain ⟨v, hv⟩ := bits_ok op hop .u64 n m E.X.P w t
 refine ⟨_, wrapU64_rng v, w, .inl rfl, ?_⟩
 have hg : (eqGuard op t x y (.int .u64 n) (.int .u64 m)).run E.X.P w = .ok () w := by rcases hop with rfl | rfl <;> rfl
 simp only [execOp, h1, h2, Sem.run_bind, hg, hv, Result.andThen_ok, Sem.run_pure]
theorem LS_frombits {f : FuncId} {x : Operand} (hP : E.X.P = P) (hc : c = { callee := .value (.func f), args := #[x], argTypes := c.argTypes }) (hx0 : isI .u64 (ev S x) = true) (hr : ∀ (n : Int) (w : World), (callFunc f [Value.int .u64 n].toArray).run P w = .ok (.value (.float .f64 n.toNat)) w) :
 LS E S ⟨dst, .call c, ty, pos, after, guard⟩ [] (fun _ : Nat => True) (fun b => S.put dst (.sc (.va (.float .f64 b)))) (fun _ => E.A) := by
 have hx := isI_of hx0
 generalize intOf (ev S x) = n at hx
 refine LS_any (o := ⟨dst, .call c, ty, pos, after, guard⟩) (fun b : Nat => Value.float .f64 b) (fun _ => True) fun a w r own hs => ⟨n.toNat, trivial, w, .inl rfl, ?_⟩
 subst hP; rw [hc]; have h1 := va_of (hx ▸ (ev_ok hs.toR x).1); have := hr n w; have hf : a.eval (.func f) = .func (.func f) #[] #[] := rfl
 simp [execOp, resolve, hf, h1, Deferred.ofValue, invoke, this]
theorem LS_tobits {f : FuncId} {x : Operand} (hP : E.X.P = P) (hc : c = { callee := .value (.func f), args := #[x], argTypes := c.argTypes }) (hx0 : isF .f64 (ev S x) = true) (hr : ∀ (n : Nat) (w : World), (callFunc f [Value.float .f64 n].toArray).run P w = .ok (.value (.int .u64 n)) w) :
 LS E S ⟨dst, .call c, ty, pos, after, guard⟩ [] (fun _ : Unit => True) (fun _ => S.put dst (.sc (.va (.int .u64 (fltOf (ev S x)))))) (fun _ => E.A) := by
 have hx := isF_of hx0
 generalize fltOf (ev S x) = n at hx
 refine LS_any (o := ⟨dst, .call c, ty, pos, after, guard⟩) (fun _ : Unit => Value.int .u64 n) (fun _ => True) fun a w r own hs => ⟨(), trivial, w, .inl rfl, ?_⟩
 subst hP; rw [hc]; have h1 := va_of (hx ▸ (ev_ok hs.toR x).1); have := hr n w; have hf : a.eval (.func f) = .func (.func f) #[] #[] := rfl
 simp [execOp, resolve, hf, h1, Deferred.ofValue, invoke, this]
end
section
attribute [local irreducible] LS WS
theorem u64u (k : IntKind) : (k == k) = true := by cases k <;> rfl
theorem f64f (k : FloatKind) : (k == k) = true := by cases k <;> rfl
attribute [go_sem] f64f intOf isI fltOf isF isCmp isAri u64u
end
end
section
attribute [local irreducible] leT leH WO WX WC WD LS WS
theorem shr1 (x : Int) : x.fdiv (2 ^ min (Int.toNat 1) 64) = x / 2 := Int.fdiv_eq_ediv_of_nonneg x zi
theorem shr2 (x : Int) : x.fdiv (2 ^ min (Int.toNat 2) 64) = x / 4 := Int.fdiv_eq_ediv_of_nonneg x zi
theorem shr4 (x : Int) : x.fdiv (2 ^ min (Int.toNat 4) 64) = x / 16 := Int.fdiv_eq_ediv_of_nonneg x zi
theorem shr8 (x : Int) : x.fdiv (2 ^ min (Int.toNat 8) 64) = x / 256 := Int.fdiv_eq_ediv_of_nonneg x zi
theorem shr15 (x : Int) : x.fdiv (2 ^ min (Int.toNat 15) 64) = x / 32768 := Int.fdiv_eq_ediv_of_nonneg x zi
theorem shr16 (x : Int) : x.fdiv (2 ^ min (Int.toNat 16) 64) = x / 65536 := Int.fdiv_eq_ediv_of_nonneg x zi
theorem shr18 (x : Int) : x.fdiv (2 ^ min (Int.toNat 18) 64) = x / 262144 := Int.fdiv_eq_ediv_of_nonneg x zi
theorem shr21 (x : Int) : x.fdiv (2 ^ min (Int.toNat 21) 64) = x / 2097152 := Int.fdiv_eq_ediv_of_nonneg x zi
theorem shr32 (x : Int) : x.fdiv (2 ^ min (Int.toNat 32) 64) = x / 4294967296 := Int.fdiv_eq_ediv_of_nonneg x zi
theorem shr52 (x : Int) : x.fdiv (2 ^ min (Int.toNat 52) 64) = x / 4503599627370496 := Int.fdiv_eq_ediv_of_nonneg x zi
theorem shr54 (x : Int) : x.fdiv (2 ^ min (Int.toNat 54) 64) = x / 18014398509481984 := Int.fdiv_eq_ediv_of_nonneg x zi
theorem shr63 (x : Int) : x.fdiv (2 ^ min (Int.toNat 63) 64) = x / 9223372036854775808 := Int.fdiv_eq_ediv_of_nonneg x zi
theorem shl1 (x : Int) : x * 2 ^ min (Int.toNat 1) 64 = x * 2 := rfl
theorem shl2 (x : Int) : x * 2 ^ min (Int.toNat 2) 64 = x * 4 := rfl
theorem shl32 (x : Int) : x * 2 ^ min (Int.toNat 32) 64 = x * 4294967296 := rfl
theorem shl52 (x : Int) : x * 2 ^ min (Int.toNat 52) 64 = x * 4503599627370496 := rfl
theorem shl54 (x : Int) : x * 2 ^ min (Int.toNat 54) 64 = x * 18014398509481984 := rfl
attribute [go_sem] shr1 shr2 shr4 shr8 shr15 shr16 shr18 shr21 shr32 shr52 shr54 shr63 shl1 shl2 shl32 shl52 shl54
abbrev RI (lo hi : Int) (w : World) := Ret0 (fun x : Int => .sc (.va (.int .i64 x))) (fun x => lo <= x /\ x <= hi) w
abbrev RU (w : World) := Ret0 (fun x : Int => .sc (.va (.int .u64 x))) U64 w
theorem wrapU64_eq (x : Int) : IntKind.u64.wrap x = x % 18446744073709551616 := by
 simp [IntKind.wrap, IntKind.bits, IntKind.signed]
theorem wrapU8_eq (x : Int) : IntKind.u8.wrap x = x % 256 := by
 simp [IntKind.wrap, IntKind.bits, IntKind.signed]
theorem wrapU32_eq (x : Int) : IntKind.u32.wrap x = x % 4294967296 := by
 simp [IntKind.wrap, IntKind.bits, IntKind.signed]
theorem and_rng (k : IntKind) (x y : Int) {m : Nat} (hm : (BitVec.ofInt k.bits y).toNat <= m) (hk : k.wrap (BitVec.ofInt k.bits x &&& BitVec.ofInt k.bits y).toNat = (BitVec.ofInt k.bits x &&& BitVec.ofInt k.bits y).toNat) :
 0 <= k.wrap (BitVec.ofInt k.bits x &&& BitVec.ofInt k.bits y).toNat /\ k.wrap (BitVec.ofInt k.bits x &&& BitVec.ofInt k.bits y).toNat <= m := by
 rw [hk]
 have h1 : (BitVec.ofInt k.bits x &&& BitVec.ofInt k.bits y).toNat <= (BitVec.ofInt k.bits y).toNat := by
  rw [BitVec.toNat_and]; exact Nat.and_le_right
 omega
theorem and64i (x : Int) (y : Int) (m : Nat) (hm : (BitVec.ofInt 64 y).toNat <= m) (hm2 : m < 9223372036854775808) : 0 <= IntKind.i64.wrap (BitVec.ofInt 64 x &&& BitVec.ofInt 64 y).toNat /\ IntKind.i64.wrap (BitVec.ofInt 64 x &&& BitVec.ofInt 64 y).toNat <= m := by
 refine and_rng .i64 x y hm (wrapI64 ?_)
 have h1 : (BitVec.ofInt IntKind.i64.bits x &&& BitVec.ofInt IntKind.i64.bits y).toNat <= (BitVec.ofInt IntKind.i64.bits y).toNat := by
  rw [BitVec.toNat_and]; exact Nat.and_le_right
 have h2 : (BitVec.ofInt IntKind.i64.bits y).toNat <= m := hm
 unfold I64
 omega
theorem and64u (x : Int) (y : Int) (m : Nat) (hm : (BitVec.ofInt 64 y).toNat <= m) (hm2 : m < 18446744073709551616) : 0 <= IntKind.u64.wrap (BitVec.ofInt 64 x &&& BitVec.ofInt 64 y).toNat /\ IntKind.u64.wrap (BitVec.ofInt 64 x &&& BitVec.ofInt 64 y).toNat <= m := by
 refine and_rng .u64 x y hm (wrapU64 ?_)
 have h1 : (BitVec.ofInt IntKind.u64.bits x &&& BitVec.ofInt IntKind.u64.bits y).toNat <= (BitVec.ofInt IntKind.u64.bits y).toNat := by
  rw [BitVec.toNat_and]; exact Nat.and_le_right
 have h2 : (BitVec.ofInt IntKind.u64.bits y).toNat <= m := hm
 unfold U64
 omega
def lenOk (n x : Int) : Prop := ∃ m : Nat, n = m /\ x < 2 ^ m /\ (0 < m -> 2 ^ (m - 1) <= x)
theorem len_up {n y x : Int} (k : Nat) (h : lenOk n y) (hy : y = x / 2 ^ k) (h1 : 1 <= y) : lenOk (k + n) x := by
 obtain ⟨m, rfl, h2, h3⟩ := h; have hp : (0 : Int) < 2 ^ k := Int.pow_pos zi; subst hy
 have hm : 0 < m := by
  rcases Nat.eq_zero_or_pos m with rfl | h
  · simp at h2; omega
  · exact h
 refine ⟨k + m, zo, ?_, fun _ => ?_⟩
 · have := (Int.ediv_lt_iff_lt_mul hp).1 h2
   rw [Int.pow_add, Int.mul_comm]; exact this
 · have := (Int.le_ediv_iff_mul_le hp).1 (h3 hm)
   have e : k + m - 1 = (m - 1) + k := by omega
   rw [e, Int.pow_add]; exact this
def log10 (x : Int) : Int := (x * 78913) / 262144
theorem c128 (x : Int) (h1 : -100000 <= x) (h2 : x <= 100000) (w : World) : Calls Tryz.prog 128 [.int .i64 x].toArray w (RetS (.sc (.va (.int .i64 (log10 x)))) w) := by
 refine calls_start 1000 Tryz.func128 rfl fun E hX hP hA hQ => ?_
 repeat' first
  | refine zA ?_ | apply zI <;> intro hdec | with_reducible constructor
  | simp (maxSteps := 20000000) only [Tryz.f128, go_sem, zL, ↓reduceIte, reduceCtorEq, Nat.reduceAdd, Nat.reduceMul, Nat.reduceSub, Nat.reduceLeDiff, Nat.reduceEqDiff, Nat.reduceLT, Nat.reduceBEq, Int.reduceEq, hP, hX, log10]
 all_goals first
  | omega | (unfold I64; omega) | exact zr0
def log2 (x : Int) : Int := (x * 108853) / 32768
theorem c163 (x : Int) (h1 : -100000 <= x) (h2 : x <= 100000) (w : World) : Calls Tryz.prog 163 [.int .i64 x].toArray w (RetS (.sc (.va (.int .i64 (log2 x)))) w) := by
 refine calls_start 1000 Tryz.func163 rfl fun E hX hP hA hQ => ?_
 repeat' first
  | refine zA ?_ | apply zI <;> intro hdec | with_reducible constructor
  | simp (maxSteps := 20000000) only [Tryz.f163, go_sem, zL, ↓reduceIte, reduceCtorEq, Nat.reduceAdd, Nat.reduceMul, Nat.reduceSub, Nat.reduceLeDiff, Nat.reduceEqDiff, Nat.reduceLT, Nat.reduceBEq, Int.reduceEq, hP, hX, log2]
 all_goals first
  | omega | (unfold I64; omega) | exact zr0
def skew (x : Int) : Int := (x * 631305 - 261663) / 2097152
theorem c161 (x : Int) (h1 : -100000 <= x) (h2 : x <= 100000) (w : World) : Calls Tryz.prog 161 [.int .i64 x].toArray w (RetS (.sc (.va (.int .i64 (skew x)))) w) := by
 refine calls_start 1000 Tryz.func161 rfl fun E hX hP hA hQ => ?_
 repeat' first
  | refine zA ?_ | apply zI <;> intro hdec | with_reducible constructor
  | simp (maxSteps := 20000000) only [Tryz.f161, go_sem, zL, ↓reduceIte, reduceCtorEq, Nat.reduceAdd, Nat.reduceMul, Nat.reduceSub, Nat.reduceLeDiff, Nat.reduceEqDiff, Nat.reduceLT, Nat.reduceBEq, Int.reduceEq, hP, hX, skew]
 all_goals first
  | omega | (unfold I64; omega) | exact zr0
theorem c134 (b : Bool) (w : World) : Calls Tryz.prog 134 [.bool b].toArray w (RetS (.sc (.va (.int .i64 (if b then 1 else 0)))) w) := by
 refine calls_start 1000 Tryz.func134 rfl fun E hX hP hA hQ => ?_
 repeat' first
  | refine zA ?_ | apply zI <;> intro hdec | with_reducible constructor | (cases b) | refine zs0 ?_
 all_goals (intro a w' r own hs'; exact retS_va _ hs'.frm)
theorem c153 (b : Bool) (w : World) : Calls Tryz.prog 153 [.bool b].toArray w (RetS (.sc (.va (.int .u64 (if b then 1 else 0)))) w) := by
 refine calls_start 1000 Tryz.func153 rfl fun E hX hP hA hQ => ?_
 repeat' first
  | refine zA ?_ | apply zI <;> intro hdec | with_reducible constructor | (cases b) | refine zs0 ?_
 all_goals (intro a w' r own hs'; exact retS_va _ hs'.frm)
theorem c134u (b : Bool) (w : World) : Calls Tryz.prog 134 [.bool b].toArray w (Ret0 (fun x : Int => .sc (.va (.int .i64 x))) (fun x => 0 <= x /\ x <= 1) w) :=
 (c134 b w).mono fun e w' h => by
   obtain ⟨⟨u, h1, h2⟩, h3⟩ := h; exact ⟨_, (by cases b <;> decide), ⟨u, h1, h2⟩, h3⟩
theorem c153u (b : Bool) (w : World) : Calls Tryz.prog 153 [.bool b].toArray w (Ret0 (fun x : Int => .sc (.va (.int .u64 x))) (fun x => 0 <= x /\ x <= 1) w) :=
 (c153 b w).mono fun e w' h => by
   obtain ⟨⟨u, h1, h2⟩, h3⟩ := h; exact ⟨_, (by cases b <;> decide), ⟨u, h1, h2⟩, h3⟩
theorem c166 (x : Int) (hx : U64 x) (w : World) : Calls Tryz.prog 166 [.int .u64 x].toArray w (RU w) := by
 refine calls_start 1000 Tryz.func166 rfl fun E hX hP hA hQ => ?_
 repeat' first
  | refine zA ?_ | apply zI <;> intro hdec | with_reducible constructor | refine zs0 ?_
 all_goals try first
  | omega | (unfold I64; omega) | exact zr70
theorem c167 (x : Int) (hx : U64 x) (w : World) : Calls Tryz.prog 167 [.int .u64 x].toArray w (RU w) := by
 refine calls_start 1000 Tryz.func167 rfl fun E hX hP hA hQ => ?_
 repeat' first
  | refine zA ?_ | apply zI <;> intro hdec | with_reducible constructor | refine zs0 ?_
 all_goals try first
  | omega | (unfold I64; omega) | exact zr70
theorem c168 (x : Int) (hx : U64 x) (w : World) : Calls Tryz.prog 168 [.int .u64 x].toArray w (RU w) := by
 refine calls_start 1000 Tryz.func168 rfl fun E hX hP hA hQ => ?_
 repeat' first
  | refine zA ?_ | apply zI <;> intro hdec | with_reducible constructor | refine zs0 ?_
 all_goals try first
  | omega | (unfold I64; omega) | exact zr70
theorem c169 (x : Int) (hx : U64 x) (w : World) : Calls Tryz.prog 169 [.int .u64 x].toArray w (RU w) := by
 refine calls_start 1000 Tryz.func169 rfl fun E hX hP hA hQ => ?_
 repeat' first
  | refine zA ?_ | apply zI <;> intro hdec | with_reducible constructor | refine zs0 ?_
 all_goals try first
  | omega | (unfold I64; omega) | (intro a w' r own hs'; exact ⟨_, wrapU64_rng _, ⟨_, rfl, fun r => .inr rfl⟩, hs'.frm⟩)
theorem c165 (x n : Int) (hx : U64 x) (w : World) : Calls Tryz.prog 165 [.int .u64 x, .int .i64 n].toArray w (RU w) := by
 refine calls_start 1000 Tryz.func165 rfl fun E hX hP hA hQ => ?_
 repeat' first
  | refine zA ?_ | apply zI <;> intro hdec | with_reducible constructor | refine zs0 ?_
 all_goals try first
  | omega | (unfold I64; omega) | (intro a w' r own hs'; exact ⟨_, wrapU64_rng _, ⟨_, rfl, fun r => .inr rfl⟩, hs'.frm⟩)
def lenTab : List UInt8 := (([0, 1, 2, 2, 3, 3, 3, 3, 4, 4, 4, 4, 4, 4, 4, 4, 5, 5, 5, 5, 5, 5, 5, 5, 5, 5, 5, 5, 5, 5, 5, 5, 6, 6, 6, 6, 6, 6, 6, 6, 6, 6, 6, 6, 6, 6, 6, 6, 6, 6, 6, 6, 6, 6, 6, 6, 6, 6, 6, 6, 6, 6, 6, 6].append [7, 7, 7, 7, 7, 7, 7, 7, 7, 7, 7, 7, 7, 7, 7, 7, 7, 7, 7, 7, 7, 7, 7, 7, 7, 7, 7, 7, 7, 7, 7, 7, 7, 7, 7, 7, 7, 7, 7, 7, 7, 7, 7, 7, 7, 7, 7, 7, 7, 7, 7, 7, 7, 7, 7, 7, 7, 7, 7, 7, 7, 7, 7, 7]).append ([8, 8, 8, 8, 8, 8, 8, 8, 8, 8, 8, 8, 8, 8, 8, 8, 8, 8, 8, 8, 8, 8, 8, 8, 8, 8, 8, 8, 8, 8, 8, 8, 8, 8, 8, 8, 8, 8, 8, 8, 8, 8, 8, 8, 8, 8, 8, 8, 8, 8, 8, 8, 8, 8, 8, 8, 8, 8, 8, 8, 8, 8, 8, 8].append [8, 8, 8, 8, 8, 8, 8, 8, 8, 8, 8, 8, 8, 8, 8, 8, 8, 8, 8, 8, 8, 8, 8, 8, 8, 8, 8, 8, 8, 8, 8, 8, 8, 8, 8, 8, 8, 8, 8, 8, 8, 8, 8, 8, 8, 8, 8, 8, 8, 8, 8, 8, 8, 8, 8, 8, 8, 8, 8, 8, 8, 8, 8, 8]))
theorem lenTab_eq : (([0, 1, 2, 2, 3, 3, 3, 3, 4, 4, 4, 4, 4, 4, 4, 4, 5, 5, 5, 5, 5, 5, 5, 5, 5, 5, 5, 5, 5, 5, 5, 5, 6, 6, 6, 6, 6, 6, 6, 6, 6, 6, 6, 6, 6, 6, 6, 6, 6, 6, 6, 6, 6, 6, 6, 6, 6, 6, 6, 6, 6, 6, 6, 6].append [7, 7, 7, 7, 7, 7, 7, 7, 7, 7, 7, 7, 7, 7, 7, 7, 7, 7, 7, 7, 7, 7, 7, 7, 7, 7, 7, 7, 7, 7, 7, 7, 7, 7, 7, 7, 7, 7, 7, 7, 7, 7, 7, 7, 7, 7, 7, 7, 7, 7, 7, 7, 7, 7, 7, 7, 7, 7, 7, 7, 7, 7, 7, 7]).append ([8, 8, 8, 8, 8, 8, 8, 8, 8, 8, 8, 8, 8, 8, 8, 8, 8, 8, 8, 8, 8, 8, 8, 8, 8, 8, 8, 8, 8, 8, 8, 8, 8, 8, 8, 8, 8, 8, 8, 8, 8, 8, 8, 8, 8, 8, 8, 8, 8, 8, 8, 8, 8, 8, 8, 8, 8, 8, 8, 8, 8, 8, 8, 8].append [8, 8, 8, 8, 8, 8, 8, 8, 8, 8, 8, 8, 8, 8, 8, 8, 8, 8, 8, 8, 8, 8, 8, 8, 8, 8, 8, 8, 8, 8, 8, 8, 8, 8, 8, 8, 8, 8, 8, 8, 8, 8, 8, 8, 8, 8, 8, 8, 8, 8, 8, 8, 8, 8, 8, 8, 8, 8, 8, 8, 8, 8, 8, 8])) = lenTab := rfl
attribute [go_sem] lenTab_eq
theorem lenTab_len : lenTab.length = 256 := by decide
theorem lenTab_ok : ∀ i : _root_.Fin 256, (∃ m : _root_.Fin 9, (lenTab.getD i.1 0).toNat = m.1 /\ (i.1 : Int) < 2 ^ m.1 /\ (0 < m.1 -> (2 : Int) ^ (m.1 - 1) <= i.1)) := by decide +kernel
theorem lenTab_sz : lenTab.toArray.size = 256 := lenTab_len
theorem lenTab_bt (x : Int) (h0 : 0 <= x) (h1 : x < 256) : lenOk (bt ⟨lenTab.toArray⟩ x) x /\ 0 <= bt ⟨lenTab.toArray⟩ x /\ bt ⟨lenTab.toArray⟩ x <= 8 := by
 obtain ⟨n, rfl⟩ := Int.eq_ofNat_of_zero_le h0; obtain ⟨m, h2, h3, h4⟩ := lenTab_ok ⟨n, zo⟩
 have hb : bt ⟨lenTab.toArray⟩ n = (m.1 : Int) := by
  have hlt : n < lenTab.length := by rw [lenTab_len]; omega
  have hs : (n : Int).toNat < (ByteArray.mk lenTab.toArray).size := by show n < lenTab.toArray.size; simpa using hlt
  unfold bt
  rw [dif_pos hs]; simp only [List.getD_eq_getElem?_getD, List.getElem?_eq_getElem hlt, Option.getD_some] at h2; rw [<- h2]; rfl
 rw [hb]; exact ⟨⟨m.1, rfl, h3, h4⟩, zo, zo⟩
theorem tab8 (i : Int) : 0 <= bt ⟨lenTab.toArray⟩ i /\ bt ⟨lenTab.toArray⟩ i <= 8 := by
 by_cases h : 0 <= i /\ i < 256
 · exact (lenTab_bt i h.1 h.2).2
 · by_cases h0 : 0 <= i
   · unfold bt
     rw [dif_neg (by
      have : (ByteArray.mk lenTab.toArray).size = 256 := lenTab_len; rw [this]; omega)]
     decide
   · have : bt ⟨lenTab.toArray⟩ i = bt ⟨lenTab.toArray⟩ 0 := by
      unfold bt
      have : i.toNat = (0 : Int).toNat := by omega
      simp only [this]
     rw [this]; exact (lenTab_bt 0 zi zi).2
theorem lenfin {x y : Int} (k : Nat) (hy : y = x / 2 ^ k) (h1 : 1 <= y) (h2 : y < 256) : lenOk (k + bt ⟨lenTab.toArray⟩ (y % 256)) x := by
 have e : y % 256 = y := by omega
 rw [e]; exact len_up k (lenTab_bt y zo h2).1 hy h1
theorem lenfin0 {x : Int} (h1 : 0 <= x) (h2 : x < 256) : lenOk (bt ⟨lenTab.toArray⟩ (x % 256)) x := by
 have e : x % 256 = x := by omega
 rw [e]; exact (lenTab_bt x h1 h2).1
theorem c125 (x : Int) (hx : U64 x) (w : World) : Calls Tryz.prog 125 [.int .u64 x].toArray w (Ret0 (fun x : Int => .sc (.va (.int .i64 x))) (fun n => 0 <= n /\ n <= 64 /\ lenOk n x) w) := by
 refine calls_start 1000 Tryz.func125 rfl fun E hX hP hA hQ => ?_
 repeat' first
  | refine zA ?_ | apply zI <;> intro hdec | with_reducible constructor
  | simp only [lenTab_eq]
  | refine zs0 ?_
 all_goals unfold U64 at hx
 all_goals try simp only [Int.zero_add, Int.reduceAdd, lenTab_sz, wrapU8_eq]
 all_goals have t0 := tab8 ((x) % 256)
 all_goals have t1 := tab8 ((x / 256) % 256)
 all_goals have t2 := tab8 ((x / 65536) % 256)
 all_goals have t3 := tab8 ((x / 65536 / 256) % 256)
 all_goals have t4 := tab8 ((x / 4294967296) % 256)
 all_goals have t5 := tab8 ((x / 4294967296 / 256) % 256)
 all_goals have t6 := tab8 ((x / 4294967296 / 65536) % 256)
 all_goals have t7 := tab8 ((x / 4294967296 / 65536 / 256) % 256)
 all_goals try first
  | omega | (unfold I64; omega)
  | (intro a w' r own hs'
     refine ⟨_, ⟨?_, ?_, ?_⟩, ⟨_, rfl, fun r => .inr rfl⟩, hs'.frm⟩
     omega; omega
     · first
       | exact lenfin0 zo zo
       | exact lenfin (x := x) (y := x / 256) 8 (by show _ = x / 256; omega) zo zo
       | exact lenfin (x := x) (y := x / 65536) 16 (by show _ = x / 65536; omega) zo zo
       | exact lenfin (x := x) (y := x / 65536 / 256) 24 (by show _ = x / 16777216; omega) zo zo
       | exact lenfin (x := x) (y := x / 4294967296) 32 (by show _ = x / 4294967296; omega) zo zo
       | exact lenfin (x := x) (y := x / 4294967296 / 256) 40 (by show _ = x / 1099511627776; omega) zo zo
       | exact lenfin (x := x) (y := x / 4294967296 / 65536) 48 (by show _ = x / 281474976710656; omega) zo zo
       | exact lenfin (x := x) (y := x / 4294967296 / 65536 / 256) 56 (by show _ = x / 72057594037927936; omega) zo zo
       | skip)
theorem ext154 (n : Int) (w : World) : (callFunc 154 [.int .u64 n].toArray).run Tryz.prog w = .ok (.value (.float .f64 n.toNat)) w := by
 have h1 : Extern.findNext Tryz.f154 = none := zk
 have h2 : Extern.find Tryz.f154 = some Extern.MathFloatBits.float64frombits := zk
 have h3 : (Tryz.f154.name == "runtime.NumGoroutine") = false := zk
 have h4 : Tryz.f154.body = none := rfl; simp only [callFunc, Sem.run_bind, Result.andThen_ok, Tryz.func154, h3, h4, Option.isNone_none, ↓reduceIte, h1, h2, Bool.false_eq_true]; rfl
theorem ext121 (n : Nat) (w : World) : (callFunc 121 [.float .f64 n].toArray).run Tryz.prog w = .ok (.value (.int .u64 n)) w := by
 have h1 : Extern.findNext Tryz.f121 = none := zk
 have h2 : Extern.find Tryz.f121 = some Extern.MathFloatBits.float64bits := zk
 have h3 : (Tryz.f121.name == "runtime.NumGoroutine") = false := zk
 have h4 : Tryz.f121.body = none := rfl; simp only [callFunc, Sem.run_bind, Result.andThen_ok, Tryz.func121, h3, h4, Option.isNone_none, ↓reduceIte, h1, h2, Bool.false_eq_true]; rfl
theorem ext139 (n : Int) (w : World) : (callFunc 139 [.int .u64 n].toArray).run Tryz.prog w = .ok (.value (.float .f64 n.toNat)) w := by
 have h1 : Extern.findNext Tryz.f139 = none := zk
 have h2 : Extern.find Tryz.f139 = some Extern.MathFloatBits.float64frombits := zk
 have h3 : (Tryz.f139.name == "runtime.NumGoroutine") = false := zk
 have h4 : Tryz.f139.body = none := rfl; simp only [callFunc, Sem.run_bind, Result.andThen_ok, Tryz.func139, h3, h4, Option.isNone_none, ↓reduceIte, h1, h2, Bool.false_eq_true]; rfl
theorem tu2v {r : Nat -> Nat} (u v : Value) : (SV.tu [.sc (.va u), .sc (.va v)]).ok r (.tuple #[u, v]) :=
 ⟨[u, v], rfl, rfl, fun i t ht => by
  match i with
  | 0 => simp only [List.getElem?_cons_zero, Option.some.injEq] at ht; subst ht; exact .inr rfl
  | 1 => simp only [List.getElem?_cons_succ, List.getElem?_cons_zero, Option.some.injEq] at ht; subst ht; exact .inr rfl
  | i + 2 => simp at ht⟩
theorem tu2lt (u v : Value) : (SV.tu [.sc (.va u), .sc (.va v)]).lt 0 := fun t ht => by
 simp only [List.mem_cons, List.not_mem_nil, or_false] at ht
 rcases ht with rfl | rfl <;> exact True.intro
theorem c193 (x y : Int) (w : World) : Calls Tryz.prog 193 [.int .u64 x, .int .u64 y].toArray w (Ret0 (fun x : Int × Int => .tu [.sc (.va (.int .u64 x.1)), .sc (.va (.int .u64 x.2))]) (fun x => U64 x.1 /\ U64 x.2) w) := by
 refine calls_start 1000 Tryz.func193 rfl fun E hX hP hA hQ => ?_
 repeat' first
  | refine zA ?_ | apply zI <;> intro hdec | with_reducible constructor | refine zs0 ?_
 all_goals try first
  | omega | (unfold I64; omega) | (intro a w' r own hs'; exact ⟨⟨_, _⟩, ⟨wrapU64_rng _, wrapU64_rng _⟩, ⟨_, rfl, fun r => tu2v _ _⟩, hs'.frm⟩)
def errV (e : Value) : Prop := e = .nilIface \/ e = .iface 215 (.int .i64 1) \/ e = .iface 215 (.int .i64 2)
abbrev RF (w : World) := Ret0 (fun x : Nat × Value => .tu [.sc (.va (.float .f64 x.1)), .sc (.va x.2)]) (fun x => errV x.2) w
theorem c192 (m e : Int) (hm : U64 m) (h1 : -100000 <= e) (h2 : e <= 100000) (w : World) : Calls Tryz.prog 192 [.int .u64 m, .int .i64 e].toArray w (RF w) := by
 refine calls_start 1000 Tryz.func192 rfl fun E hX hP hA hQ => ?_
 repeat' first
  | refine zA ?_ | apply zI <;> intro hdec | with_reducible constructor | (refine zr40 ?_; intro fb _) | (refine WO_LE 850 (LS_bits ?_ ?_ (.inl rfl)) ?_; exact zq0; exact zq0; intro vb hvb) | refine zs0 ?_
 all_goals try first
  | omega | (unfold I64; omega) | (intro a w' r own hs'; exact ⟨⟨_, _⟩, by first | exact .inl rfl | exact .inr (.inl rfl), ⟨_, rfl, fun r => tu2v _ _⟩, hs'.frm⟩)
end
section
attribute [local irreducible] leT leH WO WX WC WD
section
theorem run_appendS_blk {P : Program} (w : World) (t u ty e : TypeId) (i : TypeInfo) (ht : P.underlying t = some (.slice e)) (hu : P.underlying u = some .string) (hi : P.info? e = some i) (hz : i.zero = some (.int .u8 0))
 (hsize : i.size = 1) (hby : i.bytes = 1) (v : Value) (n : Nat) (xs : List Value) (hown : w.ownsRow 0 e 1 v n xs) (s : ByteArray) (hs : 0 < s.size) (hbytes : n + s.size <= 2147483648) :
 ∃ v' w', (Builtin.append_ #[t, u] ty #[v, .string s]).run P w = .ok v' w' /\ w'.ownsRow 0 e 1 v' (n + s.size) (xs ++ Lib.strCells s) /\ w.grownBy w' v.ownBlock /\
  ∀ k, v'.ownBlock = some k -> v.ownBlock = some k \/ (w.heap.size <= k /\ k < w'.heap.size) := by
 have h63 : n + s.size <= maxLen := by simp only [maxLen]; omega
 have hxl : xs.length = n := by simpa using hown.1
 rcases hown.2 with ⟨rfl, rfl⟩ | ⟨g, cap, cur, rfl, hbg, hg, hnc, hcm, hcs, htake⟩
 · have hx : xs = [] := List.eq_nil_of_length_eq_zero (by simpa using hown.1)
   subst hx; obtain ⟨v', w', hr, h2, h3, h4⟩ := Lib.run_append_own_string (P := P) w w.heap.size t u ty e i ht hu hi hz hsize hby (.slice none 0 0) 0 [] (World.ownsRow_nil w _ e 1) s h63 zo (Nat.le_refl _); exact ⟨v', w', hr, ownsRow_base h2, h3, fun k hk => .inr (ownsRow_new h2 k hk)⟩
 · by_cases hroom : n + s.size <= cap
   · obtain ⟨w', hr, h2, h3⟩ := Lib.run_append_fits_string (P := P) w 0 t u ty e i ht hu hi hsize (some ⟨g, 0, none⟩) n cap xs hown s zo hroom
     exact ⟨_, w', hr, h2, h3, fun k hk => .inl hk⟩
   · have holds : ∀ j u, xs[j]? = some u -> w.cell? ((⟨g, 0, none⟩ : Addr).add j) = some u := hown.cells (g := g) rfl
     have hcap := nextslicecap_le (need := n + s.size) (old := cap) zo; have hr := Lib.run_append_grow_string (P := P) w t u ty e i (.int .u8 0) ht hu hi hz ⟨g, 0, none⟩ n cap xs (by rw [hxl, hsize, Nat.mul_one]) holds s zo zo (by rw [hby]; omega); have hge := grownCap_ge w (n + s.size) cap e
     have hlen : (xs ++ Lib.strCells s).length = (n + s.size) * 1 := by rw [List.length_append, hxl, Lib.strCells_length, Nat.mul_one]
     refine ⟨_, _, hr, ⟨hlen, .inr ⟨w.heap.size, _, _, rfl, Nat.zero_le _, heap_alloc_new w.drew _, hge, grownCap_le_maxLen w (n + s.size) cap e h63, ?_, ?_⟩⟩, ⟨rfl, rfl, rfl, zp, fun k hk _ => heap_alloc_old w.drew _ hk⟩, fun k hk => .inr ?_⟩
     · have hz1 : (Value.int IntKind.u8 0).cells.size = 1 := rfl
       simp only [Array.size_append, List.size_toArray, size_zeroCells, hz1, hxl, Lib.strCells_length]; omega
     · simp only [Array.toList_append, List.append_assoc]
       rw [<- List.append_assoc, <- hlen]; exact List.take_left
     · simp only [Value.ownBlock, Option.some.injEq] at hk
       subst hk; exact ⟨Nat.le_refl _, zp⟩
variable {E : En} {S : St} {c : Call} {dst : Option Tmp} {ty : TypeId} {pos : String} {after : Array Edge} {guard : Option (Nat × Bool)} {o : Oper}
def bytT (P : Program) (t u e : TypeId) : Bool := (match P.underlying t with | some (.slice e') => e' == e | _ => false) && isStrT P u && (match P.info? e with
 | some i => i.size == 1 && i.bytes == 1 && (match i.zero with | some (.int .u8 z) => z == 0 | _ => false)
 | none => false)
theorem bytT_spec {P : Program} {t u e : TypeId} (h : bytT P t u e = true) : P.underlying t = some (.slice e) /\ P.underlying u = some .string /\ ∃ i, P.info? e = some i /\ i.zero = some (.int .u8 0) /\ i.size = 1 /\ i.bytes = 1 := by
 unfold bytT at h
 simp only [Bool.and_eq_true] at h; obtain ⟨⟨h1, h2⟩, h3⟩ := h
 split at h1
 · rename_i e' hu
   obtain rfl : e' = e := by simpa using h1
   split at h3
   · rename_i i hi
     simp only [Bool.and_eq_true, beq_iff_eq] at h3; obtain ⟨⟨h4, h5⟩, h6⟩ := h3
     split at h6
     · rename_i z hz
       obtain rfl : z = 0 := by simpa using h6
       exact ⟨hu, isStrT_spec h2, i, hi, hz, h4, h5⟩
     · cases h6
   · cases h3
 · cases h1
theorem LS_appendS {P : Program} {s x : Operand} {t u e : Nat} (j : Nat) (v : Value) (n : Nat) (xs : List Value) (z : ByteArray) (hP : E.X.P = P) (hc : c = { callee := .builtin .append, args := #[s, x], argTypes := #[t, u] })
 (hT : bytT P t u e = true) (hv : ev S s = .sc (.va v)) (hz : ev S x = .sc (.va (.string z))) (hj : (j, Row e 1 v n xs) ∈ E.A) (h0 : 0 < z.size) (hm : n + z.size <= 2147483648) :
 LS E S ⟨dst, .call c, ty, pos, after, guard⟩ [] (fun v' : Value => ∃ a cp, v' = .slice a (n + z.size) cp) (fun v' => S.putM dst (.sc (.va v'))) (fun v' => (S.m, Row e 1 v' (n + z.size) (xs ++ Lib.strCells z)) :: outF [j] E.A) := by
 intro a w r own hs K Q hK; subst hP; subst hc; obtain ⟨t1, t2, i, t3, t4, t5, t6⟩ := bytT_spec hT; have he := (ev_ok hs.toR s).1; rw [hv] at he; have hx := (ev_ok hs.toR x).1; rw [hz] at hx; obtain ⟨_, hrow, hF, h1⟩ := hs.fact j _ hj; obtain ⟨v', w', hr, hown, hg, hblk⟩ := run_appendS_blk (P := E.X.P) w t u ty e i t1 t2 t3 t4 t5 t6 v n xs hrow z h0 hm; have hve := va_of he; have hxe := va_of hx
 unfold Oper.wp execOp
 simp only [resolve, invoke, builtin, Sem.run_bind, Sem.run_pure, Result.andThen_ok, List.map_toArray, List.map_cons, List.map_nil, hve, hxe, hr]
 have hfr : Frm (fun k => ∃ j' ∈ [j], own k = some (.fa j')) w w' := ⟨hg.os, hg.tape, hg.output, hg.size, fun k hk hno => hg.block k hk (fun he => hno ⟨j, zp, (hF k).2 he.symm⟩)⟩
 have hnew : ∀ k, v'.ownBlock = some k -> (∃ j' ∈ [j], own k = some (.fa j')) \/ (w.heap.size <= k /\ k < w'.heap.size) := fun k hk => (hblk k hk).imp (fun h => ⟨j, zp, (hF k).2 h⟩) id; have h2 := hs.trade [j] (B := Row e 1 v' (n + z.size) (xs ++ Lib.strCells z)) (F := fun k => v'.ownBlock = some k) hfr ⟨hown, fun k => Iff.rfl, fun u hu => (List.mem_append.1 hu).elim (h1 u) (Lib.strCells_oneCell z u)⟩ hnew
 refine hK v' ?_ _ _ _ _ (h2.put dst (ok_va r v') trivial) (.same (put_h ..).1 (put_h ..).2 hfr.size fun n t cs hm _ => hfr.block _ (hs.bnd _ _ (hs.heap n t cs hm).2.2.1).1 (fun ⟨j, _, hj⟩ => by
  rw [(hs.heap n t cs hm).2.2.1] at hj; cases hj))
 obtain ⟨_, h2 | ⟨g, cap, cur, rfl, _⟩⟩ := hown; exact ⟨none, 0, by rw [h2.1, h2.2]⟩; exact ⟨_, _, rfl⟩
theorem LS_makeB {P : Program} {t u e : Nat} {x y : Operand} (cp : Nat) (hP : E.X.P = P) (hT : bytT P t u e = true) (hx : ev S x = .sc (.va (.int .i64 0))) (hy : ev S y = .sc (.va (.int .i64 cp))) (hcp : cp <= 65536) :
 LS E S ⟨dst, .makeSlice t x y, ty, pos, after, guard⟩ [] (fun _ : Nat => True) (fun g => S.putM dst (.sc (.va (.slice (some ⟨g, 0, none⟩) 0 cp)))) (fun g => (S.m, Row e 1 (.slice (some ⟨g, 0, none⟩) 0 cp) 0 []) :: E.A) := by
 intro a w r own hs K Q hK; subst hP; obtain ⟨t1, t2, i, t3, t4, t5, t6⟩ := bytT_spec hT; have hxe := va_of (hx ▸ (ev_ok hs.toR x).1); have hye := va_of (hy ▸ (ev_ok hs.toR y).1); obtain ⟨w', hr, hown, hg⟩ := run_makeSlice_owned (P := E.X.P) (w := w) w.heap.size t e i (.int .u8 0) 1 t1 t3 t4 t5 .i64 .i64 cp zo (by rw [t6]; omega) (by simp only [maxLen]; omega) (Nat.le_refl _)
 unfold Oper.wp execOp
 simp only [Sem.run_bind, Sem.run_pure, Result.andThen_ok, hxe, hye, hr]
 have hfr : Frm (fun k => ∃ j' ∈ ([] : List Nat), own k = some (.fa j')) w w' := ⟨hg.os, hg.tape, hg.output, hg.size, fun k hk _ => hg.block k hk zp⟩
 have hnew : ∀ k, (Value.slice (some ⟨w.heap.size, 0, none⟩) 0 cp).ownBlock = some k -> (∃ j' ∈ ([] : List Nat), own k = some (.fa j')) \/ (w.heap.size <= k /\ k < w'.heap.size) := fun k hk => .inr (ownsRow_new hown k hk); have h2 := hs.trade [] (B := Row e 1 (.slice (some ⟨w.heap.size, 0, none⟩) 0 cp) 0 []) (F := fun k => (Value.slice (some ⟨w.heap.size, 0, none⟩) 0 cp).ownBlock = some k) hfr ⟨ownsRow_base hown, fun k => Iff.rfl, fun u hu => by cases hu⟩ hnew; have e0 : E.A.filter (fun x => !([] : List Nat).contains x.1) = E.A := List.filter_eq_self.2 fun _ _ => rfl; rw [e0] at h2; exact hK w.heap.size trivial _ _ _ _ (h2.put dst (ok_va r _) trivial) (.same (put_h ..).1 (put_h ..).2 hfr.size fun n t cs hm _ => hfr.block _ (hs.bnd _ _ (hs.heap n t cs hm).2.2.1).1 (fun ⟨j, h, _⟩ => by cases h))
section
attribute [local irreducible] LS WS
theorem strCells_u8 (z : ByteArray) : ∀ u ∈ Lib.strCells z, ∃ b : Int, u = .int .u8 b := by
 intro u hu; simp only [Lib.strCells, List.mem_map] at hu; obtain ⟨b, _, rfl⟩ := hu; exact ⟨_, rfl⟩
end
end
