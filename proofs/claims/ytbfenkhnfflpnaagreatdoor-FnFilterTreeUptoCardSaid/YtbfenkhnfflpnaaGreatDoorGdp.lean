/- Lemmas for FnFilterTree; each condition stands in its statement. -/
import Derived.Test.YtbfenkhnfflpnaaGreatDoorGdn
import Derived.Test.YtbfenkhnfflpnaaGreatDoorGdo
import Derived.Laws.StructEq
import Derived.Recover
namespace Go.Proofs.YtbfenkhnfflpnaaGreatDoor.Sx
open Go Go.RowKit
set_option maxRecDepth 100000
set_option maxHeartbeats 40000000
set_option linter.all false
section
attribute [local irreducible] leT leH
abbrev NdR (n : N) (w : World) : Ending -> World -> Prop :=
 Ret0 (fun z : ByteArray × Option Addr × Nat × Nat => .ag ((nodeC n.k n.ty z.1 n.t n.t ⟨#[]⟩ n.fl false false 1 n.c n.c 0 0 z.2.1 z.2.2.1 z.2.2.2).map .va)) (fun z => n.k ≠ 5 -> z.1 = n.v) w
def NodeC (n : N) : Prop := ∀ (w : World) (FG : Nat -> Prop), Gy w FG -> FmtT FG -> FmtI FG 9218868437227405312 ⟨#[43, 73, 110, 102]⟩ -> FmtI FG 18442240474082181120 ⟨#[45, 73, 110, 102]⟩ -> ∀ (F : Nat -> Prop) (d : D), ATd w F n d -> (∀ k, F k -> k < w.heap.size) -> Calls Tryz.prog 17 [d.x].toArray w (NdR n w)
section
variable {E : En} {c : Code} {k : Kt} {S : St}
theorem WC_pure {Q : Prop} (h : ∀ a w r own, Sim E.X S E.A a w r own -> Q) (h2 : Q -> WC E c k S) : WC E c k S := fun a w r own hs => h2 (h a w r own hs) a w r own hs
end
theorem agOk {r : Nat -> Nat} (l : List Value) : (SV.ag (l.map .va)).ok r (.agg l.toArray) := ⟨l, rfl, CL_va l⟩
theorem Ret1.drop {α : Type} {res : α -> SV} {φ : α -> Prop} {B : α -> Asn} {w : World} {e : Ending} {w' : World} (h : Ret1 res φ B w e w') : Ret0 res φ w e w' := by
 obtain ⟨x, h1, h2, h3, _⟩ := h; exact ⟨x, h1, h2, h3⟩
structure KdL where
 n : Nat
 a : Option Addr
 q : Nat
 xs : List Value
theorem c17g (w : World) (FG : Nat -> Prop) (hG : Gy w FG) (hf1 : FmtT FG) (hf2 : FmtI FG 9218868437227405312 ⟨#[43, 73, 110, 102]⟩) (hf3 : FmtI FG 18442240474082181120 ⟨#[45, 73, 110, 102]⟩) (gx : Nat) (k ty : Int) (v t : ByteArray) (fl : Bool) (c : Int) (F : Nat -> Prop) (hF : ∀ k, F k -> k < w.heap.size) (l : List N) (ds : List D) (hat : ATds w F l ds) (hk : ∀ x ∈ l, NodeC x) (hlen : l.length <= 1000000) (T : Nat) (hT : ¬ T = 93)
 (hal : ∀ w', Frm (fun _ => False) w w' -> Calls Tryz.prog 29 [.iface T (ptr gx)].toArray w' (Ret1 (fun z : ByteArray × Option Addr × Nat => .tu [.ag ((nodeC k ty z.1 t t ⟨#[]⟩ fl false false 1 c c 0 0 none 0 0).map .va), .sc (.va (.slice z.2.1 l.length z.2.2))]) (fun z => k ≠ 5 -> z.1 = v) (fun z => Row 54 1 (.slice z.2.1 l.length z.2.2) l.length (ds.map D.x)) w')) :
 Calls Tryz.prog 17 [.iface T (ptr gx)].toArray w (Ret0 (fun z : ByteArray × Option Addr × Nat × Nat => .ag ((nodeC k ty z.1 t t ⟨#[]⟩ fl false false 1 c c 0 0 z.2.1 z.2.2.1 z.2.2.2).map .va)) (fun z => k ≠ 5 -> z.1 = v) w) := by
 refine calls_start 1000 Tryz.func17 rfl ?_
 intro E hX hP hA hQ
 repeat' first
  | refine zB ?_ | apply zI <;> intro hdec | with_reducible constructor
  | (with_reducible refine WO_LS 850 (LS_call1 (α := ByteArray × Option Addr × Nat) (f := 29) (fun z => .tu [.ag [.va (.int .i64 k), .va (.int .i64 ty), .va (.string z.1), .va (.string t), .va (.string t), .va (.string ⟨#[]⟩), .va (.bool fl), .va (.bool false), .va (.bool false), .va (.int .i64 1), .va (.int .i64 c), .va (.int .i64 c), .va (.int .i64 0), .va (.int .i64 0), .va (.slice none 0 0), .va (.slice none 0 0), .va (.slice none 0 0), .va (.slice none 0 0), .va (.slice none 0 0)], .sc (.va (.slice z.2.1 l.length z.2.2))]) (fun z => k ≠ 5 -> z.1 = v) (fun z => Row 54 1 (.slice z.2.1 l.length z.2.2) l.length (ds.map D.x)) hP ?_ ?_ ?_ ?_ ?_) ?_
     rfl; exact zq1; exact fun z => tuASlt (nodeC k ty z.1 t t ⟨#[]⟩ fl false false 1 c c 0 0 none 0 0) (.slice z.2.1 l.length z.2.2) 0; exact zq0
     · (intro a w r own hSim; rw [hX] at hSim; simp only [go_sem]; have hc := hal _ hSim.frm; simp only [nodeC, List.map_cons, List.map_nil] at hc; with_reducible exact hc)
     rintro ⟨v1, ka, kc⟩ hv1 E2 h1 h2 h3; refine zz ?_; intro hX hP hA hQ)
  | refine zs4 ?_
 apply WC_addE (Row 31 19 (.slice none 0 0) 0 []) (fun w => ⟨World.ownsRow_nil w _ _ _, fun k => by simp [Value.ownBlock], fun u hu => by cases hu⟩)
 intro E2 h1 h2 h3; dsimp only; refine zz ?_; intro hX hP hA hQ
 apply WC_loopG (ι := KdL) (fun x => x.n <= l.length) [21, 22, 23, 6, 24, 25, 26, 27, 28, 29, 30, 31, 20] (fun x => [(20, .sc (.va (.int .i64 x.n)))]) (fun x => [(0, 31, [.va (.int .i64 0), .va (.int .i64 0), .va (.string ⟨#[]⟩), .va (.string ⟨#[]⟩), .va (.string ⟨#[]⟩), .va (.string ⟨#[]⟩), .va (.bool false), .va (.bool false), .va (.bool false), .va (.int .i64 0), .va (.int .i64 0), .va (.int .i64 0), .va (.int .i64 0), .va (.int .i64 0), .va (.slice none 0 0), .va (.slice none 0 0), .va (.slice none 0 0), .va (.slice none 0 0), .va (.slice none 0 0)]), (1, 31, [.va (.int .i64 k), .va (.int .i64 ty), .va (.string v1), .va (.string t), .va (.string t), .va (.string ⟨#[]⟩), .va (.bool fl), .va (.bool false), .va (.bool false), .va (.int .i64 1), .va (.int .i64 c), .va (.int .i64 c), .va (.int .i64 0), .va (.int .i64 0), .va (.slice none 0 0), .va (.slice none 0 0), .va (.slice none 0 0), .va (.slice none 0 0), .va (.slice x.a x.n x.q)])]) (fun x => [(0, Row 54 1 (.slice ka l.length kc) l.length (ds.map D.x)), (1, Row 31 19 (.slice x.a x.n x.q) x.n x.xs)]) (fun x => l.length - x.n) ⟨0, none, 0, []⟩ (Nat.zero_le _) [(0, 0), (1, 1)] hX
 exact zq10; exact zq5; exact zq7; exact zq5; rfl; rfl; rfl; exact zq4; rintro ⟨n, a, q, xs⟩ hi E' hX' hA' hQ' J hJ; refine zl ?_; intro hX hP hA hQ; dsimp only at hi hA
 by_cases hil : n < l.length
 · obtain ⟨x, hx⟩ : ∃ x, l[n]? = some x := ⟨_, List.getElem?_eq_getElem hil⟩
   obtain ⟨d, hd⟩ : ∃ d, ds[n]? = some d := ⟨_, List.getElem?_eq_getElem (by rw [hat.len]; exact hil)⟩
   have hxm := List.mem_of_getElem? hx; have hatx : ATd w F x d := hat.get hx hd
   have hdx : (ds.map D.x)[n]? = some d.x := by rw [List.getElem?_map, hd]; rfl
   refine WC_pure (Q := ∃ A, ka = some A) (fun a' w' r own hs => ?_) ?_
   exact Option.isSome_iff_exists.1 (rowSome (hs.fact 0 (Row 54 1 (.slice ka l.length kc) l.length (ds.map D.x)) zw0).2 zo); rintro ⟨A, rfl⟩; obtain ⟨k1, ty1, v1x, t1, fl1, c1, l1⟩ := x
   refine vc_ok 900 _ _ _ ?_
   repeat' first
    | refine zB ?_ | apply zI <;> intro hdec | with_reducible constructor
    | (with_reducible refine WO_LE 850 (LS_rcell (A.add n) [d.x] false hP ?_ ?_ ?_ (fun _ => rfl)) ?_
       · exact zq0
       · (intro a' w' r own hs; exact one_cell (rowCells (hs.fact 0 (Row 54 1 (.slice (some A) l.length kc) l.length (ds.map D.x)) zw0).2 n d.x hdx))
       exact sz54; intro _ _; simp only [rdV])
    | (with_reducible show WC _ (.region 7 _ _) _ _
       with_reducible apply WC_drawn 900 sch17_7 [7] [] hP
       exact zq1; exact zq2; exact zq1)
    | (with_reducible refine WD_LS 850 ?_ (LS_call0 (α := ByteArray × Option Addr × Nat × Nat) (f := 17) (fun z => .ag [.va (.int .i64 k1), .va (.int .i64 ty1), .va (.string z.1), .va (.string t1), .va (.string t1), .va (.string ⟨#[]⟩), .va (.bool fl1), .va (.bool false), .va (.bool false), .va (.int .i64 1), .va (.int .i64 c1), .va (.int .i64 c1), .va (.int .i64 0), .va (.int .i64 0), .va (.slice none 0 0), .va (.slice none 0 0), .va (.slice none 0 0), .va (.slice none 0 0), .va (.slice z.2.1 z.2.2.1 z.2.2.2)]) (fun z => k1 ≠ 5 -> z.1 = v1x) hP ?_ ?_ ?_ ?_ ?_) ?_ ?_
       exact zq2; rfl; exact zq1; exact zq89; exact zq0; exact zq99; exact zq16; intro ⟨v2, ka2, kn2, kc2⟩ _ E2 h1 h2 h3; obtain rfl := En_eq _ _ h1 h2 h3)
    | (with_reducible refine WD_LS 850 ?_ (LS_append (e := 31) (size := 19) (bytes := 248) 1 (.slice a n q) (n) (xs) 1 [.int .i64 k1, .int .i64 ty1, .string v2, .string t1, .string t1, .string ⟨#[]⟩, .bool fl1, .bool false, .bool false, .int .i64 1, .int .i64 c1, .int .i64 c1, .int .i64 0, .int .i64 0, .slice none 0 0, .slice none 0 0, .slice none 0 0, .slice none 0 0, .slice ka2 kn2 kc2] hP rfl ?_ ?_ ?_ ?_ ?_ ?_ ?_) ?_ ?_
       exact zq2; exact zq1; exact zq0; exact zq52; exact zq22; rfl; omega; decide; exact zq16; rintro v' ⟨_, a2, q2, rfl⟩ E2 h1 h2 h3; refine zz ?_; intro hX hP hA hQ)
    | (with_reducible apply WX_lpG _ _ [(0, 0), (2, 1)] hX (hJ (⟨n + 1, a2, q2, xs ++ [.int .i64 k1, .int .i64 ty1, .string v2, .string t1, .string t1, .string ⟨#[]⟩, .bool fl1, .bool false, .bool false, .int .i64 1, .int .i64 c1, .int .i64 c1, .int .i64 0, .int .i64 0, .slice none 0 0, .slice none 0 0, .slice none 0 0, .slice none 0 0, .slice ka2 kn2 kc2]⟩) zj zj)
       exact zq7; exact zq3; exact zq7; exact zq3; rfl; rfl; rfl; exact zq4)
    | refine zs7 ?_
   all_goals try first
    | omega | (unfold I64; omega)
 · refine vc_ok 900 _ _ _ ?_
   repeat' first
    | refine zB ?_ | apply zI <;> intro hdec | with_reducible constructor
    | simp (maxSteps := 20000000) only [Tryz.f17, go_sem, zL, ↓reduceIte, reduceCtorEq, Nat.reduceAdd, Nat.reduceMul, Nat.reduceSub, Nat.reduceLeDiff, Nat.reduceEqDiff, Nat.reduceLT, Nat.reduceBEq, Int.reduceEq, hP, hX, addr_add, Nat.mul_one, Nat.zero_add, Nat.add_zero, Option.isNone_some, Option.isNone_none, nodeC, hT]
   all_goals try first
    | omega | (intro a' w' r own hs'; exact ⟨(v1, a, n, q), hv1, ⟨_, rfl, fun r => agOk (nodeC k ty v1 t t ⟨#[]⟩ fl false false 1 c c 0 0 a n q)⟩, hs'.frm⟩)
end
section
attribute [local irreducible] leT leH WO WX WC WD LS WS WQ
theorem rowAd {e size n c : Nat} {a : Option Addr} {xs : List Value} {w : World} {F : Nat -> Prop} (h : (Row e size (.slice a n c) n xs).P w F) (hn : 0 < n) : ∃ g, a = some ⟨g, 0, none⟩ := by
 obtain ⟨⟨_, h2⟩, _⟩ := h
 rcases h2 with ⟨h2, h3⟩ | ⟨g, cap, cur, h2, _⟩
 · omega
 · simp only [Value.slice.injEq] at h2
   exact ⟨g, h2.1⟩
structure SqL where
 n : Nat
 xs : List Value
theorem c17_14 (w : World) (FG : Nat -> Prop) (hG : Gy w FG) (hf1 : FmtT FG) (hf2 : FmtI FG 9218868437227405312 ⟨#[43, 73, 110, 102]⟩) (hf3 : FmtI FG 18442240474082181120 ⟨#[45, 73, 110, 102]⟩) (gx b tk p : Nat) (ty : Int) (t : ByteArray) (fl : Bool) (c : Int) (F : Nat -> Prop) (hF : ∀ k, F k -> k < w.heap.size) (l : List N) (ds : List D) (hat : ATds w F l ds) (hk : ∀ x ∈ l, NodeC x) (hlen : l.length <= 1000000) (s1 s2 : Value) (hgx : Hp w gx 99 [ptr b, ptr tk, .pointer none, .bool fl, s1, s2, .slice none 0 0, .pointer none]) (hb : Hp w b 230 baseC) (htk : Hp w tk 87 (tokC ty t p)) (hp : Hp w p 172 (posC c)) (hsl1 : SlC w F 54 s1 (ds.map D.x)) (hsl2 : SlC w F 88 s2 (List.replicate ds.length (.pointer none))) :
 Calls Tryz.prog 17 [.iface 93 (ptr gx)].toArray w (Ret0 (fun z : ByteArray × Option Addr × Nat × Nat => .ag ((nodeC 14 ty z.1 t t ⟨#[]⟩ fl false false 1 c c 0 0 z.2.1 z.2.2.1 z.2.2.2).map .va)) (fun z => z.1 = ⟨#[]⟩) w) := by
 obtain ⟨A, scp, rfl, e2, hcell⟩ := hsl1.at; obtain ⟨A2, scp2, rfl, e3, hcell2⟩ := hsl2.at; have hdl : ds.length = l.length := hat.len; simp only [List.length_map, List.length_replicate, hdl] at hgx
 refine calls_start 1000 Tryz.func17 rfl fun E hX hP hA hQ => ?_
 repeat' first
  | refine zB ?_ | apply zI <;> intro hdec | with_reducible constructor
  | (refine zcS 29 (.tu [.ag [.va (.int .i64 14), .va (.int .i64 ty), .va (.string ⟨#[]⟩), .va (.string t), .va (.string t), .va (.string ⟨#[]⟩), .va (.bool fl), .va (.bool false), .va (.bool false), .va (.int .i64 1), .va (.int .i64 c), .va (.int .i64 c), .va (.int .i64 0), .va (.int .i64 0), .va (.slice none 0 0), .va (.slice none 0 0), .va (.slice none 0 0), .va (.slice none 0 0), .va (.slice none 0 0)], .sc (.va (.slice A l.length scp))]) ?_ ?_
     · (intro a w r own hSim; simp only [go_sem]; rw [hX] at hSim; have hc := c29_14 _ gx b tk p ty c t fl A l.length scp _ (Hp.of hgx hSim) (Hp.of hb hSim) (Hp.of htk hSim) (Hp.of hp hSim); simp only [nodeC, List.map_cons, List.map_nil] at hc; with_reducible exact hc))
  | refine zs4 ?_
 apply WC_addE (Row 31 19 (.slice none 0 0) 0 []) (fun w => ⟨World.ownsRow_nil w _ _ _, fun k => by simp [Value.ownBlock], fun u hu => by cases hu⟩)
 intro E2 h1 h2 h3; dsimp only; refine zz ?_; intro hX hP hA hQ
 apply WC_loopG (ι := KdL) (fun x => x.n <= l.length) [21, 22, 23, 6, 24, 25, 26, 27, 28, 29, 30, 31, 20] (fun x => [(20, .sc (.va (.int .i64 x.n)))]) (fun x => [(0, 31, [.va (.int .i64 0), .va (.int .i64 0), .va (.string ⟨#[]⟩), .va (.string ⟨#[]⟩), .va (.string ⟨#[]⟩), .va (.string ⟨#[]⟩), .va (.bool false), .va (.bool false), .va (.bool false), .va (.int .i64 0), .va (.int .i64 0), .va (.int .i64 0), .va (.int .i64 0), .va (.int .i64 0), .va (.slice none 0 0), .va (.slice none 0 0), .va (.slice none 0 0), .va (.slice none 0 0), .va (.slice none 0 0)]), (1, 31, [.va (.int .i64 14), .va (.int .i64 ty), .va (.string ⟨#[]⟩), .va (.string t), .va (.string t), .va (.string ⟨#[]⟩), .va (.bool fl), .va (.bool false), .va (.bool false), .va (.int .i64 1), .va (.int .i64 c), .va (.int .i64 c), .va (.int .i64 0), .va (.int .i64 0), .va (.slice none 0 0), .va (.slice none 0 0), .va (.slice none 0 0), .va (.slice none 0 0), .va (.slice x.a x.n x.q)])]) (fun x => [(0, Row 31 19 (.slice x.a x.n x.q) x.n x.xs)]) (fun x => l.length - x.n) ⟨0, none, 0, []⟩ (Nat.zero_le _) [(0, 0)] hX
 exact zq10; exact zq5; exact zq7; exact zq5; rfl; rfl; rfl; exact zq4; rintro ⟨n, a, q, xs⟩ hi E' hX' hA' hQ' J hJ; refine zl ?_; intro hX hP hA hQ; dsimp only at hi hA
 by_cases hil : n < l.length
 · obtain ⟨x, hx⟩ : ∃ x, l[n]? = some x := ⟨_, List.getElem?_eq_getElem hil⟩
   obtain ⟨d, hd⟩ : ∃ d, ds[n]? = some d := ⟨_, List.getElem?_eq_getElem zo⟩
   have hxm := List.mem_of_getElem? hx; have hatx : ATd w F x d := hat.get hx hd
   obtain ⟨A1, rfl⟩ : ∃ A1, A = some A1 := by
    rcases e2 with e2 | h
    exact zq78; exact zq53
   obtain ⟨_, hcx⟩ := hcell n d.x (by rw [List.getElem?_map, hd]; rfl); have hcx' : w.cell? (A1.add n) = some d.x := hcx; obtain ⟨k1, ty1, v1x, t1, fl1, c1, l1⟩ := x
   refine vc_ok 900 _ _ _ ?_
   repeat' first
    | refine zB ?_ | apply zI <;> intro hdec | with_reducible constructor | (refine WO_LE 850 (LS_rc (A1.add n) [d.x] false hX ?_ ?_ ?_ ?_ (fun _ => rfl)) ?_; exact zq0; exact one_cell hcx'; exact (fun h => h); exact sz54; intro _ _)
    | refine zu 7 sch17_7 [7] ?_
    | (refine WD_LS 850 ?_ (LS_call0 (α := ByteArray × Option Addr × Nat × Nat) (f := 17) (fun z => .ag [.va (.int .i64 k1), .va (.int .i64 ty1), .va (.string z.1), .va (.string t1), .va (.string t1), .va (.string ⟨#[]⟩), .va (.bool fl1), .va (.bool false), .va (.bool false), .va (.int .i64 1), .va (.int .i64 c1), .va (.int .i64 c1), .va (.int .i64 0), .va (.int .i64 0), .va (.slice none 0 0), .va (.slice none 0 0), .va (.slice none 0 0), .va (.slice none 0 0), .va (.slice z.2.1 z.2.2.1 z.2.2.2)]) (fun z => k1 ≠ 5 -> z.1 = v1x) hP ?_ ?_ ?_ ?_ ?_) ?_ ?_; exact zq2; rfl; exact zq1; exact zq89; exact zq0; exact zq99; exact zq16; intro ⟨v2, ka2, kn2, kc2⟩ _ E2 h1 h2 h3; obtain rfl := En_eq _ _ h1 h2 h3) | (refine WD_LS 850 ?_ (LS_append (e := 31) (size := 19) (bytes := 248) 0 (.slice a n q) (n) (xs) 1 [.int .i64 k1, .int .i64 ty1, .string v2, .string t1, .string t1, .string ⟨#[]⟩, .bool fl1, .bool false, .bool false, .int .i64 1, .int .i64 c1, .int .i64 c1, .int .i64 0, .int .i64 0, .slice none 0 0, .slice none 0 0, .slice none 0 0, .slice none 0 0, .slice ka2 kn2 kc2] hP rfl ?_ ?_ ?_ ?_ ?_ ?_ ?_) ?_ ?_; exact zq2; exact zq1; exact zq0; exact zq13; exact zq22; rfl; omega; decide; exact zq16; rintro v' ⟨_, a2, q2, rfl⟩ E2 h1 h2 h3; refine zz ?_; intro hX hP hA hQ)
    | exact zG7 [(1, 0)] (hJ (⟨n + 1, a2, q2, xs ++ [.int .i64 k1, .int .i64 ty1, .string v2, .string t1, .string t1, .string ⟨#[]⟩, .bool fl1, .bool false, .bool false, .int .i64 1, .int .i64 c1, .int .i64 c1, .int .i64 0, .int .i64 0, .slice none 0 0, .slice none 0 0, .slice none 0 0, .slice none 0 0, .slice ka2 kn2 kc2]⟩) zj zj)
    | refine zs7 ?_
   all_goals try first
    | omega | (unfold I64; omega)
 · refine vc_ok 900 _ _ _ ?_
   obtain rfl : n = l.length := by omega
   repeat' first
    | refine zB ?_ | apply zI <;> intro hdec | with_reducible constructor | refine zs4 ?_
   apply WC_loopG (ι := SqL) (fun x => x.n <= l.length) [42, 43, 9, 44, 45, 46, 47, 48, 49, 50, 51, 52, 53, 54, 55, 56, 57, 58, 59, 60, 61, 62, 63, 64, 65, 66, 67, 68, 69, 70, 71, 72, 73, 74, 75, 76, 77, 78, 79, 80, 81, 82, 83, 84, 85, 86, 87, 88, 89, 90, 91, 92, 93, 94, 95, 41] (fun x => [(41, .sc (.va (.int .i64 x.n)))]) (fun x => [(0, 31, [.va (.int .i64 0), .va (.int .i64 0), .va (.string ⟨#[]⟩), .va (.string ⟨#[]⟩), .va (.string ⟨#[]⟩), .va (.string ⟨#[]⟩), .va (.bool false), .va (.bool false), .va (.bool false), .va (.int .i64 0), .va (.int .i64 0), .va (.int .i64 0), .va (.int .i64 0), .va (.int .i64 0), .va (.slice none 0 0), .va (.slice none 0 0), .va (.slice none 0 0), .va (.slice none 0 0), .va (.slice none 0 0)]), (1, 31, [.va (.int .i64 14), .va (.int .i64 ty), .va (.string ⟨#[]⟩), .va (.string t), .va (.string t), .va (.string ⟨#[]⟩), .va (.bool fl), .va (.bool false), .va (.bool false), .va (.int .i64 1), .va (.int .i64 c), .va (.int .i64 c), .va (.int .i64 0), .va (.int .i64 0), .va (.slice none 0 0), .va (.slice none 0 0), .va (.slice none 0 0), .va (.slice none 0 0), .va (.slice a l.length q)])]) (fun x => [(0, Row 31 19 (.slice a l.length q) l.length x.xs)]) (fun x => l.length - x.n) ⟨0, xs⟩ (Nat.zero_le _) [(0, 0)] hX
   exact zq10; exact zq5; exact zq7; exact zq5; rfl; rfl; rfl; exact zq4; rintro ⟨n, ys⟩ hi E' hX' hA' hQ' J hJ; refine zl ?_; intro hX hP hA hQ; dsimp only at hi hA
   by_cases hil : n < l.length
   · apply WC_pure (Q := ∃ g, a = some ⟨g, 0, none⟩) (fun a' w' r own hs => rowAd (hs.fact 0 (Row 31 19 (.slice a l.length q) l.length ys) zw0).2 zo)
     rintro ⟨g2, rfl⟩
     obtain ⟨A3, rfl⟩ : ∃ A3, A2 = some A3 := by
      rcases e3 with e3 | h
      · exfalso; have := congrArg List.length e3; simp only [List.length_replicate, List.length_nil] at this; omega
      · exact zq53
     obtain ⟨_, hcy⟩ := hcell2 n (.pointer none) (by simp [List.getElem?_replicate]; omega); have hcy' : w.cell? (A3.add n) = some (.pointer none) := hcy
     refine vc_ok 900 _ _ _ ?_
     repeat' first
      | refine zB ?_ | apply zI <;> intro hdec | with_reducible constructor
      | refine zu 14 sch17_14 [] ?_
      | refine zu 15 sch17_15 [13] ?_
      | refine zu 16 sch17_16 [] ?_
      | (refine WS_rc 850 (⟨gx, 5, none⟩) ([.slice (some A3) l.length scp2]) false hX ?_ rfl ?_ ?_ ?_ ?_ (fun _ => rfl) ?_; exact zq2; exact zq0; exact zq12; exact zq8; exact sz96) | (refine WS_rc 850 (⟨gx, 4, none⟩) ([.slice A l.length scp]) false hX ?_ rfl ?_ ?_ ?_ ?_ (fun _ => rfl) ?_; exact zq2; exact zq0; exact zq12; exact zq8; exact sz50) | (refine WS_rc 850 (⟨gx, 6, none⟩) ([.slice none 0 0]) false hX ?_ rfl ?_ ?_ ?_ ?_ (fun _ => rfl) ?_; exact zq2; exact zq0; exact zq12; exact zq8; exact sz97) | (refine WS_rc 850 (A3.add n) ([.pointer none]) false hX ?_ rfl ?_ ?_ ?_ ?_ (fun _ => rfl) ?_; exact zq2; exact zq0; exact one_cell hcy'; exact zq8; exact sz88) | refine zr2 ?_
      | (refine WD_LS 850 ?_ (LS_rowstore (g := g2) (q := n * 19 + 16) 0 ys (.slice none 0 0) hP rfl ?_ zw0 ?_ sz28 ?_) ?_ ?_
         · exact zq2
         · (simp only [go_sem, addr_add, Nat.zero_add]; try rfl)
         exact zq27; omega; exact zq16; intro _ _ E2 h1 h2 h3; refine zz ?_; intro hX hP hA hQ)
      | exact zG7 [(1, 0)] (hJ (⟨n + 1, ys.set (n * 19 + 16) (.slice none 0 0)⟩) zj zj)
      | refine zs7 ?_
     all_goals try first
      | omega | (unfold I64; omega)
   · refine vc_ok 900 _ _ _ ?_
     repeat' first
      | refine zB ?_ | apply zI <;> intro hdec | with_reducible constructor | refine zs4 ?_
     all_goals try first
      | omega | (intro a' w' r own hs'; exact ⟨(⟨#[]⟩, a, l.length, q), rfl, ⟨_, rfl, fun r => agOk (nodeC 14 ty ⟨#[]⟩ t t ⟨#[]⟩ fl false false 1 c c 0 0 a l.length q)⟩, hs'.frm⟩)
theorem leafR {k ty c : Int} {V v t : ByteArray} {fl : Bool} {w w' : World} {e : Ending} {l : List N} {ds : List D} (h : RetS (.tu [.ag ((nodeC k ty V t t ⟨#[]⟩ fl false false 1 c c 0 0 none 0 0).map .va), .sc (.va (.slice none 0 0))]) w e w') (hl : l = []) (hd : ds = []) (hv : k ≠ 5 -> V = v) : Ret1 (fun z : ByteArray × Option Addr × Nat => .tu [.ag ((nodeC k ty z.1 t t ⟨#[]⟩ fl false false 1 c c 0 0 none 0 0).map .va), .sc (.va (.slice z.2.1 l.length z.2.2))]) (fun z => k ≠ 5 -> z.1 = v) (fun z => Row 54 1 (.slice z.2.1 l.length z.2.2) l.length (ds.map D.x)) w e w' := by
 subst hl hd; exact ⟨(V, none, 0), hv, h.1, h.2, fun _ => False, fun k hk => hk.elim, ⟨World.ownsRow_nil _ _ _ _, fun k => by simp [Value.ownBlock], fun u hu => by cases hu⟩⟩
theorem fltR {k ty c : Int} {v t : ByteArray} {fl : Bool} {w w' : World} {e : Ending} {l : List N} {ds : List D} (h : Ret0 (fun V : ByteArray => .tu [.ag ((nodeC k ty V t t ⟨#[]⟩ fl false false 1 c c 0 0 none 0 0).map .va), .sc (.va (.slice none 0 0))]) (fun _ => True) w e w') (hl : l = []) (hd : ds = []) (hk : k = 5) : Ret1 (fun z : ByteArray × Option Addr × Nat => .tu [.ag ((nodeC k ty z.1 t t ⟨#[]⟩ fl false false 1 c c 0 0 none 0 0).map .va), .sc (.va (.slice z.2.1 l.length z.2.2))]) (fun z => k ≠ 5 -> z.1 = v) (fun z => Row 54 1 (.slice z.2.1 l.length z.2.2) l.length (ds.map D.x)) w e w' := by
 subst hl hd; obtain ⟨V, _, h1, h2⟩ := h; exact ⟨(V, none, 0), fun h => absurd hk h, h1, h2, fun _ => False, fun k hk => hk.elim, ⟨World.ownsRow_nil _ _ _ _, fun k => by simp [Value.ownBlock], fun u hu => by cases hu⟩⟩
theorem kidR {k ty c : Int} {V v t : ByteArray} {fl : Bool} {w w' : World} {e : Ending} {l : List N} {ds : List D} {m : Nat} {Y : List Value} (h : Ret1 (fun z : Option Addr × Nat => .tu [.ag ((nodeC k ty V t t ⟨#[]⟩ fl false false 1 c c 0 0 none 0 0).map .va), .sc (.va (.slice z.1 m z.2))]) (fun _ => True) (fun z => Row 54 1 (.slice z.1 m z.2) m Y) w e w') (hl : l.length = m) (hd : ds.map D.x = Y) (hv : V = v) : Ret1 (fun z : ByteArray × Option Addr × Nat => .tu [.ag ((nodeC k ty z.1 t t ⟨#[]⟩ fl false false 1 c c 0 0 none 0 0).map .va), .sc (.va (.slice z.2.1 l.length z.2.2))]) (fun z => k ≠ 5 -> z.1 = v) (fun z => Row 54 1 (.slice z.2.1 l.length z.2.2) l.length (ds.map D.x)) w e w' := by
 subst hl hd hv; obtain ⟨z, _, h1, h2, h3⟩ := h; exact ⟨(V, z.1, z.2), fun _ => rfl, h1, h2, h3⟩
theorem hpF {w w' : World} {g t : Nat} {cs : List Value} (hfr : Frm (fun _ => False) w w') (hg : g < w.heap.size) (h : Hp w g t cs) : Hp w' g t cs := (hfr.block g hg (fun h => h)).trans h
theorem gyF {w w' : World} {F : Nat -> Prop} (hfr : Frm (fun _ => False) w w') (h : Gy w F) : Gy w' F := h.ext hfr.size fun k hk => hfr.block k (h.gl.lt k hk) (fun h => h)
theorem at8 {w : World} {F : Nat -> Prop} {n : N} {x : Value} {es : List D} (h : ATd w F n (.mk x es)) (hk : n.k = 8) : ∃ g0 b0 tk0 p0, x = .iface 128 (ptr g0) /\ F g0 /\ F tk0 /\ Hp w g0 130 [ptr b0, ptr tk0, .string n.v] /\ Hp w tk0 87 (tokC n.ty n.t p0) := by
 obtain ⟨k, ty, v, t, fl, c, kids⟩ := n; obtain rfl : k = 8 := hk; rw [ATd] at h; obtain ⟨gx, b, tk, p, cs, rfl, hFg, hFb, hFt, hFp, hb, htk, hp, hgx, hs, hats⟩ := h
 generalize es.map D.x = vs at hs
 cases hs with
 | str => exact ⟨gx, b, tk, p, rfl, hFg, hFt, hgx, htk⟩
theorem atI {w : World} {F : Nat -> Prop} {n : N} {x : Value} {es : List D} (h : ATd w F n (.mk x es)) : ∃ T g, x = .iface T (ptr g) := by
 obtain ⟨k, ty, v, t, fl, c, kids⟩ := n; rw [ATd] at h; obtain ⟨gx, b, tk, p, cs, rfl, _⟩ := h; exact ⟨_, _, rfl⟩
mutual
theorem node_all : ∀ n : N, n.ok True -> n.cnt <= 1000000 -> NodeC n
 | .mk k ty v t fl c kids, hok, hcnt => fun w FG hG hf1 hf2 hf3 F d hat hF => by
   have hkids := node_list kids; rw [N.ok] at hok; rw [N.cnt] at hcnt; obtain ⟨hc1, hc2, hoks, hcase, hfl⟩ := hok; have hk := hkids hoks zo
   have hlen : kids.length <= 1000000 := by have := cntl_len kids; omega
   obtain ⟨x, ds⟩ := d; rw [ATd] at hat; obtain ⟨gx, b, tk, p, cs, rfl, hFg, hFb, hFt, hFp, hb, htk, hp, hgx, hs, hats⟩ := hat; simp only [D.x, NdR, N.k, N.ty, N.v, N.t, N.fl, N.c]; replace hFg := hF _ hFg; replace hFb := hF _ hFb; replace hFt := hF _ hFt; replace hFp := hF _ hFp
   generalize hvs : ds.map D.x = vs at hs
   cases hs with
   | null =>
     rw [show kpT 2 = 118 from rfl]; rw [show ksT 2 = 121 from rfl] at hgx; obtain rfl := map0 hvs.symm; obtain rfl := ats0 hats; obtain rfl : fl = false := hfl (by unfold keyK; decide)
     obtain rfl : v = ⟨#[]⟩ := by
      rcases hcase with h | h | h | h | h | h | h | h | h | h | h | h | h | h <;> first | exact absurd h.1 zi | exact h.2.2
     exact c17g w FG hG hf1 hf2 hf3 gx 2 ty ⟨#[]⟩ t false c F hF [] [] hats hk hlen 118 zi (fun w' hfr => (c29_2 w' gx b tk p ty c t (hpF hfr hFg hgx) (hpF hfr hFb hb) (hpF hfr hFt htk) (hpF hfr hFp hp)).mono fun e w2 h => leafR h rfl rfl fun _ => rfl)
   | bool x1 hx1 =>
     rw [show kpT 3 = 133 from rfl]; rw [show ksT 3 = 135 from rfl] at hgx; obtain rfl := map0 hvs.symm; obtain rfl := ats0 hats; obtain rfl : fl = false := hfl (by unfold keyK; decide); exact c17g w FG hG hf1 hf2 hf3 gx 3 ty v t false c F hF [] [] hats hk hlen 133 zi (fun w' hfr => (c29_3 w' gx b tk p ty c t x1 (hpF hfr hFg hgx) (hpF hfr hFb hb) (hpF hfr hFt htk) (hpF hfr hFp hp)).mono fun e w2 h => leafR h rfl rfl fun _ => hx1.symm)
   | int x1 hx1 =>
     rw [show kpT 4 = 122 from rfl]; rw [show ksT 4 = 124 from rfl] at hgx; obtain rfl := map0 hvs.symm; obtain rfl := ats0 hats; obtain rfl : fl = false := hfl (by unfold keyK; decide); exact c17g w FG hG hf1 hf2 hf3 gx 4 ty v t false c F hF [] [] hats hk hlen 122 zi (fun w' hfr => (c29_4 w' gx b tk p ty c t FG (gyF hfr hG) x1 v hx1 (hpF hfr hFg hgx) (hpF hfr hFb hb) (hpF hfr hFt htk) (hpF hfr hFp hp)).mono fun e w2 h => leafR h rfl rfl fun _ => rfl)
   | float x1 =>
     rw [show kpT 5 = 125 from rfl]; rw [show ksT 5 = 127 from rfl] at hgx; obtain rfl := map0 hvs.symm; obtain rfl := ats0 hats; obtain rfl : fl = false := hfl (by unfold keyK; decide); exact c17g w FG hG hf1 hf2 hf3 gx 5 ty v t false c F hF [] [] hats hk hlen 125 zi (fun w' hfr => (c29_5 w' gx b tk p ty c t FG (gyF hfr hG) x1 hf1 (hpF hfr hFg hgx) (hpF hfr hFb hb) (hpF hfr hFt htk) (hpF hfr hFp hp)).mono fun e w2 h => fltR h rfl rfl rfl)
   | inf x1 hx1 =>
     rw [show kpT 6 = 136 from rfl]; rw [show ksT 6 = 138 from rfl] at hgx; obtain rfl := map0 hvs.symm; obtain rfl := ats0 hats; obtain rfl : fl = false := hfl (by unfold keyK; decide)
     have hfi : FmtI FG x1 v := by
      rcases hx1 with ⟨rfl, rfl⟩ | ⟨rfl, rfl⟩
      exact hf2; exact hf3
     exact c17g w FG hG hf1 hf2 hf3 gx 6 ty v t false c F hF [] [] hats hk hlen 136 zi (fun w' hfr => (c29_6 w' gx b tk p ty c t FG (gyF hfr hG) x1 v hfi (hpF hfr hFg hgx) (hpF hfr hFb hb) (hpF hfr hFt htk) (hpF hfr hFp hp)).mono fun e w2 h => leafR h rfl rfl fun _ => rfl)
   | nan hx1 =>
     rw [show kpT 7 = 139 from rfl]; rw [show ksT 7 = 140 from rfl] at hgx; obtain rfl := map0 hvs.symm; obtain rfl := ats0 hats; obtain rfl : fl = false := hfl (by unfold keyK; decide); exact c17g w FG hG hf1 hf2 hf3 gx 7 ty v t false c F hF [] [] hats hk hlen 139 zi (fun w' hfr => (c29_7 w' gx b tk p ty c t (hpF hfr hFg hgx) (hpF hfr hFb hb) (hpF hfr hFt htk) (hpF hfr hFp hp)).mono fun e w2 h => leafR h rfl rfl fun _ => hx1.symm)
   | str =>
     rw [show kpT 8 = 128 from rfl]; rw [show ksT 8 = 130 from rfl] at hgx; obtain rfl := map0 hvs.symm; obtain rfl := ats0 hats; obtain rfl : fl = false := hfl (by unfold keyK; decide); exact c17g w FG hG hf1 hf2 hf3 gx 8 ty v t false c F hF [] [] hats hk hlen 128 zi (fun w' hfr => (c29_8 w' gx b tk p ty c t v (hpF hfr hFg hgx) (hpF hfr hFb hb) (hpF hfr hFt htk) (hpF hfr hFp hp)).mono fun e w2 h => leafR h rfl rfl fun _ => rfl)
   | lit gk =>
     rw [show kpT 10 = 141 from rfl]; rw [show ksT 10 = 143 from rfl] at hgx; obtain rfl : fl = false := hfl (by unfold keyK; decide); obtain ⟨es, rfl⟩ := map1 hvs.symm; obtain ⟨n0, rfl, h0⟩ := ats1 hats
     obtain ⟨hk8, hvv⟩ : n0.k = 8 /\ v = n0.v := by
      rcases hcase with h | h | h | h | h | h | h | h | h | h | h | h | h | h <;> first | exact absurd h.1 zi | (obtain ⟨_, x, hx, h8, hv⟩ := h; simp only [List.cons.injEq, and_true] at hx; subst hx; exact ⟨h8, hv⟩)
     obtain ⟨g0, b0, tk0, p0, hxe, hF0, hFt0, hg0, htk0⟩ := at8 h0 hk8; simp only [Value.iface.injEq, Value.pointer.injEq, Option.some.injEq, Addr.mk.injEq, and_true, true_and] at hxe; subst hxe; exact c17g w FG hG hf1 hf2 hf3 gx 10 ty v t false c F hF [n0] [.mk (.iface 128 (ptr gk)) es] hats hk hlen 141 zi (fun w' hfr => (c29_10 w' gx b tk p ty c t gk b0 tk0 n0.v (hpF hfr (hF _ hF0) hg0) (hpF hfr hFg hgx) (hpF hfr hFb hb) (hpF hfr hFt htk) (hpF hfr hFp hp)).mono fun e w2 h => kidR h rfl rfl hvv.symm)
   | alias x0 =>
     rw [show kpT 17 = 168 from rfl]; rw [show ksT 17 = 169 from rfl] at hgx; obtain rfl : fl = false := hfl (by unfold keyK; decide); obtain ⟨es, rfl⟩ := map1 hvs.symm; obtain ⟨n0, rfl, h0⟩ := ats1 hats
     obtain ⟨hk8, hvv⟩ : n0.k = 8 /\ v = n0.t := by
      rcases hcase with h | h | h | h | h | h | h | h | h | h | h | h | h | h <;> first | exact absurd h.1 zi | (obtain ⟨_, x, hx, h8, hv⟩ := h; simp only [List.cons.injEq, and_true] at hx; subst hx; exact ⟨h8, hv⟩)
     obtain ⟨g0, b0, tk0, p0, hxe, hF0, hFt0, hg0, htk0⟩ := at8 h0 hk8; subst hxe; exact c17g w FG hG hf1 hf2 hf3 gx 17 ty v t false c F hF [n0] [.mk (.iface 128 (ptr g0)) es] hats hk hlen 168 zi (fun w' hfr => (c29_17 w' gx b tk p ty c t g0 b0 tk0 p0 n0.ty n0.v n0.t (hpF hfr (hF _ hF0) hg0) (hpF hfr (hF _ hFt0) htk0) (hpF hfr hFg hgx) (hpF hfr hFb hb) (hpF hfr hFt htk) (hpF hfr hFp hp)).mono fun e w2 h => kidR h rfl rfl hvv.symm)
   | anchor x0 x1 =>
     rw [show kpT 16 = 165 from rfl]; rw [show ksT 16 = 167 from rfl] at hgx; obtain rfl : fl = false := hfl (by unfold keyK; decide); obtain ⟨es, fs, rfl⟩ := map2 hvs.symm; obtain ⟨n0, n1, rfl, h0, h1⟩ := ats2 hats
     obtain ⟨hk8, hvv⟩ : n0.k = 8 /\ v = n0.t := by
      rcases hcase with h | h | h | h | h | h | h | h | h | h | h | h | h | h <;> first | exact absurd h.1 zi | (obtain ⟨_, x, y, hx, h8, hv, _⟩ := h; simp only [List.cons.injEq, and_true] at hx; obtain ⟨rfl, rfl⟩ := hx; exact ⟨h8, hv⟩)
     obtain ⟨g0, b0, tk0, p0, hxe, hF0, hFt0, hg0, htk0⟩ := at8 h0 hk8; subst hxe; obtain ⟨T1, g1, rfl⟩ := atI h1; exact c17g w FG hG hf1 hf2 hf3 gx 16 ty v t false c F hF [n0, n1] [.mk (.iface 128 (ptr g0)) es, .mk (.iface T1 (ptr g1)) fs] hats hk hlen 165 zi (fun w' hfr => (c29_16 w' gx b tk p ty c t g0 b0 tk0 p0 n0.ty n0.v n0.t (hpF hfr (hF _ hF0) hg0) (hpF hfr (hF _ hFt0) htk0) T1 g1 (hpF hfr hFg hgx) (hpF hfr hFb hb) (hpF hfr hFt htk) (hpF hfr hFp hp)).mono fun e w2 h => kidR h rfl rfl hvv.symm)
   | tag x0 =>
     rw [show kpT 19 = 147 from rfl]; rw [show ksT 19 = 149 from rfl] at hgx; obtain rfl : fl = false := hfl (by unfold keyK; decide); obtain ⟨es, rfl⟩ := map1 hvs.symm; obtain ⟨n0, rfl, h0⟩ := ats1 hats
     obtain rfl : v = t := by
      rcases hcase with h | h | h | h | h | h | h | h | h | h | h | h | h | h <;> first | exact absurd h.1 zi | exact h.2.1
     obtain ⟨T1, g1, rfl⟩ := atI h0; exact c17g w FG hG hf1 hf2 hf3 gx 19 ty v v false c F hF [n0] [.mk (.iface T1 (ptr g1)) es] hats hk hlen 147 zi (fun w' hfr => (c29_19 w' gx b tk p ty c v T1 g1 (hpF hfr hFg hgx) (hpF hfr hFb hb) (hpF hfr hFt htk) (hpF hfr hFp hp)).mono fun e w2 h => kidR h rfl rfl rfl)
   | pair x0 x1 =>
     rw [show kpT 13 = 157 from rfl]; rw [show ksT 13 = 164 from rfl] at hgx; obtain ⟨es, fs, rfl⟩ := map2 hvs.symm; obtain ⟨n0, n1, rfl, h0, h1⟩ := ats2 hats
     obtain rfl : v = ⟨#[]⟩ := by
      rcases hcase with h | h | h | h | h | h | h | h | h | h | h | h | h | h <;> first | exact absurd h.1 zi | exact h.2.1
     obtain ⟨T0, g0, rfl⟩ := atI h0; obtain ⟨T1, g1, rfl⟩ := atI h1; exact c17g w FG hG hf1 hf2 hf3 gx 13 ty ⟨#[]⟩ t fl c F hF [n0, n1] [.mk (.iface T0 (ptr g0)) es, .mk (.iface T1 (ptr g1)) fs] hats hk hlen 157 zi (fun w' hfr => (c29_13 w' gx b tk p ty c t T0 g0 T1 g1 fl (hpF hfr hFg hgx) (hpF hfr hFb hb) (hpF hfr hFt htk) (hpF hfr hFp hp)).mono fun e w2 h => kidR h rfl rfl rfl)
   | map ps s1 hs1 =>
     rw [show kpT 11 = 153 from rfl]; rw [show ksT 11 = 156 from rfl] at hgx
     obtain rfl : v = ⟨#[]⟩ := by
      rcases hcase with h | h | h | h | h | h | h | h | h | h | h | h | h | h <;> first | exact absurd h.1 zi | exact h.2.1
     have hpl : ps.length = kids.length := by have := congrArg List.length hvs; rw [List.length_map, List.length_map, hats.len] at this; exact this.symm
     exact c17g w FG hG hf1 hf2 hf3 gx 11 ty ⟨#[]⟩ t fl c F hF kids ds hats hk hlen 153 zi (fun w' hfr => (c29_11 w' gx b tk p ty c t fl s1 ps F (hs1.ext (fun _ h => h) fun k hk => hfr.block k (hF k hk) (fun h => h)) zo (hpF hfr hFg hgx) (hpF hfr hFb hb) (hpF hfr hFt htk) (hpF hfr hFp hp)).mono fun e w2 h => kidR h hpl.symm hvs rfl)
   | seq vs' s1 s2 hs1 hs2 =>
     rw [show kpT 14 = 93 from rfl]; rw [show ksT 14 = 99 from rfl] at hgx
     obtain rfl : v = ⟨#[]⟩ := by
      rcases hcase with h | h | h | h | h | h | h | h | h | h | h | h | h | h <;> first | exact absurd h.1 zi | exact h.2.1
     subst hvs; rw [List.length_map] at hs2
     refine Calls.mono (c17_14 w FG hG hf1 hf2 hf3 gx b tk p ty t fl c F hF kids ds hats hk hlen s1 s2 hgx hb htk hp hs1 hs2) fun e w2 h => ?_
     obtain ⟨z, h1, h2, h3⟩ := h; exact ⟨z, fun _ => h1, h2, h3⟩
theorem node_list : ∀ l : List N, N.oks True l -> N.cntl l <= 1000000 -> ∀ x ∈ l, NodeC x
 | [], _, _, x, hx => by cases hx
 | n :: l, hok, hcnt, x, hx => by
   rw [N.oks] at hok; rw [N.cntl] at hcnt
   rcases List.mem_cons.1 hx with h | h
   · rw [h]
     exact node_all n hok.1 zo
   · exact node_list l hok.2 zo x h
end
end
section
attribute [local irreducible] leT leH WO WX WC WD
theorem c31 (w : World) : Calls Tryz.prog 31 [.slice none 0 0, .slice none 0 0].toArray w (RetS (.sc (.va (.bool true))) w) := by
 refine calls_start 1000 Tryz.func31 rfl fun E hX hP hA hQ => ?_
 repeat' first
  | refine zA ?_ | apply zI <;> intro hdec | with_reducible constructor | refine zs0 ?_
 apply WC_loopF (ι := Unit) (fun _ => True) [14, 15, 5, 16, 17, 18, 19, 20, 21, 22, 23, 24, 4, 25, 13] (fun _ => [(13, .sc (.va (.int .i64 0)))]) (fun _ => 0) () trivial hX
 exact zq10; exact zq24; intro u hi E' hX' hA' hQ' J hJ; rw [hA] at hJ; refine zl ?_; intro hX hP hA hQ
 refine vc_ok 900 _ _ _ ?_
 repeat' first
  | refine zA ?_ | apply zI <;> intro hdec | with_reducible constructor | refine zs0 ?_
 all_goals first
  | (exfalso; omega) | exact zr42
theorem eqFs (c : Int) (w : World) : ∀ fs : List Field, fs.all (fun f => f.type == 3 && decide (f.offset < 5)) = true -> (Op.eqFields 9999 (posC c).toArray (posC c).toArray fs).run Tryz.prog w = .ok true w := by
 have h4 : szT Tryz.prog 3 = some (1, false) := zk
 have h5 : Tryz.prog.underlying 3 = some (.int .i64) := zk
 have hp : ∀ (i : Nat) (v : Int), (posC c)[i]? = some (.int .i64 v) -> (part 3 (posC c).toArray i).run Tryz.prog w = .ok (.int .i64 v) w := fun i v hv => by
  unfold part
  simp only [Sem.run_bind, run_isAgg' h4, Result.andThen_ok]
  simp [hv]
 have hv : ∀ i, i < 5 -> ∃ v, (posC c)[i]? = some (.int .i64 v) := fun i hi => by
  match i, hi with
  | 0, _ => exact ⟨_, rfl⟩
  | 1, _ => exact ⟨_, rfl⟩
  | 2, _ => exact ⟨_, rfl⟩
  | 3, _ => exact ⟨_, rfl⟩
  | 4, _ => exact ⟨_, rfl⟩
  | i + 5, hi => omega
 intro fs
 induction fs with
 | nil => intro _; simp [Op.eqFields]
 | cons f fs ih =>
   intro h; simp only [List.all_cons, Bool.and_eq_true, beq_iff_eq, decide_eq_true_eq] at h; obtain ⟨⟨ht, ho⟩, h⟩ := h; obtain ⟨v, hv⟩ := hv f.offset ho; have hq := hp _ _ hv
   have he : (Op.equalIn 9999 3 (.int .i64 v) (.int .i64 v)).run Tryz.prog w = .ok true w := by
    rw [run_equalIn_int w 9998 3 .i64 .i64 v v h5]
    simp
   unfold Op.eqFields
   split
   · simp only [ht, Sem.run_bind, hq, Result.andThen_ok, he, Bool.not_true, Bool.false_eq_true, if_false]
     exact ih h
   · exact ih h
theorem eq27 (c : Int) (w : World) : (Op.equalIn (9999 + 1) 27 (.agg (posC c).toArray) (.agg (posC c).toArray)).run Tryz.prog w = .ok true w := by
 have h1 : Tryz.prog.underlying 27 = some (.struct (Tryz.prog.fieldsOf 27)) := zk
 have h2 : Tryz.prog.stoodInHeld 27 = false := zk
 rw [run_equalIn_struct w 9999 27 _ _ h1 h2]; exact eqFs c w _ zk
theorem CL_eq {r : Nat -> Nat} {zs vs : List Value} (h : CL r (zs.map .va) vs) : vs = zs := by
 obtain ⟨hl, hc⟩ := h; rw [List.length_map] at hl
 refine List.ext_getElem? fun i => ?_
 by_cases hi : i < zs.length
 · have h1 := hc i (.va zs[i]) (by simp [List.getElem?_eq_getElem hi])
   have h2 := va_of (u := vs.getD i undef) h1
   have h3 : i < vs.length := by omega
   rw [List.getD_eq_getElem?_getD, List.getElem?_eq_getElem h3] at h2; rw [List.getElem?_eq_getElem hi, List.getElem?_eq_getElem h3]; exact congrArg some h2
 · rw [List.getElem?_eq_none zo, List.getElem?_eq_none zo]
theorem ag_va {r : Nat -> Nat} {zs : List Value} {u : Value} (h : (SV.ag (zs.map .va)).ok r u) : u = .agg zs.toArray := by
 obtain ⟨vs, h1, h2⟩ := h; rw [h1, CL_eq h2]
theorem LS_pos {E : En} {S : St} {dst : Option Tmp} {ty : TypeId} {pos : String} {after : Array Edge} {guard : Option (Nat × Bool)} {x y : Operand} (c : Int) (hP : E.X.P = Tryz.prog) (hx : ev S x = .ag ((posC c).map .va)) (hy : ev S y = .ag ((posC c).map .va)) :
 LS E S ⟨dst, .binOp .eql 27 x y 27, ty, pos, after, guard⟩ [] (fun _ : Unit => True) (fun _ => S.put dst (.sc (.va (.bool true)))) (fun _ => E.A) :=
 LS_yl fun a w r own hs => by
  have e1 := (ev_ok hs.toR x).1; have e2 := (ev_ok hs.toR y).1; rw [hx] at e1; rw [hy] at e2; replace e1 := ag_va e1; replace e2 := ag_va e2
  refine ⟨_, ok_va r _, trivial, ?_⟩
  rw [hP]
  have hm : Tryz.prog.eqGuardType Tryz.prog.depth 27 = false := zk
  have h3 := eq27 c w; simp only [execOp, e1, e2, Sem.run_bind, run_eqGuard_agg w _ 27 x y _ _ hm, Result.andThen_ok, run_eql_struct]
  simp [h3]
section
attribute [local irreducible] LS WS WQ
theorem c18 (w : World) (k ty c : Int) (t va vb : ByteArray) (fl : Bool) (ka kb : Option Addr) (n1 n2 m1 m2 : Nat) (hv : k ≠ 5 -> va = vb) :
 Calls Tryz.prog 18 [.agg (nodeC k ty va t t ⟨#[]⟩ fl false false 1 c c 0 0 ka n1 n2).toArray, .agg (nodeC k ty vb t t ⟨#[]⟩ fl false false 1 c c 0 0 kb m1 m2).toArray].toArray w (RetS (.sc (.va (.bool true))) w) := by
 refine calls_start 1000 Tryz.func18 rfl fun E hX hP hA hQ => ?_
 repeat' first
  | refine zC ?_ | apply zI <;> intro hdec | with_reducible constructor
  | (refine zcS 31 (.sc (.va (.bool true))) ?_ ?_
     · (intro a w r own hSim; simp only [go_sem]; with_reducible exact c31 _))
  | (refine WO_LE 850 (LS_pos c hP ?_ ?_) ?_
     · (simp only [go_sem, posC]; try rfl)
     · (simp only [go_sem, posC]; try rfl)
     intro _ _)
  | simp (maxSteps := 20000000) only [Tryz.f18, go_sem, zL, ↓reduceIte, reduceCtorEq, Nat.reduceAdd, Nat.reduceMul, Nat.reduceSub, Nat.reduceLeDiff, Nat.reduceEqDiff, Nat.reduceLT, Nat.reduceBEq, Int.reduceEq, hP, hX, nodeC, beq_self_eq_true, List.append_eq, List.cons_append, List.nil_append]
 all_goals try first
  | (exfalso; omega)
  | exact absurd (hv (by assumption)) (by assumption)
  | exact zr42
end
end
section
attribute [local irreducible] leT leH WO WX WC WD LS WS WQ
structure SN where
 k : Int
 ty : Int
 c : Int
 t : ByteArray
 va : ByteArray
 vb : ByteArray
 fl : Bool
 ka : Option Addr
 kb : Option Addr
 n1 : Nat
 n2 : Nat
 m1 : Nat
 m2 : Nat
def SN.a (s : SN) : List Value := nodeC s.k s.ty s.va s.t s.t ⟨#[]⟩ s.fl false false 1 s.c s.c 0 0 s.ka s.n1 s.n2
def SN.b (s : SN) : List Value := nodeC s.k s.ty s.vb s.t s.t ⟨#[]⟩ s.fl false false 1 s.c s.c 0 0 s.kb s.m1 s.m2
def SN.ok (s : SN) : Prop := s.k ≠ 5 -> s.va = s.vb
theorem c9z (w : World) (sa sb : Option Addr) (ca cb : Nat) : Calls Tryz.prog 9 [.slice sa 0 ca, .slice sb 0 cb].toArray w (RetS (.sc (.va (.bool true))) w) := by
 refine calls_start 1000 Tryz.func9 rfl fun E hX hP hA hQ => ?_
 repeat' first
  | refine zA ?_ | apply zI <;> intro hdec | with_reducible constructor | refine zs0 ?_
 apply WC_loopF (ι := Unit) (fun _ => True) [14, 15, 5, 16, 17, 18, 19, 20, 21, 22, 23, 24, 25, 4, 26, 13] (fun _ => [(13, .sc (.va (.int .i64 0)))]) (fun _ => 0) () trivial hX
 exact zq10; exact zq24; intro u hi E' hX' hA' hQ' J hJ; rw [hA] at hJ; refine zl ?_; intro hX hP hA hQ
 refine vc_ok 900 _ _ _ ?_
 repeat' first
  | refine zA ?_ | apply zI <;> intro hdec | with_reducible constructor | refine zs0 ?_
 all_goals first
  | (exfalso; omega) | exact zr42
theorem c9s (w : World) (ad bd : Addr) (n ca cb : Nat) (f : Nat -> SN) (hf : ∀ i, i < n -> (f i).ok) (hp : ∀ i, i < n -> ∀ j u, (f i).a[j]? = some u -> w.cell? ((ad.add (i * 19)).add j) = some u) (hq : ∀ i, i < n -> ∀ j u, (f i).b[j]? = some u -> w.cell? ((bd.add (i * 19)).add j) = some u) (hn : n <= 1000000) :
 Calls Tryz.prog 9 [.slice (some ad) n ca, .slice (some bd) n cb].toArray w (RetS (.sc (.va (.bool true))) w) := by
 refine calls_start 1000 Tryz.func9 rfl fun E hX hP hA hQ => ?_
 repeat' first
  | refine zA ?_ | apply zI <;> intro hdec | with_reducible constructor | refine zs0 ?_
 apply WC_loopF (ι := Nat) (fun i => i <= n) [14, 15, 5, 16, 17, 18, 19, 20, 21, 22, 23, 24, 25, 4, 26, 13] (fun i => [(13, .sc (.va (.int .i64 i)))]) (fun i => n - i) 0 (Nat.zero_le _) hX
 exact zq10; exact zq24; intro i hi E' hX' hA' hQ' J hJ; rw [hA] at hJ; refine zl ?_; intro hX hP hA hQ
 refine vc_ok 900 _ _ _ ?_
 repeat' first
  | refine zC ?_ | apply zI <;> intro hdec | with_reducible constructor
  | refine zu 6 sch9_6 [] ?_
  | (refine WS_rc 850 (ad.add (i * 19)) (nodeC (f i).k (f i).ty (f i).va (f i).t (f i).t ⟨#[]⟩ (f i).fl false false 1 (f i).c (f i).c 0 0 (f i).ka (f i).n1 (f i).n2) true hX ?_ rfl ?_ ?_ ?_ ?_ (fun h => by cases h) ?_; exact zq2; exact zq0; exact (hp i zo); exact zq8; exact sz31) | (refine WS_rc 850 (bd.add (i * 19)) (nodeC (f i).k (f i).ty (f i).vb (f i).t (f i).t ⟨#[]⟩ (f i).fl false false 1 (f i).c (f i).c 0 0 (f i).kb (f i).m1 (f i).m2) true hX ?_ rfl ?_ ?_ ?_ ?_ (fun h => by cases h) ?_; exact zq2; exact zq0; exact (hq i zo); exact zq8; exact sz31)
  | (refine zdS 18 (.sc (.va (.bool true))) ?_ ?_
     · (intro a w r own hSim; simp only [go_sem]; have hc9 := c18 w (f i).k (f i).ty (f i).c (f i).t (f i).va (f i).vb (f i).fl (f i).ka (f i).kb (f i).n1 (f i).n2 (f i).m1 (f i).m2 (hf i zo); simp only [nodeC] at hc9; with_reducible exact hc9))
  | exact zr72
  | simp (maxSteps := 20000000) only [Tryz.f9, go_sem, zL, ↓reduceIte, reduceCtorEq, Nat.reduceAdd, Nat.reduceMul, Nat.reduceSub, Nat.reduceLeDiff, Nat.reduceEqDiff, Nat.reduceLT, Nat.reduceBEq, Int.reduceEq, hP, hX, nodeC, Option.isSome_some, Int.toNat_natCast]
 all_goals first
  | omega | (exfalso; omega) | exact zr42 | (unfold I64; omega)
theorem c9 (w : World) (sa sb : Option Addr) (n ca cb : Nat) (f : Nat -> SN) (hf : ∀ i, i < n -> (f i).ok) (hp : ∀ i, i < n -> ∃ ad, sa = some ad /\ ∀ j u, (f i).a[j]? = some u -> w.cell? ((ad.add (i * 19)).add j) = some u) (hq : ∀ i, i < n -> ∃ ad, sb = some ad /\ ∀ j u, (f i).b[j]? = some u -> w.cell? ((ad.add (i * 19)).add j) = some u) (hn : n <= 1000000) :
 Calls Tryz.prog 9 [.slice sa n ca, .slice sb n cb].toArray w (RetS (.sc (.va (.bool true))) w) := by
 by_cases h0 : n = 0
 · subst h0
   exact c9z w sa sb ca cb
 · obtain ⟨ad, rfl, _⟩ := hp 0 zo
   obtain ⟨bd, rfl, _⟩ := hq 0 zo
   refine c9s w ad bd n ca cb f hf (fun i hi => ?_) (fun i hi => ?_) hn
   · obtain ⟨a, h1, h2⟩ := hp i hi
     cases h1
     exact h2
   · obtain ⟨a, h1, h2⟩ := hq i hi
     cases h1
     exact h2
end
section
attribute [local irreducible] leT leH
def PQ (P : Program) (fn : Func) (R : Ending -> World -> Prop) (e : Exit) (a : Act) (w : World) : Prop := match e with
 | .panic _ => False
 | .outgrown => False
 | e => bodyPostD P fn R e a w
theorem PQ_le {P : Program} {fn : Func} {R : Ending -> World -> Prop} {e : Exit} {a : Act} {w : World} (h : PQ P fn R e a w) : bodyPostD P fn R e a w := by
 cases e <;> first | exact h.elim | exact h
theorem PQ_panic {P : Program} {fn : Func} {R : Ending -> World -> Prop} {c : List PanicEntry} {a : Act} {w : World} {X : Prop} (h : PQ P fn R (.panic c) a w) : X := h.elim
theorem wp_le {P : Program} {c : Code} {Q Q' : Exit -> Act -> World -> Prop} {a : Act} {w : World} (h : c.wp P Q a w) (hq : ∀ e a w, Q e a w -> Q' e a w) : c.wp P Q' a w := by
 intro b k cs; obtain ⟨e, a', w', h1, h2⟩ := h b k cs; exact ⟨e, a', w', hq _ _ _ h1, h2⟩
theorem calls_startX {P : Program} {f : FuncId} {fn : Func} {c : Code} {args : List Value} {w : World} {R : Ending -> World -> Prop} (n : Nat)
 (hf : P.funcs[f]? = some fn) (hb : fn.body = some c) (h : ∀ E : En, E.X = ⟨P, w, fun _ => False, [], []⟩ -> E.X.P = P -> E.A = [] -> E.Q = PQ P fn R -> vc E n c .nil (start args (fn.ntmps - args.length))) : Calls P f args.toArray w R := by
 refine calls_of_wp_defers hf hb (wp_le (Q := PQ P fn R) ?_ fun e a w h => PQ_le h)
 replace h := h ⟨⟨P, w, fun _ => False, [], []⟩, [], PQ P fn R⟩ rfl rfl rfl rfl
 have hfr := frame_ok (vs := args) (svs := args.map argSV) (r := fun _ => 0) (b := 0) (k := fn.ntmps - args.length) zp (fun i s hi => by
  rw [List.getElem?_map] at hi
  cases hv : args[i]? with
  | none => simp [hv] at hi
  | some v =>
    simp only [hv, Option.map_some, Option.some.injEq] at hi; subst hi; rw [List.getD_eq_getElem?_getD, hv]; exact argSV_ok _ v)
 have := vc_ok n c .nil _ h { tmps := args.toArray ++ Array.replicate (fn.ntmps - args.length) undef, defers := [] } w (fun _ => 0) (fun _ => none)
  ⟨rfl, hfr.1, hfr.2.1, hfr.2.2, fun _ _ _ hm => (by cases hm), fun _ _ hm => (by cases hm), fun _ _ hk => (by cases hk), fun _ _ hk => (by cases hk), fun _ _ hk => (by cases hk), Frm.refl _ _, fun _ _ hm => (by cases hm)⟩
 simpa [kq] using this
def Idle (P : Program) (D : Deferred) : Prop := ∃ fv cap f args, D.target = .fn fv cap /\ (∀ w, (invoke D.target D.args).run P w = .ok (.enter f args) w) /\
 ∀ w, CallsD P f args .returning w fun e u' w' => e = .returned (.tuple #[]) /\ u' = .returning /\ w' = w
theorem WX_finX {E : En} {X : Cx} {fn : Func} {R : Ending -> World -> Prop} {e : Exit} {S : St} {D : Deferred} (hD : Idle X.P D) (hX : E.X = X) (hd : X.d = [D]) (hQ : E.Q = PQ X.P fn R) (he : e = .ret \/ e = .normal) (h : Fin E fn R S) : WX E e .nil S := by
 intro a w r own hs
 show E.Q e a w
 rw [hQ]
 unfold Fin at h
 split at h
 · rename_i ts ht
   have hres := results_run hs.toR ht h.1; rw [hX] at hres
   have hdf : a.defers = [D] := by rw [hs.dfr, hX, hd]
   obtain ⟨fv, cap, f, args, htar, hinv, hcall⟩ := hD
   have hl : Leaves X.P fn a.tmps R a.defers .returning w := by
    rw [hdf]
    refine ⟨zp, fv, cap, f, args, htar, hinv w, (hcall w).mono ?_⟩
    rintro e u' w'' ⟨rfl, rfl, rfl⟩; exact ⟨_, hres, h.2 a _ r own hs⟩
   rcases he with rfl | rfl
   exact hl; exact hl
 · exact h.elim
theorem kq_congr2 {E E' : En} (hP : E'.X.P = E.X.P) (hQ : E'.Q = E.Q) : ∀ k : Kt, kq E' k = kq E k
 | .nil => hQ
 | .sq c k => by simp only [kq, kq_congr2 hP hQ k, hP]
 | .bl id k => by simp only [kq, kq_congr2 hP hQ k]
 | .lp I k => by simp only [kq, kq_congr2 hP hQ k]
def dfr2 (f : FuncId) (g1 g2 : Nat) : Deferred := ⟨.fn (.func f) #[.pointer (some ⟨g1, 0, none⟩), .pointer (some ⟨g2, 0, none⟩)], #[]⟩
theorem WO_defer {E : En} {ops : List Oper} {k : Kt} {S : St} {X : Cx} (n : Nat) {f : FuncId} {n1 n2 : Nat} {d1 : Tmp} {x y : Operand} {t1 t2 : TypeId} {p1 p2 : String} {a1 a2 : Array Edge} {ats : Array TypeId} (hX : E.X = X) (hd : X.d = []) (hlt : d1 < S.t.length)
 (hx : ev S x = .sc (.pt n1 0)) (hy : ev S y = .sc (.pt n2 0))
 (h : ∀ g1 g2 (E' : En), E'.X = { X with d := [dfr2 f g1 g2] } -> E'.A = E.A -> E'.Q = E.Q -> vl E' n ops [] k (S.put (some d1) (.sc .un))) :
 WO E ops ⟨some d1, .makeFunc (.func f) #[] #[x, y], t1, p1, a1, none⟩ [⟨none, .defer { callee := .value (.tmp d1), args := #[], argTypes := ats }, t2, p2, a2, none⟩] k S := by
 intro a w r own hs; have e1 := pt_of (hx ▸ (ev_ok hs.toR x).1); have e2 := pt_of (hy ▸ (ev_ok hs.toR y).1); have h1 := vl_ok n ops [] k _ (h (r n1) (r n2) ⟨{ X with d := [dfr2 f (r n1) (r n2)] }, E.A, E.Q⟩ rfl rfl rfl); have hp := hs.put (some d1) (sv := .sc .un) (u := .func (.func f) #[] #[.pointer (some ⟨r n1, 0, none⟩), .pointer (some ⟨r n2, 0, none⟩)]) (.inl rfl) trivial; subst hX
 have hs2 : Sim { E.X with d := [dfr2 f (r n1) (r n2)] } (S.put (some d1) (.sc .un)) E.A { (a.put (some d1) (.func (.func f) #[] #[.pointer (some ⟨r n1, 0, none⟩), .pointer (some ⟨r n2, 0, none⟩)])) with defers := [dfr2 f (r n1) (r n2)] } w r own :=
  ⟨rfl, hp.sz, hp.slot, hp.slt, hp.heap, hp.fact, hp.bnd, hp.nms, hp.fas, hp.frm, hp.rts⟩
 have h2 := h1 _ _ _ _ hs2; rw [kq_congr2 (E := E) (E' := ⟨{ E.X with d := [dfr2 f (r n1) (r n2)] }, E.A, E.Q⟩) rfl rfl k] at h2
 have hdf : a.defers = [] := by rw [hs.dfr, hd]
 have hsz := hs.sz
 have hx1 : (execOp a.eval ⟨some d1, .makeFunc (.func f) #[] #[x, y], t1, p1, a1, none⟩).run E.X.P w = .ok (.value (.func (.func f) #[] #[.pointer (some ⟨r n1, 0, none⟩), .pointer (some ⟨r n2, 0, none⟩)])) w := by
  simp only [execOp, List.map_toArray, List.map_cons, List.map_nil, e1, e2, Array.map_empty]; rfl
 have hv : (a.put (some d1) (.func (.func f) #[] #[.pointer (some ⟨r n1, 0, none⟩), .pointer (some ⟨r n2, 0, none⟩)])).eval (.tmp d1) = .func (.func f) #[] #[.pointer (some ⟨r n1, 0, none⟩), .pointer (some ⟨r n2, 0, none⟩)] := by
  simp [Act.eval, Act.put, hsz, hlt]
 have hx2 : (execOp (a.put (some d1) (.func (.func f) #[] #[.pointer (some ⟨r n1, 0, none⟩), .pointer (some ⟨r n2, 0, none⟩)])).eval ⟨none, .defer { callee := .value (.tmp d1), args := #[], argTypes := ats }, t2, p2, a2, none⟩).run E.X.P w = .ok (.defer (dfr2 f (r n1) (r n2))) w := by
  simp [execOp, resolve, hv, Deferred.ofValue, dfr2]
 unfold Oper.wp
 rw [hx1]
 show wpList _ _ _ _ (a.put _ _) w
 unfold wpList
 rw [if_pos (by simp [Region.wanted])]
 left
 unfold Oper.wp
 rw [hx2]; have hd2 : (a.put (some d1) (.func (.func f) #[] #[.pointer (some ⟨r n1, 0, none⟩), .pointer (some ⟨r n2, 0, none⟩)])).defers = [] := hdf
 show wpList _ _ _ _ { (a.put _ _) with defers := dfr2 f (r n1) (r n2) :: (a.put (some d1) _).defers } w
 rw [hd2]; exact h2
theorem LS_rowstoreN {E : En} {S : St} {o : Oper} {P : Program} {t : TypeId} {x v : Operand} {g q e size n cap : Nat} {b : Bool} (j : Nat) (xs us ys : List Value) (hP : E.X.P = P) (ho : o.op = .store t x v) (hx : ev S x = .sc (.va (.pointer (some ⟨g, q, none⟩))))
 (hj : (j, Row e size (.slice (some ⟨g, 0, none⟩) n cap) n xs) ∈ E.A) (hv : cellsOf (ev S v) = some (us.map .va)) (hsz : szT P t = some (us.length, b)) (hq : q + us.length <= n * size) (hys : xs.take q ++ us ++ xs.drop (q + us.length) = ys) :
 LS E S o [] (fun _ : Unit => True) (fun _ => S.putM o.dst undefSV) (fun _ => (S.m, Row e size (.slice (some ⟨g, 0, none⟩) n cap) n ys) :: outF [j] E.A) := by
 intro a w r own hs K Q hK; subst hP; have he := (ev_ok hs.toR x).1; rw [hx] at he; have hp := va_of he; obtain ⟨he2, hl2⟩ := ev_ok hs.toR v; obtain ⟨vs, hvv, hcl, _, h1⟩ := cellsOf_ok hv he2 hl2; have hvs : vs = us := CL_eq hcl; subst hvs; obtain ⟨_, hown, hF, hone⟩ := hs.fact j _ hj; have hF2 : own g = some (.fa j) := (hF g).2 rfl; obtain ⟨hxl, hc⟩ := hown
 rcases hc with ⟨h0, _⟩ | ⟨g', cap', cur, hg', _, hb, hnc, hcm, hcs, htk⟩
 · simp at h0
 simp only [Value.slice.injEq, Option.some.injEq, Addr.mk.injEq, and_true] at hg'; obtain ⟨rfl, -, rfl⟩ := hg'; have hnsz : n * size <= cap * size := Nat.mul_le_mul_right _ hnc
 have hcl' : cur.toList.length = cap * size := by simpa using hcs
 have hst := run_storeCells_at (P := E.X.P) g q e vs 0 cur w hb (by simp; omega) h1; simp only [Nat.add_zero] at hst
 have hsz' : (w.setRow g (cur.toList.take q ++ vs ++ cur.toList.drop (q + vs.length)).toArray).heap.size = w.heap.size := by simp
 have hfr : Frm (fun k => ∃ j' ∈ [j], own k = some (.fa j')) w (w.setRow g (cur.toList.take q ++ vs ++ cur.toList.drop (q + vs.length)).toArray) :=
  ⟨rfl, rfl, rfl, by rw [hsz']; exact Nat.le_refl _, fun k hk hno => setRow_other w g k _ (fun e => hno ⟨j, zp, e ▸ hF2⟩)⟩
 have hcut : (cur.toList.take q ++ vs ++ cur.toList.drop (q + vs.length)).take (n * size) = ys := by
  rw [<- hys, <- htk, List.append_assoc, List.append_assoc, List.take_append, List.take_append, List.take_take, List.take_take]
  have hl1 : (cur.toList.take q).length = q := by simp; omega
  rw [hl1, Nat.min_eq_right zo, Nat.min_eq_left zo, List.take_of_length_le (l := vs) zo, List.drop_take]
  congr 3
  omega
 have hlen : (cur.toList.take q ++ vs ++ cur.toList.drop (q + vs.length)).length = cap * size := by
  simp only [List.length_append, List.length_take, List.length_drop]; omega
 have hyl : ys.length = n * size := by
  rw [<- hcut, List.length_take, hlen]; omega
 have h2 := hs.trade [j] (B := Row e size (.slice (some ⟨g, 0, none⟩) n cap) n ys) (F := fun k => k = g) hfr ⟨⟨hyl, .inr ⟨g, cap, _, rfl, Nat.zero_le _, setRow_heap w g cur _ e (0, 0) hb, hnc, hcm, by simpa using hlen, by simpa using hcut⟩⟩, fun k => by simp [Value.ownBlock, eq_comm], fun u hu => by
  rw [<- hys] at hu; simp only [List.mem_append] at hu
  rcases hu with (hu | hu) | hu
  exact hone u (List.mem_of_mem_take hu); exact h1 u hu
  · exact hone u (List.mem_of_mem_drop hu)⟩ (fun k hk => .inl ⟨j, zp, hk ▸ hF2⟩)
 have hr : Res E.X.P o a w (a.put o.dst undef) (w.setRow g (cur.toList.take q ++ vs ++ cur.toList.drop (q + vs.length)).toArray) := by
  refine ⟨_, ?_, .inr ⟨rfl, rfl⟩⟩
  simp only [List.append_assoc] at hst
  simp [execOp, ho, hp, Instr.storeAt, Instr.sureAddr, storeVar, run_sizeOf' hsz, hvv]
  try simp at hst
  rw [hst]; rfl
 exact hr.wp (hK () trivial _ _ r _ (h2.put o.dst (ok_va r undef) trivial) (.same (put_h ..).1 (put_h ..).2 hfr.size fun n t cs hm _ => hfr.block _ (hs.bnd _ _ (hs.heap n t cs hm).2.2.1).1 (fun ⟨j, _, hj⟩ => by
  rw [(hs.heap n t cs hm).2.2.1] at hj; cases hj)))
theorem c14 (p q : Value) (w : World) : CallsD Tryz.prog 14 #[p, q] .returning w fun e u' w' => e = .returned (.tuple #[]) /\ u' = .returning /\ w' = w := by
 refine callsD_of_wpS Tryz.func14 rfl fun c₀ cs hu => ?_
 apply wpS_seq
 apply wpS_region
 simp [wpOpsS, go_sem, recoverD, hu, Tryz.ntmps14, Exit.thenS]
 refine wpS_cond (t := false) (by simp [Act.eval, Array.replicate]) ?_
 simp only [Bool.false_eq_true, if_false]
 refine wpS_of_wp (wp_skip ?_)
 cases c₀
 simp_all [bodyPostS, results, Tryz.results14]
theorem idle14 (g1 g2 : Nat) : Idle Tryz.prog (dfr2 14 g1 g2) :=
 ⟨_, _, 14, #[.pointer (some ⟨g1, 0, none⟩), .pointer (some ⟨g2, 0, none⟩)], rfl, fun w => by simp [go_sem, dfr2, invoke], fun w => c14 _ _ w⟩
