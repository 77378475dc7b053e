/- Lemmas for FnFilterTree; each condition stands in its statement. -/
import Derived.Test.YtbfenkhnfflpnaaGreatDoorGcs
namespace Go.Proofs.YtbfenkhnfflpnaaGreatDoor.Sx
open Go Go.RowKit
set_option maxRecDepth 100000
set_option maxHeartbeats 40000000
set_option linter.all false
section
attribute [local irreducible] leT leH WO WX WC WD LS WS
theorem Gl.fresh {X : Cx} {S : St} {A : Facts} {a : Act} {w : World} {r : Nat -> Nat} {own : Nat -> Option Ent} {F : Nat -> Prop} (h : Gl X.w0 F) (hs : Sim X S A a w r own) (hM : ∀ k, F k -> ¬ X.M k) {n t : Nat} {cs : List Cl} (hm : (n, t, cs) ∈ S.h) : ¬ F (r n) := fun hf => by
 rcases (hs.bnd _ _ (hs.heap n t cs hm).2.2.1).2 with h1 | h1
 exact absurd (h.lt _ hf) (Nat.not_lt.2 h1); exact hM _ hf h1
theorem log2_rng {p : Int} (h1 : -348 <= p) (h2 : p <= 347) : -1157 <= log2 p /\ log2 p <= 1153 := by unfold log2; omega
theorem c156 (w : World) (F : Nat -> Prop) (hG : Gl w F) (d p sg : Int) (hdU : U64 d) (h1 : -348 <= p) (h2 : p <= 347) : Calls Tryz.prog 156 [.int .u64 d, .int .i64 p, .int .u64 sg].toArray w (RF w) := by
 refine calls_start 1000 Tryz.func156 rfl ?_
 intro E hX hP hA hQ; have hlp := log2_rng h1 h2
 repeat' first
  | refine zA ?_ | apply zI <;> intro hdec | with_reducible constructor
  | (refine zc0 (α := Int) 125 (fun x : Int => .sc (.va (.int .i64 x))) (fun n => 0 <= n /\ n <= 64 /\ lenOk n d) ?_ ?_
     · (intro a w r own hSim; simp only [go_sem]; with_reducible exact c125 _ hdU _)
     intro b ⟨hb0, hb1, _⟩)
  | (refine zcS 163 (.sc (.va (.int .i64 (log2 p)))) ?_ ?_
     · (intro a w r own hSim; simp only [go_sem]; with_reducible exact c163 _ zo zo _))
  | (refine WO_LS 850 (LS_callM (α := Int × Int) (f := 162) (cs := [.va (.int .u64 0), .va (.int .u64 0), .va (.int .i64 0)]) 0 308 [] (fun _ => .tu []) (fun x => U64 x.1 /\ U64 x.2) (fun _ => Asn.emp) (fun x => psC x.1 x.2 (0 - (imin 1074 (53 - b - log2 p) - (64 - b) + log2 p + 3))) hP ?_ ?_ ?_ ?_ ?_ ?_ ?_) ?_
     rfl; exact zq1; exact zq33; exact zq0; exact zq15; exact zq14
     · (intro a w r own hSim; rw [hX] at hSim; simp only [go_sem]; have hb := hSim.blk (n := 0) (t := 308) (cs := psC 0 0 0) zm; (with_reducible refine (c162 w F (r 0) (imin 1074 (53 - b - log2 p) - (64 - b)) p (log2 p) (hG.of hSim (fun _ _ h => h)) (hG.fresh hSim (fun _ _ h => h) zm) hb zo zo (by unfold imin; split <;> omega) (by unfold imin; split <;> omega) zo zo).mono fun e w' hr => ?_); exact RetN.weak hr fun k hk => hk.elim)
     rintro ⟨a1, a2⟩ ⟨ha1, ha2⟩ E2 h1 h2 h3; refine zz ?_; intro hX hP hA hQ)
  | (refine zc0 (α := Int) 164 (fun x : Int => .sc (.va (.int .u64 x))) (U64) ?_ ?_
     · (intro a w r own hSim; simp only [go_sem]; rw [hX] at hSim; have hbk := hSim.blk (n := 0) (t := 308) (cs := psC a1 a2 (0 - (imin 1074 (53 - b - log2 p) - (64 - b) + log2 p + 3))) zm; with_reducible exact c164 _ _ _ _ _ _ (wrapU64_rng _) hbk)
     intro u hu)
  | (refine zc0 (α := Int) 169 (fun x : Int => .sc (.va (.int .u64 x))) (U64) ?_ ?_
     · (intro a w r own hSim; simp only [go_sem]; with_reducible exact c169 _ (by unfold U64; omega) _)
     intro m hm)
  | (refine zr109 ?_; intro b1 hb1)
  | (refine zc0 (α := Int) 168 (fun x : Int => .sc (.va (.int .u64 x))) (U64) ?_ ?_
     · (intro a w r own hSim; simp only [go_sem]; with_reducible exact c168 _ (wrapU64_rng _) _)
     intro m hm)
  | (apply WO_call0 (α := Nat × Value) (f := 192) 900 (fun x : Nat × Value => .tu [.sc (.va (.float .f64 x.1)), .sc (.va x.2)]) (fun x => errV x.2) hP
     rfl; exact zq1; exact zq35; exact zq0
     · (intro a w r own hSim; simp only [go_sem]; with_reducible exact c192 _ _ (wrapU64_rng _) (by unfold imin; split <;> omega) (by unfold imin; split <;> omega) _)
     intro ⟨f1, e1⟩ he1)
  | (refine zr40 ?_; intro fb _) | refine zs20 ?_
 all_goals try first
  | omega | (unfold I64 imin; split <;> omega) | (unfold I64; omega) | (intro a w' r own hs'; exact ⟨(_, .nilIface), .inl rfl, ⟨_, rfl, fun r => tu2v _ _⟩, hs'.frm⟩) | (intro a w' r own hs'; exact ⟨(_, _), he1, ⟨_, rfl, fun r => tu2v _ _⟩, hs'.frm⟩)
theorem us224 : (Tryz.prog.underlying 224).isSome = true := zk
theorem c155 (w : World) (F : Nat -> Prop) (hG : Gl w F) (m p : Int) (ng : Bool) (hm : U64 m) (h1 : -22 <= p) (h2 : p <= 0) : Calls Tryz.prog 155 [.int .u64 m, .int .i64 p, .bool ng].toArray w (Ret0 (fun x : Nat × Bool => .tu [.sc (.va (.float .f64 x.1)), .sc (.va (.bool x.2))]) (fun _ => True) w) := by
 refine calls_start 1000 Tryz.func155 rfl ?_
 obtain ⟨_, bq, oq, cq, hq1, hq2, hq3⟩ := hG.f10; obtain ⟨vq, hvq⟩ := hq3 ((0 - p).toNat * 1) zo; intro E hX hP hA hQ
 repeat' first
  | refine zA ?_ | apply zI <;> intro hdec | with_reducible constructor | (refine WO_LE 850 (LS_rc (⟨6, 0, none⟩) [.int .u64 52] false hX ?_ ?_ ?_ ?_ (fun _ => rfl)) ?_; exact zq0; exact one_cell hG.inf.2.1; exact zq8; exact sz35; intro _ _) | (refine WO_LE 850 (LS_rc (⟨9, 0, none⟩) [.slice (some ⟨bq, oq, none⟩) 23 cq] false hX ?_ ?_ ?_ ?_ (fun _ => rfl)) ?_; exact zq0; exact one_cell hq2; exact zq8; exact sz332; intro _ _) | (refine WO_LE 850 (LS_rc (⟨bq, oq + (0 - p).toNat * 1, none⟩) [.float .f64 vq] false hX ?_ ?_ ?_ ?_ (fun _ => rfl)) ?_; exact zq0; exact one_cell hvq; exact zq8; exact sz68; intro _ _) | (refine WO_LE 850 (LS_i2f .f64 .u64 hP us224 un68 ?_) ?_; exact zq0; intro vf _) | (refine WO_LE 850 (LS_fneg .f64 ?_) ?_; exact zq0; intro vf _) | (refine WO_LE 850 (LS_fari .f64 ?_ ?_ ?_) ?_; exact zq0; exact zq0; rfl; intro vf _)
  | (refine WO_LE 850 (LS_fcmp .f64 ?_ ?_ ?_) ?_
     exact zq0; exact zq0; rfl; intro vb _
     cases vb)
  | (cases ng)
  | simp (maxSteps := 20000000) only [Tryz.f155, go_sem, zL, ↓reduceIte, reduceCtorEq, Nat.reduceAdd, Nat.reduceMul, Nat.reduceSub, Nat.reduceLeDiff, Nat.reduceEqDiff, Nat.reduceLT, Nat.reduceBEq, Int.reduceEq, hP, hX, addr_add, Option.isSome_some]
 all_goals try first
  | omega | (unfold I64; omega) | (intro a w' r own hs'; exact ⟨(_, _), trivial, ⟨_, rfl, fun r => tu2v _ _⟩, hs'.frm⟩)
theorem tuv {r : Nat -> Nat} (us : List Value) : (SV.tu (us.map fun u => .sc (.va u))).ok r (.tuple us.toArray) :=
 ⟨us, rfl, zp, fun i t ht => by
  rw [List.getElem?_map] at ht; obtain ⟨u, hu, rfl⟩ := Option.map_eq_some_iff.1 ht
  refine .inr ?_
  rw [List.getD_eq_getElem?_getD, hu]
  rfl⟩
theorem tulv (us : List Value) : (SV.tu (us.map fun u => .sc (.va u))).lt 0 := fun t ht => by
 obtain ⟨u, _, rfl⟩ := List.mem_map.1 ht; exact True.intro
theorem c187 (x : Int) (w : World) : Calls Tryz.prog 187 [.int .i64 x].toArray w (Ret0 (fun x : Nat => .sc (.va (.float .f64 x))) (fun x => True) w) := by
 refine calls_start 1000 Tryz.func187 rfl fun E hX hP hA hQ => ?_
 repeat' first
  | refine zA ?_ | apply zI <;> intro hdec | with_reducible constructor | (refine zr40 ?_; intro fb _) | refine zs0 ?_
 all_goals first
  | omega | exact zr20
theorem c188  (w : World) : Calls Tryz.prog 188 [].toArray w (Ret0 (fun x : Nat => .sc (.va (.float .f64 x))) (fun x => True) w) := by
 refine calls_start 1000 Tryz.func188 rfl fun E hX hP hA hQ => ?_
 repeat' first
  | refine zA ?_ | apply zI <;> intro hdec | with_reducible constructor | (refine zr40 ?_; intro fb _) | refine zs0 ?_
 all_goals first
  | omega | exact zr20
theorem imin_le (x y : Int) : imin x y <= x /\ imin x y <= y /\ (imin x y = x \/ imin x y = y) := by unfold imin; split <;> omega
theorem c186 (s p : ByteArray) (hs : s.size <= 2147483647) (hp : p.size <= 2147483647) (w : World) : Calls Tryz.prog 186 [.string s, .string p].toArray w (Ret0 (fun x : Int => .sc (.va (.int .i64 x))) (fun x => 0 <= x /\ x <= p.size /\ x <= s.size) w) := by
 have hmn := imin_le p.size s.size
 refine calls_start 1000 Tryz.func186 rfl fun E hX hP hA hQ => ?_
 repeat' first
  | refine zA ?_ | apply zI <;> intro hdec | with_reducible constructor | refine zs0 ?_
 apply WC_loopF (ι := Nat) (fun i => (i : Int) <= imin p.size s.size) [13, 14, 15, 18, 19, 20, 7, 21, 22, 23, 24, 25, 26, 27, 28, 29, 30, 31, 32, 33, 34, 4, 16, 17, 6] (fun i => [(6, .sc (.va (.int .i64 i)))]) (fun i => (imin p.size s.size).toNat - i) 0 zo hX
 exact zq10; exact zq24; intro i hi E' hX' hA' hQ' J hJ; rw [hA] at hJ; refine zl ?_; intro hX hP hA hQ
 refine vc_ok 900 _ _ _ ?_
 repeat' first
  | refine zA ?_ | apply zI <;> intro hdec | with_reducible constructor | exact zr72 | refine zs0 ?_
 all_goals try first
  | omega | (unfold I64; omega) | (intro a w' r own hs'; exact ⟨_, zo, ⟨_, rfl, fun r => .inr rfl⟩, hs'.frm⟩)
theorem c186w (s p : ByteArray) (hs : s.size <= 2147483647) (hp : p.size <= 9) (w : World) : Calls Tryz.prog 186 [.string s, .string p].toArray w (Ret0 (fun x : Int => .sc (.va (.int .i64 x))) (fun x => 0 <= x /\ x <= 9) w) :=
 (c186 s p hs zo w).mono fun e w' h => by
   obtain ⟨x, h1, h2, h3⟩ := h; exact ⟨x, zo, h2, h3⟩
theorem c144 (s : ByteArray) (hs : s.size <= 2147483647) (w : World) : Calls Tryz.prog 144 [.string s].toArray w (Ret0 (fun x : Nat × Int × Bool => .tu [.sc (.va (.float .f64 x.1)), .sc (.va (.int .i64 x.2.1)), .sc (.va (.bool x.2.2))]) (fun x => 0 <= x.2.1 /\ x.2.1 <= 10) w) := by
 refine calls_start 1000 Tryz.func144 rfl fun E hX hP hA hQ => ?_
 repeat' first
  | refine zA ?_ | apply zI <;> intro hdec | with_reducible constructor
  | (refine zc0 (α := Int) 186 (fun x : Int => .sc (.va (.int .i64 x))) (fun x => 0 <= x /\ x <= 9) ?_ ?_
     · (intro a w r own hSim; simp only [go_sem]; first | with_reducible exact c186w _ _ hs zi _ | with_reducible exact c186w _ _ (by simp only [ByteArray.size_extract]; omega) zi _)
     intro n1 hn1)
  | (refine zc0 (α := Nat) 187 (fun x : Nat => .sc (.va (.float .f64 x))) (fun _ => True) ?_ ?_
     · (intro a w r own hSim; simp only [go_sem]; with_reducible exact c187 _ _)
     intro f1 _)
  | (refine zc0 (α := Nat) 188 (fun x : Nat => .sc (.va (.float .f64 x))) (fun _ => True) ?_ ?_
     · (intro a w r own hSim; simp only [go_sem]; with_reducible exact c188 _)
     intro f1 _)
  | refine zs0 ?_
 all_goals try first
  | omega | (unfold I64; omega) | exact zr24 | (intro a w' r own hs'; refine ⟨(_, _, _), ?_, ⟨_, rfl, fun r => tuv [_, _, _]⟩, hs'.frm⟩; dsimp only; omega)
end
section
attribute [local irreducible] leT leH
structure Nz where
 j : Nat
 n : N
 ka : Option Addr
 kc : Nat
def Nz.cells (y : Nz) : List Value := y.n.cells y.ka y.kc
def Nz.nw (y : Nz) : Nw := (some y.j, nvals y.n.k y.n.ty y.n.v y.n.t y.n.fl y.n.c, .slice y.ka y.n.kids.length y.kc, N.gs y.n.kids)
theorem Nz.g (y : Nz) : y.nw.g = y.n.g := by
 obtain ⟨j, ⟨k, ty, v, t, fl, c, kids⟩, ka, kc⟩ := y; rfl
theorem Nz.cells_nw (y : Nz) : y.nw.cells = y.cells := by
 obtain ⟨j, ⟨k, ty, v, t, fl, c, kids⟩, ka, kc⟩ := y; rfl
theorem fm_someN : ∀ (ys : List Nz), (ys.map Nz.nw).filterMap (·.1) = ys.map Nz.j
 | [] => rfl
 | y :: ys => by
   rw [List.map_cons, List.filterMap_cons, List.map_cons, <- fm_someN ys]; rfl
theorem nz_cells (ys : List Nz) : (ys.map Nz.nw).map Nw.cells = ys.map Nz.cells := by
 rw [List.map_map]; exact List.map_congr_left fun y _ => y.cells_nw
theorem nz_g (ys : List Nz) : (ys.map Nz.nw).map Nw.g = N.gs (ys.map Nz.n) := by
 rw [ngs_map, List.map_map, List.map_map]; exact List.map_congr_left fun y _ => y.g
def Nz.ok (A : Facts) (j : Nat) (y : Nz) : Prop := y.j ≠ j /\ (y.j, Trs 31 19 (.slice y.ka y.n.kids.length y.kc) (N.gs y.n.kids)) ∈ A
theorem Nz.nw_ok {A : Facts} {j : Nat} {ys : List Nz} (hy : ∀ y ∈ ys, y.ok A j) : ∀ y ∈ ys.map Nz.nw, y.ok A 31 19 j := fun y hy' => by
 obtain ⟨z, hz, rfl⟩ := List.mem_map.1 hy'; exact ⟨rfl, (hy z hz).1, (hy z hz).2⟩
section
variable {E : En} {S : St} {c : Call} {dst : Option Tmp} {ty : TypeId} {pos : String} {after : Array Edge} {guard : Option (Nat × Bool)}
theorem LS_appendN {P : Program} {s x : Operand} (j : Nat) (ka : Option Addr) (kc : Nat) (l : List N) (ys : List Nz) (hP : E.X.P = P) (hc : c = { callee := .builtin .append, args := #[s, x], argTypes := #[29, 29] })
 (hT : rowT P 29 31 19 248 = true) (hv : ev S s = .sc (.va (.slice ka l.length kc))) (hj : (j, Trs 31 19 (.slice ka l.length kc) (N.gs l)) ∈ E.A) (hn : News E S x ys.length (ys.map Nz.cells).flatten)
 (hy : ∀ y ∈ ys, y.ok E.A j) (hm : l.length + ys.length <= 2147483648) :
 LS E S ⟨dst, .call c, ty, pos, after, guard⟩ [] (fun _ : Option Addr × Nat => True) (fun z => S.putM dst (.sc (.va (.slice z.1 (l ++ ys.map Nz.n).length z.2)))) (fun z => (S.m, Trs 31 19 (.slice z.1 (l ++ ys.map Nz.n).length z.2) (N.gs (l ++ ys.map Nz.n))) :: outF (j :: ys.map Nz.j) E.A) := by
 refine LS.map (LS_appendG (size := 19) (e := 31) (bytes := 248) j (.slice ka l.length kc) (N.gs l) (ys.map Nz.nw) hP hc hT hv hj (by rw [nz_cells, List.length_map]; exact hn) (Nz.nw_ok hy) (by rw [ngs_len, List.length_map]; exact hm) zi) ?_
 rintro v' ⟨a, cp, rfl, _⟩
 refine ⟨(a, cp), trivial, ?_, ?_⟩
 · simp only [ngs_len, List.length_map, List.length_append]
 · simp only [ngs_len, List.length_map, List.length_append, nz_g, ngs_append, fm_someN]
end
theorem Sim.boxN {X : Cx} {S : St} {A : Facts} {a : Act} {w : World} {r : Nat -> Nat} {own : Nat -> Option Ent} (hs : Sim X S A a w r own) {jb g : Nat} (ys : List Nz) (hj : (jb, Blk g 31 (ys.map Nz.cells).flatten) ∈ A) (hy : ∀ y ∈ ys, y.ok A jb) (hn : ys.length <= 1000) :
 ∃ own', Sim X { S with m := S.m + 1 } ((S.m, Trs 31 19 (.slice (some ⟨g, 0, none⟩) ys.length ys.length) (N.gs (ys.map Nz.n))) :: outF (jb :: ys.map Nz.j) A) a w r own' := by
 have h := hs.box (jb := jb) (g := g) (e := 31) (size := 19) (ys.map Nz.nw) (by rw [nz_cells]; exact hj) (Nz.nw_ok hy) (by rw [List.length_map]; exact hn); rw [nz_g, fm_someN, List.length_map] at h; exact h
theorem WO_weak {E : En} {k : Kt} {S : St} {ops l : List Oper} {o : Oper} (S' : St) (A' : Facts) (hw : ∀ a w r own, Sim E.X S E.A a w r own -> ∃ own', Sim E.X S' A' a w r own') (h : ∀ E' : En, E'.X = E.X -> E'.A = A' -> E'.Q = E.Q -> WO E' ops o l k S') : WO E ops o l k S := by
 intro a w r own hs; obtain ⟨own', hs'⟩ := hw a w r own hs; have := h ⟨E.X, A', E.Q⟩ rfl rfl rfl a w r own' hs'
 rwa [kq_congr (E := E) (E' := ⟨E.X, A', E.Q⟩) rfl rfl] at this
def bd : Nat -> Int
 | 0 => 2
 | d + 1 => 10 * bd d
theorem bd_pos : ∀ d, 2 <= bd d
 | 0 => by decide
 | d + 1 => by have := bd_pos d; simp only [bd]; omega
def MkC (d : Nat) (s : Int) (P : T -> Prop) : Prop := ∀ (w : World) (g : Nat) (col : Int) (t : T) (ka : Option Addr) (kc : Nat) (F : Nat -> Prop) (q : Prop),
 w.heap[g]? = some (.cells [.int .i64 1, .int .i64 col].toArray 65 (0, 0)) -> 1 <= col -> col + bd d <= 1000000 + s -> GS w 24 6 F (.slice ka t.kids.length kc) (T.gs t.kids) -> (∀ k, F k -> k < w.heap.size /\ k ≠ g) -> t.good d -> (q -> t.noPlus) -> P t ->
 Calls Tryz.prog 21 [.pointer (some ⟨g, 0, none⟩), .agg (treeC t.k t.v t.an t.tg t.st ka t.kids.length kc).toArray].toArray w
  (RetN NO.res (fun x => x.n.ok q /\ (t.k = 1 -> keyK x.n.k) /\ x.n.k ≠ 13 /\ col + x.n.cnt <= x.col /\ x.col <= col + bd d - s) NO.trs g 65 NO.cs (fun _ => False) w)
theorem noPlus_kid : ∀ {l : List T} {t : T}, T.noPlus.pls l -> t ∈ l -> t.noPlus
 | x :: l, t, h, hm => by
   rcases List.mem_cons.1 hm with rfl | hm
   exact h.1; exact noPlus_kid h.2 hm
attribute [go_sem] Nz.cells
end
section
attribute [local irreducible] leT leH WO WX WC WD LS WS
def sch42_10b : Sch := tkN [0] <| .take 1 (some [0]) <| tkN [2] <| .take 3 (some [0]) <| .one 4 <| .one 5 <| .one 6 <| tkN [7] <| .one 8 <| .done
attribute [go_sem] sch42_10b
def sch42_21b : Sch := .take 0 (some [0]) <| tkN [1, 2] <| .take 3 (some [0]) <| tkN [4, 5, 6] <| .take 7 (some [0]) <| .one 8 <| .one 9 <| tkN [10] <| .one 11 <| .done
attribute [go_sem] sch42_21b
theorem c39_x (w : World) (a b : Int) (c : ByteArray) (p1 p2 p3 p4 p5 : Int) (h : ¬ (a = 8 \/ a = 19)) : Calls Tryz.prog 39 [.int .i64 a, .int .i64 b, .string c, .agg [.int .i64 p1, .int .i64 p2, .int .i64 p3, .int .i64 p4, .int .i64 p5].toArray].toArray w
 (RetS (.ag ((nodeC a b ⟨#[]⟩ c c ⟨#[]⟩ false false false p1 p2 p3 p4 p5 none 0 0).map .va)) w) := by
 have h' := c39 w a b c p1 p2 p3 p4 p5; rw [if_neg h] at h'; exact h'
structure KN where
 kids : List N
 ka : Option Addr
 kc : Nat
 col : Int
theorem notG {g : Nat} {F : Nat -> Prop} {w : World} (h : ∀ k, F k -> k < w.heap.size /\ k ≠ g) {ad : Addr} {i : Nat} (hf : F ad.block) : ¬ (fun k => k ∈ [g]) (ad.add i).block := by
 rw [add_block]; exact fun hm => (h _ hf).2 (by simpa using hm)
theorem GS.ofG {w0 : World} {g : Nat} {F : Nat -> Prop} {S : St} {A : Facts} {a : Act} {w : World} {r : Nat -> Nat} {own : Nat -> Option Ent} (hs : Sim ⟨Tryz.prog, w0, fun k => k ∈ [g], [], rtOf 0 [g]⟩ S A a w r own)
 (hfm : ∀ k, F k -> k < w0.heap.size /\ k ≠ g) {e size : Nat} {v : Value} {l : List G} (h : GS w0 e size F v l) : GS w e size F v l :=
 h.ext (fun _ h => h) fun k hk => hs.frm.block k (hfm k hk).1 fun hm => (hfm k hk).2 (by simpa using hm)
theorem FofG {w0 : World} {g : Nat} {F : Nat -> Prop} {S : St} {A : Facts} {a : Act} {w : World} {r : Nat -> Nat} {own : Nat -> Option Ent} (hs : Sim ⟨Tryz.prog, w0, fun k => k ∈ [g], [], rtOf 0 [g]⟩ S A a w r own)
 (hfm : ∀ k, F k -> k < w0.heap.size /\ k ≠ g) : ∀ k, F k -> k < w.heap.size /\ k ≠ r 0 := fun k hk => by
 have hr := (hs.rts 0 g (List.mem_singleton_self _)).2; exact ⟨Nat.lt_of_lt_of_le (hfm k hk).1 hs.frm.size, by rw [hr]; exact (hfm k hk).2⟩
theorem oks_snoc {q : Prop} : ∀ {l : List N} {n : N}, N.oks q l -> n.ok q -> N.oks q (l ++ [n])
 | [], n, _, h => ⟨h, trivial⟩
 | x :: l, n, h, h' => ⟨h.1, oks_snoc h.2 h'⟩
theorem len_mul (n : Nat) (b : Int) : ((n + 1 : Nat) : Int) * b = n * b + b := by
 rw [Int.natCast_add, Int.add_mul]
 simp
attribute [go_sem] N.cells
theorem c42_2 (d : Nat) (hN : MkC d 0 (fun _ => True)) (w : World) (g : Nat) (col st : Int) (v an tg : ByteArray) (ka : Option Addr) (kc : Nat) (l : List T) (F : Nat -> Prop) (q : Prop) (hc1 : 1 <= col) (hc2 : col + 10 * bd d <= 1000003) (hg : w.heap[g]? = some (.cells [.int .i64 1, .int .i64 col].toArray 65 (0, 0)))
 (hgs : GS w 24 6 F (.slice ka l.length kc) (T.gs l)) (hF : ∀ k, F k -> k < w.heap.size /\ k ≠ g) (hl6 : l.length <= 6) (hgood : ∀ t ∈ l, T.good d t) (hq : q -> T.noPlus.pls l) :
 Calls Tryz.prog 42 [.pointer (some ⟨g, 0, none⟩), .agg (treeC 2 v an tg st ka l.length kc).toArray].toArray w
  (RetN NO.res (fun x => x.n.ok q /\ x.n.k ≠ 13 /\ col + x.n.cnt <= x.col /\ x.col <= col + 1 + 6 * bd d) NO.trs g 65 NO.cs (fun _ => False) w) := by
 have hh := HpOk_one hg rfl; have hbd := bd_pos d; have hm := Int.tmod_lt_of_pos (col - 1) (show (0 : Int) < 200 by decide); have hm0 := Int.tmod_nonneg (200 : Int) (show (0 : Int) <= col - 1 by omega); obtain ⟨A, cp, e1, e2, e3⟩ := kid_at hgs
 cases e1
 refine calls_startG 1000 [g] [(0, 65, [.va (.int .i64 1), .va (.int .i64 col)])] [.sc (.pt 0 0), .ag ((treeC 2 v an tg st ka l.length kc).map .va)] Tryz.func42 rfl ⟨⟨rfl, rfl⟩, ⟨rfl, rfl⟩, trivial⟩ zp hh fun E hX hP hA hQ => ?_
 repeat' first
  | refine zA ?_ | apply zI <;> intro hdec | with_reducible constructor | (refine zr43 ?_; rintro - - E2 h1 h2 h3; refine zz ?_; intro hX hP hA hQ)
  | (refine zcS 39 (.ag [.va (.int .i64 14), .va (.int .i64 3), .va (.string ⟨#[]⟩), .va (.string ⟨#[45]⟩), .va (.string ⟨#[45]⟩), .va (.string ⟨#[]⟩), .va (.bool false), .va (.bool false), .va (.bool false), .va (.int .i64 1), .va (.int .i64 (1 + (col - 1).tmod 200)), .va (.int .i64 (1 + (col - 1).tmod 200)), .va (.int .i64 0), .va (.int .i64 0), .va (.slice none 0 0), .va (.slice none 0 0), .va (.slice none 0 0), .va (.slice none 0 0), .va (.slice none 0 0)]) ?_ ?_
     · (intro a w r own hSim; simp only [go_sem]; have hc := c39_x w 14 3 ⟨#[45]⟩ 1 (1 + (col - 1).tmod 200) (1 + (col - 1).tmod 200) 0 0 zi; simp only [nodeC, List.map_cons, List.map_nil] at hc; with_reducible exact hc))
  | simp (maxSteps := 20000000) only [Tryz.f42, go_sem, zL, ↓reduceIte, reduceCtorEq, Nat.reduceAdd, Nat.reduceMul, Nat.reduceSub, Nat.reduceLeDiff, Nat.reduceEqDiff, Nat.reduceLT, Nat.reduceBEq, Int.reduceEq, hP, hX, treeC, nodeC, Int.toNat_natCast]
 all_goals try (unfold I64; omega)
 all_goals first
  | (with_reducible show WC _ _ _ ⟨_, [_, _, _, (3, 31, [_, .va (.int .i64 3), _, _, _, _, _, _, _, _, _, _, _, _, _, _, _, _, _])], _, _⟩
     apply WC_addE (Trs 31 19 (.slice none ([] : List N).length 0) (N.gs [])) (fun w => GS.nil)
     intro E2 h1 h2 h3; dsimp only; refine zz ?_; intro hX hP hA hQ
     apply WC_loopG (ι := KN) (fun x => x.kids.length <= l.length /\ N.oks q x.kids /\ (∀ y ∈ x.kids, y.k ≠ 13) /\ col + 1 + N.cntl x.kids <= x.col /\ x.col <= col + 1 + x.kids.length * bd d) [32, 33, 34, 8, 35, 36, 37, 38, 39, 40, 41, 42, 43, 31] (fun x => [(31, .sc (.va (.int .i64 x.kids.length)))]) (fun x => [(0, 65, [.va (.int .i64 1), .va (.int .i64 x.col)]), (2, 31, [.va (.int .i64 0), .va (.int .i64 0), .va (.string ⟨#[]⟩), .va (.string ⟨#[]⟩), .va (.string ⟨#[]⟩), .va (.string ⟨#[]⟩), .va (.bool false), .va (.bool false), .va (.bool false), .va (.int .i64 0), .va (.int .i64 0), .va (.int .i64 0), .va (.int .i64 0), .va (.int .i64 0), .va (.slice none 0 0), .va (.slice none 0 0), .va (.slice none 0 0), .va (.slice none 0 0), .va (.slice none 0 0)]), (3, 31, [.va (.int .i64 14), .va (.int .i64 3), .va (.string ⟨#[]⟩), .va (.string ⟨#[45]⟩), .va (.string ⟨#[45]⟩), .va (.string ⟨#[]⟩), .va (.bool false), .va (.bool false), .va (.bool false), .va (.int .i64 1), .va (.int .i64 (1 + (col - 1).tmod 200)), .va (.int .i64 (1 + (col - 1).tmod 200)), .va (.int .i64 0), .va (.int .i64 0), .va (.slice none 0 0), .va (.slice none 0 0), .va (.slice none 0 0), .va (.slice none 0 0), .va (.slice x.ka x.kids.length x.kc)])]) (fun x => [(1, Trs 31 19 (.slice x.ka x.kids.length x.kc) (N.gs x.kids))]) (fun x => 7 - x.kids.length) ⟨[], none, 0, col + 1⟩ ⟨Nat.zero_le _, trivial, (fun y hy => by cases hy), (by simp [N.cntl]), zp⟩ [(1, 1)] hX
     exact zq10; exact zq5; exact zq7; exact zq5; rfl; rfl; rfl; exact zq4; rintro ⟨kids, ka0, kc0, col0⟩ ⟨hlen, hoks, hk13, hcl, hcu⟩ E' hX' hA' hQ' J hJ; refine zl ?_; intro hX hP hA hQ
     refine vc_ok 900 _ _ _ ?_)
  | (with_reducible show WC _ _ _ ⟨_, [_, _, _, (3, 31, [_, .va (.int .i64 8), _, _, _, _, _, _, _, _, _, _, _, _, _, _, _, _, _])], _, _⟩
     apply WC_addE (Trs 31 19 (.slice none ([] : List N).length 0) (N.gs [])) (fun w => GS.nil)
     intro E2 h1 h2 h3; dsimp only; refine zz ?_; intro hX hP hA hQ
     apply WC_loopG (ι := KN) (fun x => x.kids.length <= l.length /\ N.oks q x.kids /\ (∀ y ∈ x.kids, y.k ≠ 13) /\ col + 1 + N.cntl x.kids <= x.col /\ x.col <= col + 1 + x.kids.length * bd d) [32, 33, 34, 8, 35, 36, 37, 38, 39, 40, 41, 42, 43, 31] (fun x => [(31, .sc (.va (.int .i64 x.kids.length)))]) (fun x => [(0, 65, [.va (.int .i64 1), .va (.int .i64 x.col)]), (2, 31, [.va (.int .i64 0), .va (.int .i64 0), .va (.string ⟨#[]⟩), .va (.string ⟨#[]⟩), .va (.string ⟨#[]⟩), .va (.string ⟨#[]⟩), .va (.bool false), .va (.bool false), .va (.bool false), .va (.int .i64 0), .va (.int .i64 0), .va (.int .i64 0), .va (.int .i64 0), .va (.int .i64 0), .va (.slice none 0 0), .va (.slice none 0 0), .va (.slice none 0 0), .va (.slice none 0 0), .va (.slice none 0 0)]), (3, 31, [.va (.int .i64 14), .va (.int .i64 8), .va (.string ⟨#[]⟩), .va (.string ⟨#[91]⟩), .va (.string ⟨#[91]⟩), .va (.string ⟨#[]⟩), .va (.bool true), .va (.bool false), .va (.bool false), .va (.int .i64 1), .va (.int .i64 (1 + (col - 1).tmod 200)), .va (.int .i64 (1 + (col - 1).tmod 200)), .va (.int .i64 0), .va (.int .i64 0), .va (.slice none 0 0), .va (.slice none 0 0), .va (.slice none 0 0), .va (.slice none 0 0), .va (.slice x.ka x.kids.length x.kc)])]) (fun x => [(1, Trs 31 19 (.slice x.ka x.kids.length x.kc) (N.gs x.kids))]) (fun x => 7 - x.kids.length) ⟨[], none, 0, col + 1⟩ ⟨Nat.zero_le _, trivial, (fun y hy => by cases hy), (by simp [N.cntl]), zp⟩ [(1, 1)] hX
     exact zq10; exact zq5; exact zq7; exact zq5; rfl; rfl; rfl; exact zq4; rintro ⟨kids, ka0, kc0, col0⟩ ⟨hlen, hoks, hk13, hcl, hcu⟩ E' hX' hA' hQ' J hJ; refine zl ?_; intro hX hP hA hQ
     refine vc_ok 900 _ _ _ ?_)
 all_goals simp only at hlen hoks hk13 hcl hcu hA
 all_goals by_cases hlt : kids.length < l.length
 · obtain ⟨A, rfl⟩ : ∃ A, ka = some A := by
    rcases e2 with e2 | e2
    · rw [e2] at hlt; simp at hlt
    · exact zq48
   obtain ⟨hF1, ka1, kc1, hcell, hgs1⟩ := e3 kids.length l[kids.length] (List.getElem?_eq_getElem hlt); have htm : l[kids.length] ∈ l := List.getElem_mem hlt
   generalize l[kids.length] = tk at hcell hgs1 htm
   rw [Option.getD_some] at hF1 hcell; have hmul : (kids.length : Int) * bd d <= 5 * bd d := Int.mul_le_mul_of_nonneg_right zo zo; have hmul0 : 0 <= (kids.length : Int) * bd d := Int.mul_nonneg zo zo; have hlm := len_mul kids.length (bd d)
   repeat' first
    | refine zA ?_ | apply zI <;> intro hdec | with_reducible constructor
    | (with_reducible show WC _ (.region 10 _ _) _ _
       apply WC_drawn 900 sch42_10b [8] [(0, [4, 8])] hP
       exact zq1; exact zq2; exact zq1)
    | (refine zr106 ?_; intro _ _) | (refine zr78 ?_; rintro ⟨n2, ka2, kc2, col2⟩ ⟨hok2, hkk2, hne2, hlo2, hup2⟩ E2 h1 h2 h3; simp only at hok2 hkk2 hne2 hlo2 hup2; refine zz ?_; intro hX hP hA hQ) | (refine zr101 ?_; rintro ⟨a', cp'⟩ - E2 h1 h2 h3; refine zz ?_; intro hX hP hA hQ) | exact zr81
    | simp (maxSteps := 20000000) only [Tryz.f42, go_sem, zL, ↓reduceIte, reduceCtorEq, Nat.reduceAdd, Nat.reduceMul, Nat.reduceSub, Nat.reduceLeDiff, Nat.reduceEqDiff, Nat.reduceLT, Nat.reduceBEq, Int.reduceEq, hP, hX, treeC, nodeC, Int.toNat_natCast]
   all_goals try first
    | omega | rfl | (unfold I64; omega) | exact zr86
 · have hmul : (kids.length : Int) * bd d <= 6 * bd d := Int.mul_le_mul_of_nonneg_right zo zo
   repeat' first
    | refine zA ?_ | apply zI <;> intro hdec | with_reducible constructor
    | simp (maxSteps := 20000000) only [Tryz.f42, go_sem, zL, ↓reduceIte, reduceCtorEq, Nat.reduceAdd, Nat.reduceMul, Nat.reduceSub, Nat.reduceLeDiff, Nat.reduceEqDiff, Nat.reduceLT, Nat.reduceBEq, Int.reduceEq, hP, hX, treeC, nodeC, Int.toNat_natCast]
   all_goals try first
    | omega | rfl | (unfold I64; omega) | exact zr86
 · obtain ⟨A, rfl⟩ : ∃ A, ka = some A := by
    rcases e2 with e2 | e2
    · rw [e2] at hlt; simp at hlt
    · exact zq48
   obtain ⟨hF1, ka1, kc1, hcell, hgs1⟩ := e3 kids.length l[kids.length] (List.getElem?_eq_getElem hlt); have htm : l[kids.length] ∈ l := List.getElem_mem hlt
   generalize l[kids.length] = tk at hcell hgs1 htm
   rw [Option.getD_some] at hF1 hcell; have hmul : (kids.length : Int) * bd d <= 5 * bd d := Int.mul_le_mul_of_nonneg_right zo zo; have hmul0 : 0 <= (kids.length : Int) * bd d := Int.mul_nonneg zo zo; have hlm := len_mul kids.length (bd d)
   repeat' first
    | refine zA ?_ | apply zI <;> intro hdec | with_reducible constructor
    | (with_reducible show WC _ (.region 10 _ _) _ _
       apply WC_drawn 900 sch42_10b [8] [(0, [4, 8])] hP
       exact zq1; exact zq2; exact zq1)
    | (refine zr106 ?_; intro _ _) | (refine zr78 ?_; rintro ⟨n2, ka2, kc2, col2⟩ ⟨hok2, hkk2, hne2, hlo2, hup2⟩ E2 h1 h2 h3; simp only at hok2 hkk2 hne2 hlo2 hup2; refine zz ?_; intro hX hP hA hQ) | (refine zr101 ?_; rintro ⟨a', cp'⟩ - E2 h1 h2 h3; refine zz ?_; intro hX hP hA hQ) | exact zr81
    | simp (maxSteps := 20000000) only [Tryz.f42, go_sem, zL, ↓reduceIte, reduceCtorEq, Nat.reduceAdd, Nat.reduceMul, Nat.reduceSub, Nat.reduceLeDiff, Nat.reduceEqDiff, Nat.reduceLT, Nat.reduceBEq, Int.reduceEq, hP, hX, treeC, nodeC, Int.toNat_natCast]
   all_goals try first
    | omega | rfl | (unfold I64; omega) | exact zr84
 · have hmul : (kids.length : Int) * bd d <= 6 * bd d := Int.mul_le_mul_of_nonneg_right zo zo
   repeat' first
    | refine zA ?_ | apply zI <;> intro hdec | with_reducible constructor
    | simp (maxSteps := 20000000) only [Tryz.f42, go_sem, zL, ↓reduceIte, reduceCtorEq, Nat.reduceAdd, Nat.reduceMul, Nat.reduceSub, Nat.reduceLeDiff, Nat.reduceEqDiff, Nat.reduceLT, Nat.reduceBEq, Int.reduceEq, hP, hX, treeC, nodeC, Int.toNat_natCast]
   all_goals try first
    | omega | rfl | (unfold I64; omega) | exact zr84
theorem modC {c : Int} (h : 1 <= c) : 1 <= 1 + (c - 1).tmod 200 /\ 1 + (c - 1).tmod 200 <= 200 := by
 have h1 := Int.tmod_lt_of_pos (c - 1) (show (0 : Int) < 200 by decide); have h2 := Int.tmod_nonneg (200 : Int) (show (0 : Int) <= c - 1 by omega); omega
theorem ok_pair {q : Prop} {ty : Int} {t : ByteArray} {fl : Bool} {c : Int} {a b : N} (hc : 1 <= c) (ha : a.ok q) (hb : b.ok q) (hk : keyK a.k) (h13 : b.k ≠ 13) : N.ok q (.mk 13 ty ⟨#[]⟩ t fl (1 + (c - 1).tmod 200) [a, b]) :=
 ⟨(modC hc).1, (modC hc).2, ⟨ha, hb, trivial⟩, .inr (.inr (.inr (.inr (.inr (.inr (.inr (.inr (.inr (.inr (.inr (.inr (.inr ⟨rfl, rfl, a, b, rfl, hk, h13⟩)))))))))))), fun h => absurd rfl h.2.1⟩
theorem c42_3 (d : Nat) (hN : MkC d 0 (fun _ => True)) (w : World) (g : Nat) (col st : Int) (v an tg : ByteArray) (ka : Option Addr) (kc : Nat) (l : List T) (F : Nat -> Prop) (q : Prop) (hc1 : 1 <= col) (hc2 : col + 10 * bd d <= 1000003) (hg : w.heap[g]? = some (.cells [.int .i64 1, .int .i64 col].toArray 65 (0, 0)))
 (hgs : GS w 24 6 F (.slice ka l.length kc) (T.gs l)) (hF : ∀ k, F k -> k < w.heap.size /\ k ≠ g) (hl6 : l.length <= 6) (hgood : ∀ t ∈ l, T.good d t) (hq : q -> T.noPlus.pls l) (hev : l.length % 2 = 0) (hkey : ∀ i t, l[2 * i]? = some t -> t.k = 1) :
 Calls Tryz.prog 42 [.pointer (some ⟨g, 0, none⟩), .agg (treeC 3 v an tg st ka l.length kc).toArray].toArray w
  (RetN NO.res (fun x => x.n.ok q /\ x.n.k ≠ 13 /\ col + x.n.cnt <= x.col /\ x.col <= col + 4 + 6 * bd d) NO.trs g 65 NO.cs (fun _ => False) w) := by
 have hh := HpOk_one hg rfl; have hbd := bd_pos d; have hm := modC hc1; obtain ⟨A, cp, e1, e2, e3⟩ := kid_at hgs
 cases e1
 refine calls_startG 1000 [g] [(0, 65, [.va (.int .i64 1), .va (.int .i64 col)])] [.sc (.pt 0 0), .ag ((treeC 3 v an tg st ka l.length kc).map .va)] Tryz.func42 rfl ⟨⟨rfl, rfl⟩, ⟨rfl, rfl⟩, trivial⟩ zp hh fun E hX hP hA hQ => ?_
 repeat' first
  | refine zA ?_ | apply zI <;> intro hdec | with_reducible constructor | (refine zr43 ?_; rintro - - E2 h1 h2 h3; refine zz ?_; intro hX hP hA hQ)
  | (refine zcS 39 (.ag [.va (.int .i64 11), .va (.int .i64 10), .va (.string ⟨#[]⟩), .va (.string ⟨#[123]⟩), .va (.string ⟨#[123]⟩), .va (.string ⟨#[]⟩), .va (.bool false), .va (.bool false), .va (.bool false), .va (.int .i64 1), .va (.int .i64 (1 + (col - 1).tmod 200)), .va (.int .i64 (1 + (col - 1).tmod 200)), .va (.int .i64 0), .va (.int .i64 0), .va (.slice none 0 0), .va (.slice none 0 0), .va (.slice none 0 0), .va (.slice none 0 0), .va (.slice none 0 0)]) ?_ ?_
     · (intro a w r own hSim; simp only [go_sem]; have hc := c39_x w 11 10 ⟨#[123]⟩ 1 (1 + (col - 1).tmod 200) (1 + (col - 1).tmod 200) 0 0 zi; simp only [nodeC, List.map_cons, List.map_nil] at hc; with_reducible exact hc))
  | simp (maxSteps := 20000000) only [Tryz.f42, go_sem, zL, ↓reduceIte, reduceCtorEq, Nat.reduceAdd, Nat.reduceMul, Nat.reduceSub, Nat.reduceLeDiff, Nat.reduceEqDiff, Nat.reduceLT, Nat.reduceBEq, Int.reduceEq, hP, hX, treeC, nodeC, Int.toNat_natCast, Int.toNat_natCast_add_one]
 all_goals try (unfold I64; omega)
 all_goals first
  | (with_reducible show WC _ _ _ ⟨_, [_, _, _, (3, 31, [_, _, _, _, _, _, .va (.bool (decide (st = 2))), _, _, _, _, _, _, _, _, _, _, _, _])], _, _⟩
     apply WC_addE (Trs 31 19 (.slice none ([] : List N).length 0) (N.gs [])) (fun w => GS.nil)
     intro E2 h1 h2 h3; dsimp only; refine zz ?_; intro hX hP hA hQ
     apply WC_loopG (ι := KN) (fun x => 2 * x.kids.length <= l.length /\ N.oks q x.kids /\ (∀ y ∈ x.kids, y.k = 13) /\ col + 1 + N.cntl x.kids <= x.col /\ x.col <= col + 1 + x.kids.length * (2 * bd d + 1)) [50, 51, 52, 53, 54, 55, 58, 59, 60, 61, 62, 63, 64, 11, 65, 66, 67, 12, 68, 69, 70, 71, 72, 73, 74, 75, 76, 77, 78, 79, 80, 81, 82, 83, 84, 85, 86, 56, 57, 10] (fun x => [(10, .sc (.va (.int .i64 ((2 * x.kids.length : Nat) : Int))))]) (fun x => [(0, 65, [.va (.int .i64 1), .va (.int .i64 x.col)]), (1, 24, [.va (.int .i64 3), .va (.string v), .va (.string an), .va (.string tg), .va (.int .i64 st), .va (.slice ka l.length kc)]), (2, 31, [.va (.int .i64 0), .va (.int .i64 0), .va (.string ⟨#[]⟩), .va (.string ⟨#[]⟩), .va (.string ⟨#[]⟩), .va (.string ⟨#[]⟩), .va (.bool false), .va (.bool false), .va (.bool false), .va (.int .i64 0), .va (.int .i64 0), .va (.int .i64 0), .va (.int .i64 0), .va (.int .i64 0), .va (.slice none 0 0), .va (.slice none 0 0), .va (.slice none 0 0), .va (.slice none 0 0), .va (.slice none 0 0)]), (3, 31, [.va (.int .i64 11), .va (.int .i64 10), .va (.string ⟨#[]⟩), .va (.string ⟨#[123]⟩), .va (.string ⟨#[123]⟩), .va (.string ⟨#[]⟩), .va (.bool (decide (st = 2))), .va (.bool false), .va (.bool false), .va (.int .i64 1), .va (.int .i64 (1 + (col - 1).tmod 200)), .va (.int .i64 (1 + (col - 1).tmod 200)), .va (.int .i64 0), .va (.int .i64 0), .va (.slice none 0 0), .va (.slice none 0 0), .va (.slice none 0 0), .va (.slice none 0 0), .va (.slice x.ka x.kids.length x.kc)])]) (fun x => [(1, Trs 31 19 (.slice x.ka x.kids.length x.kc) (N.gs x.kids))]) (fun x => 7 - x.kids.length) ⟨[], none, 0, col + 1⟩ ⟨Nat.zero_le _, trivial, (fun y hy => by cases hy), (by simp [N.cntl]), zp⟩ [(1, 1)] hX
     exact zq10; exact zq5; exact zq7; exact zq5; rfl; rfl; rfl; exact zq4; rintro ⟨kids, ka0, kc0, col0⟩ ⟨hlen, hoks, hk13, hcl, hcu⟩ E' hX' hA' hQ' J hJ; refine zl ?_; intro hX hP hA hQ
     refine vc_ok 900 _ _ _ ?_)
 all_goals simp only at hlen hoks hk13 hcl hcu hA
 all_goals by_cases hlt : 2 * kids.length + 1 < l.length
 · obtain ⟨A, rfl⟩ : ∃ A, ka = some A := by
    rcases e2 with e2 | e2
    · rw [e2] at hlt; simp at hlt
    · exact zq48
   have hlt0 : 2 * kids.length < l.length := by omega
   obtain ⟨hF1, ka1, kc1, hcell, hgs1⟩ := e3 (2 * kids.length) l[2 * kids.length] (List.getElem?_eq_getElem hlt0); obtain ⟨hF4, ka4, kc4, hcell4, hgs4⟩ := e3 (2 * kids.length + 1) l[2 * kids.length + 1] (List.getElem?_eq_getElem hlt); have htm : l[2 * kids.length] ∈ l := List.getElem_mem hlt0; have htm4 : l[2 * kids.length + 1] ∈ l := List.getElem_mem hlt; have hk1 := hkey kids.length l[2 * kids.length] (List.getElem?_eq_getElem hlt0)
   generalize l[2 * kids.length] = tk at hcell hgs1 htm hk1
   generalize l[2 * kids.length + 1] = tv at hcell4 hgs4 htm4
   rw [Option.getD_some] at hF1 hcell hcell4; have hmul : (kids.length : Int) * (2 * bd d + 1) <= 2 * (2 * bd d + 1) := Int.mul_le_mul_of_nonneg_right zo zo; have hmul0 : 0 <= (kids.length : Int) * (2 * bd d + 1) := Int.mul_nonneg zo zo; have hlm := len_mul kids.length (2 * bd d + 1)
   repeat' first
    | refine zA ?_ | apply zI <;> intro hdec | with_reducible constructor
    | (with_reducible show WC _ (.region 21 _ _) _ _
       apply WC_drawn 900 sch42_21b [11] [(0, [8, 11])] hP
       exact zq1; exact zq2; exact zq1)
    | (refine WO_LE 850 (LS_rc (A.add (2 * kids.length * 6)) (treeC tk.k tk.v tk.an tk.tg tk.st ka1 tk.kids.length kc1) true hX ?_ ?_ ?_ ?_ (fun h => by cases h)) ?_; exact zq0; exact hcell; exact notG hF hF1; exact sz24; intro _ _) | (refine WS_rc 850 (A.add ((2 * kids.length + 1) * 6)) (treeC tv.k tv.v tv.an tv.tg tv.st ka4 tv.kids.length kc4) true hX ?_ rfl ?_ ?_ ?_ ?_ (fun h => by cases h) ?_; exact zq2; exact zq0; exact hcell4; exact notG hF hF4; exact sz24)
    | (refine WO_LS 850 (LS_callM (α := NO) (f := 21) (cs := [.va (.int .i64 1), .va (.int .i64 col0)]) 0 65 [] NO.res (fun x => x.n.ok q /\ (tk.k = 1 -> keyK x.n.k) /\ x.n.k ≠ 13 /\ col0 + x.n.cnt <= x.col /\ x.col <= col0 + bd d - 0) NO.trs NO.cs hP ?_ ?_ ?_ ?_ ?_ ?_ ?_) ?_
       rfl; exact zq1; exact zq30; exact zq0; exact zq15; exact zq14; exact zq82; rintro ⟨n2, ka2, kc2, col2⟩ ⟨hok2, hkk2, hne2, hlo2, hup2⟩ E2 h1 h2 h3
       simp only at hok2 hkk2 hne2 hlo2 hup2
       refine zz ?_; intro hX hP hA hQ)
    | (refine WO_LS 850 (LS_callM (α := Unit) (f := 40) (cs := [.va (.int .i64 1), .va (.int .i64 col2)]) 0 65 [] (fun _ => .ag [.va (.int .i64 1), .va (.int .i64 (1 + (col2 - 1).tmod 200)), .va (.int .i64 (1 + (col2 - 1).tmod 200)), .va (.int .i64 0), .va (.int .i64 0)]) (fun _ => True) (fun _ => Asn.emp) (fun _ => [.int .i64 1, .int .i64 (col2 + 1)]) hP ?_ ?_ ?_ ?_ ?_ ?_ ?_) ?_
       rfl; exact zq1; exact zq32; exact zq0; exact zq15; exact zq14
       · (intro a w r own hSim; simp only [go_sem]; have hc := c40 w (r 0) 1 (col2) zo zo (hSim.blk (cs := [.int .i64 1, .int .i64 (col2)]) zm); simp only [placeC] at hc; (with_reducible refine hc.mono fun e w' hr => ?_); exact RetN.weak hr fun k hk => hk.elim)
       rintro - - E2 h1 h2 h3; refine zz ?_; intro hX hP hA hQ)
    | (refine zcS 39 (.ag [.va (.int .i64 13), .va (.int .i64 5), .va (.string ⟨#[]⟩), .va (.string ⟨#[58]⟩), .va (.string ⟨#[58]⟩), .va (.string ⟨#[]⟩), .va (.bool false), .va (.bool false), .va (.bool false), .va (.int .i64 1), .va (.int .i64 (1 + (col2 - 1).tmod 200)), .va (.int .i64 (1 + (col2 - 1).tmod 200)), .va (.int .i64 0), .va (.int .i64 0), .va (.slice none 0 0), .va (.slice none 0 0), .va (.slice none 0 0), .va (.slice none 0 0), .va (.slice none 0 0)]) ?_ ?_
       · (intro a w r own hSim; simp only [go_sem]; have hc := c39_x w 13 5 ⟨#[58]⟩ 1 (1 + (col2 - 1).tmod 200) (1 + (col2 - 1).tmod 200) 0 0 zi; simp only [nodeC, List.map_cons, List.map_nil] at hc; with_reducible exact hc))
    | (refine WD_LS 850 ?_ (LS_callM (α := NO) (f := 21) (cs := [.va (.int .i64 1), .va (.int .i64 (col2 + 1))]) 0 65 [] NO.res (fun x => x.n.ok q /\ (tv.k = 1 -> keyK x.n.k) /\ x.n.k ≠ 13 /\ (col2 + 1) + x.n.cnt <= x.col /\ x.col <= (col2 + 1) + bd d - 0) NO.trs NO.cs hP ?_ ?_ ?_ ?_ ?_ ?_ ?_) ?_ ?_
       exact zq2; rfl; exact zq1; exact zq30; exact zq0; exact zq15; exact zq14
       · (intro a w r own hSim; simp only [go_sem]; have hb := hSim.blk (n := 0) (t := 65) (cs := [.int .i64 1, .int .i64 (col2 + 1)]) zm; rw [hX] at hSim; have hc := hN w (r 0) (col2 + 1) tv ka4 kc4 F q hb zo zo (GS.ofG hSim hF hgs4) (FofG hSim hF) (hgood tv htm4) (fun h => noPlus_kid (hq h) htm4) trivial; simp only [treeC] at hc; (with_reducible refine hc.mono fun e w' hr => ?_); exact RetN.weak hr fun k hk => hk.elim)
       exact zq31; rintro ⟨n3, ka3, kc3, col3⟩ ⟨hok3, hkk3, hne3, hlo3, hup3⟩ E2 h1 h2 h3
       simp only at hok3 hkk3 hne3 hlo3 hup3
       refine zz ?_; intro hX hP hA hQ)
    | (refine WO_LS 850 (LS_appendN 1 ka0 kc0 kids [⟨6, N.mk 13 5 ⟨#[]⟩ ⟨#[58]⟩ (decide (st = 2)) (1 + (col2 - 1).tmod 200) [n2, n3], some ⟨g1, 0, none⟩, 2⟩] hP rfl ?_ ?_ ?_ ?_ ?_ ?_) ?_; exact zq1; exact zq27; exact zq44; exact zq22; exact zq49; exact zq45; rintro ⟨a', cp'⟩ - E2 h1 h2 h3; refine zz ?_; intro hX hP hA hQ)
    | (apply WO_conc 6 31 (n2.cells ka2 kc2 ++ n3.cells ka3 kc3)
       rfl; intro g1 E2 h1 h2 h3; simp only [go_sem, ↓reduceIte, reduceCtorEq, Nat.reduceEqDiff, Nat.reduceAdd]; refine zz ?_; intro hX hP hA hQ
       refine WO_weak _ _ (fun a w r own hs => hs.boxN (jb := 5) (g := g1) [⟨2, n2, ka2, kc2⟩, ⟨4, n3, ka3, kc3⟩] zw0 (fun y hy => by simp only [List.mem_cons, List.not_mem_nil, or_false] at hy; rcases hy with rfl | rfl <;> (rw [hA]; refine ⟨by dsimp only; decide, ?_⟩; first | exact zmb | exact List.mem_cons_of_mem _ (List.mem_cons_of_mem _ zmb))) (Nat.le_of_ble_eq_true rfl)) ?_
       intro E2 h1 h2 h3; refine zz ?_; intro hX hP hA hQ)
    | exact zG7 [(7, 1)] (hJ (⟨kids ++ [N.mk 13 5 ⟨#[]⟩ ⟨#[58]⟩ (decide (st = 2)) (1 + (col2 - 1).tmod 200) [n2, n3]], a', cp', col3⟩) ⟨(by simp only [List.length_append, List.length_cons, List.length_nil]; omega), oks_snoc hoks (ok_pair zo hok2 hok3 (hkk2 hk1) hne3), (fun y hy => (List.mem_append.1 hy).elim (hk13 y) (fun h => (List.mem_singleton.1 h) ▸ rfl)), (by simp only [cntl_snoc, N.cnt, N.cntl]; omega), (by simp only [List.length_append, List.length_cons, List.length_nil]; rw [hlm]; omega)⟩ (by simp only [List.length_append, List.length_cons, List.length_nil]; omega))
    | simp (maxSteps := 20000000) only [Tryz.f42, go_sem, zL, ↓reduceIte, reduceCtorEq, Nat.reduceAdd, Nat.reduceMul, Nat.reduceSub, Nat.reduceLeDiff, Nat.reduceEqDiff, Nat.reduceLT, Nat.reduceBEq, Int.reduceEq, hP, hX, treeC, nodeC, Int.toNat_natCast, Int.toNat_natCast_add_one]
   all_goals try first
    | omega | rfl | (unfold I64; omega) | exact zr83
 · have hmul : (kids.length : Int) * (2 * bd d + 1) <= 3 * (2 * bd d + 1) := Int.mul_le_mul_of_nonneg_right zo zo
   repeat' first
    | refine zA ?_ | apply zI <;> intro hdec | with_reducible constructor
    | simp (maxSteps := 20000000) only [Tryz.f42, go_sem, zL, ↓reduceIte, reduceCtorEq, Nat.reduceAdd, Nat.reduceMul, Nat.reduceSub, Nat.reduceLeDiff, Nat.reduceEqDiff, Nat.reduceLT, Nat.reduceBEq, Int.reduceEq, hP, hX, treeC, nodeC, Int.toNat_natCast, Int.toNat_natCast_add_one]
   all_goals try first
    | omega | rfl | (unfold I64; omega) | exact zr83
