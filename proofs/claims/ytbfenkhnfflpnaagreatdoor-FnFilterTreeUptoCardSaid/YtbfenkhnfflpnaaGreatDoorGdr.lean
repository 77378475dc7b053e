/- Lemmas for FnFilterTree; each condition stands in its statement. -/
import Derived.Test.YtbfenkhnfflpnaaGreatDoorGdi
import Derived.Test.YtbfenkhnfflpnaaGreatDoorGdq
namespace Go.Proofs.YtbfenkhnfflpnaaGreatDoor.Sx
open Go Go.RowKit
set_option maxRecDepth 100000
set_option maxHeartbeats 40000000
set_option linter.all false
section
attribute [local irreducible] leT leH WO WX WC WD LS WS WQ
def TlG (FG : Nat -> Prop) (d : Nat) : Prop := ∀ (w : World), Gy w FG -> ∀ (t : T) (ka : Option Addr) (kc : Nat) (F : Nat -> Prop), GS w 24 6 F (.slice ka t.kids.length kc) (T.gs t.kids) -> (∀ k, F k -> k < w.heap.size) -> t.good d ->
 Calls Tryz.prog 6 [.string ⟨#[70, 110, 70, 105, 108, 116, 101, 114, 84, 114, 101, 101]⟩, .agg (treeC t.k t.v t.an t.tg t.st ka t.kids.length kc).toArray].toArray w (Ret0 (fun b : Bool => .sc (.va (.bool b))) (fun b => b = false -> t.noPlus) w)
theorem c6g (FG : Nat -> Prop) (d : Nat) (hT : TlG FG d) : TlG FG (d + 1) := by
 intro w hG t ka kc F hgs hF hgood; obtain ⟨k, v, an, tg, st, l⟩ := t; obtain ⟨hl6, hall⟩ := good_kids hgood; simp only [T.k_mk, T.v_mk, T.an_mk, T.tg_mk, T.st_mk, T.kids_mk] at *; obtain ⟨A, cp, e1, e2, e3⟩ := kid_at hgs
 cases e1
 refine calls_start 1000 Tryz.func6 rfl fun E hX hP hA hQ => ?_
 repeat' first
  | refine zA ?_ | apply zI <;> intro hdec | with_reducible constructor
  | (refine zc0 (α := Bool) 12 (fun b => .sc (.va (.bool b))) (fun b => b = false -> bt v 0 ≠ 43) ?_ ?_
     · (intro a w r own hSim; simp only [go_sem]; have hp := good_plain hgood (by assumption) (by assumption); have hGs := hG.of (by rw [hX] at hSim; exact hSim) (fun k hk h => h); have hc := c12 FG (fmtT FG) w hGs v (by have := hp.1; omega) hp.2; with_reducible exact hc)
     intro b hb
     cases b)
  | refine zs12 ?_
 all_goals try first
  | omega | exact zr36
 all_goals (have hroot : k = 1 -> st = 1 -> bt v 0 ≠ 43 := (by first | exact fun _ _ => hb rfl | (intro h1 h2; omega) | (intro h1 h2; contradiction)))
 all_goals (
  apply WC_loopF (ι := Nat) (fun i => i <= l.length /\ ∀ (j : Nat) (t : T), j < i -> l[j]? = some t -> t.noPlus) [25, 26, 27, 6, 28, 29, 30, 4, 31, 24] (fun i => [(24, .sc (.va (.int .i64 i)))]) (fun i => l.length - i) 0 ⟨Nat.zero_le _, fun j t hj => absurd hj (Nat.not_lt_zero j)⟩ hX
  exact zq10; exact zq24; intro i hi E' hX' hA' hQ' J hJ; rw [hA] at hJ; refine zl ?_; intro hX hP hA hQ
  refine vc_ok 900 _ _ _ ?_
  obtain ⟨hi, hpl⟩ := hi
  by_cases hlt : i < l.length
  · obtain ⟨A, rfl⟩ : ∃ A, ka = some A := by
     rcases e2 with e2 | e2
     · rw [e2] at hlt; simp at hlt
     · exact zq48
    obtain ⟨hF1, ka1, kc1, hcell, hgs1⟩ := e3 i l[i] (List.getElem?_eq_getElem hlt); have htm : l[i] ∈ l := List.getElem_mem hlt; have hget : l[i]? = some l[i] := List.getElem?_eq_getElem hlt
    generalize l[i] = tk at hcell hgs1 htm hget
    rw [Option.getD_some] at hF1 hcell
    repeat' first
     | refine zA ?_ | apply zI <;> intro hdec | with_reducible constructor | (refine zr108 ?_; intro _ _)
     | (refine zc0 (α := Bool) 6 (fun b => .sc (.va (.bool b))) (fun b => b = false -> tk.noPlus) ?_ ?_
        · (intro a w r own hSim; simp only [go_sem]; rw [hX] at hSim; have hGs := hG.of hSim (fun k hk h => h); have hc := hT w hGs tk ka1 kc1 F (GS.of0 hSim hF hgs1) (fun k hk => Nat.lt_of_lt_of_le (hF k hk) hSim.frm.size) (hall tk htm); simp only [treeC] at hc; with_reducible exact hc)
        intro b hb2
        cases b)
     | exact zr104 | refine zs12 ?_
    all_goals try first
     | omega | rfl | (unfold I64; omega) | exact zr36
  · skip
    repeat' first
     | refine zA ?_ | apply zI <;> intro hdec | with_reducible constructor | refine zs12 ?_
    all_goals first
     | omega | exact zr115
     | skip)
theorem tl_allg (FG : Nat -> Prop) : ∀ d, TlG FG d
 | 0 => fun w _ t ka kc F _ _ hg => hg.elim
 | d + 1 => c6g FG d (tl_allg FG d)
theorem rowsN_get : ∀ {l : List N} {i : Nat} {n : N}, l[i]? = some n -> ∀ j u, (n.cells none 0)[j]? = some u -> (rowsN l)[i * 19 + j]? = some u
 | [], i, n, h, j, u, hj => by simp at h
 | m :: l, 0, n, h, j, u, hj => by
   obtain rfl : m = n := by simpa using h
   have e : rowsN (m :: l) = m.cells none 0 ++ rowsN l := by simp [rowsN]
   rw [e, Nat.zero_mul, Nat.zero_add, List.getElem?_append_left (List.getElem?_eq_some_iff.1 hj).1]; exact hj
 | m :: l, i + 1, n, h, j, u, hj => by
   have e : rowsN (m :: l) = m.cells none 0 ++ rowsN l := by simp [rowsN]
   have hl : (m.cells none 0).length = 19 := rfl; rw [e, List.getElem?_append_right zo, hl, show (i + 1) * 19 + j - 19 = i * 19 + j by omega]; exact rowsN_get (by simpa using h) j u hj
theorem same_rows {l : List N} {xs : List Value} (h : FRel l xs) : ∃ f : Nat -> SN, ∀ i, i < l.length -> (f i).ok /\ (∀ j u, (f i).a[j]? = some u -> xs[i * 19 + j]? = some u) /\ (∀ j u, (f i).b[j]? = some u -> (rowsN l)[i * 19 + j]? = some u) := by
 have h1 : ∀ i, ∃ s : SN, i < l.length -> s.ok /\ (∀ j u, s.a[j]? = some u -> xs[i * 19 + j]? = some u) /\ (∀ j u, s.b[j]? = some u -> (rowsN l)[i * 19 + j]? = some u) := fun i => by
  by_cases hi : i < l.length
  · obtain ⟨n, hn⟩ : ∃ n, l[i]? = some n := ⟨_, List.getElem?_eq_getElem hi⟩
    obtain ⟨z, hz, hx⟩ := h.get i n hn; exact ⟨⟨n.k, n.ty, n.c, n.t, z.1, n.v, n.fl, z.2.1, none, z.2.2.1, z.2.2.2, n.kids.length, 0⟩, fun _ => ⟨hz, hx, rowsN_get hn⟩⟩
  · exact ⟨⟨0, 0, 0, ⟨#[]⟩, ⟨#[]⟩, ⟨#[]⟩, false, none, none, 0, 0, 0, 0⟩, fun h => absurd h hi⟩
 exact ⟨fun i => (h1 i).choose, fun i hi => (h1 i).choose_spec hi⟩
theorem c9R {l : List N} {xs : List Value} (h : FRel l xs) (hlen : l.length <= 1000000) {w : World} {F1 F2 : Nat -> Prop} {a1 a2 : Option Addr} {q1 q2 : Nat}
 (h1 : (Row 31 19 (.slice a1 l.length q1) l.length xs).P w F1) (h2 : (Row 31 19 (.slice a2 l.length q2) l.length (rowsN l)).P w F2) :
 Calls Tryz.prog 9 [.slice a1 l.length q1, .slice a2 l.length q2].toArray w (RetS (.sc (.va (.bool true))) w) := by
 obtain ⟨f, hf⟩ := same_rows h
 refine c9 w a1 a2 l.length q1 q2 f (fun i hi => (hf i hi).1) (fun i hi => ?_) (fun i hi => ?_) hlen
 · obtain ⟨g, rfl⟩ := rowAd h1 zo
   refine ⟨⟨g, 0, none⟩, rfl, fun j u hj => ?_⟩
   have := rowCells h1 _ _ ((hf i hi).2.1 j u hj); rw [addr_add] at this; rw [addr_add, addr_add, Nat.add_assoc]; exact this
 · obtain ⟨g, rfl⟩ := rowAd h2 zo
   refine ⟨⟨g, 0, none⟩, rfl, fun j u hj => ?_⟩
   have := rowCells h2 _ _ ((hf i hi).2.2 j u hj); rw [addr_add] at this; rw [addr_add, addr_add, Nat.add_assoc]; exact this
structure WnL where
 n : Nat
 a : Option Addr
 q : Nat
 m : Nat
 xs : List Value
def sel (K : Int) (l : List N) : List N := l.filter fun p => p.k == K
theorem sel_eq {K : Int} {l : List N} {n : Nat} {x : N} (h : l[n]? = some x) (hk : x.k = K) : sel K (l.take (n + 1)) = sel K (l.take n) ++ [x] := by
 rw [List.take_add_one, h]
 simp [sel, List.filter_append, hk]
theorem sel_ne {K : Int} {l : List N} {n : Nat} {x : N} (h : l[n]? = some x) (hk : ¬ x.k = K) : sel K (l.take (n + 1)) = sel K (l.take n) := by
 rw [List.take_add_one, h]
 simp [sel, List.filter_append, hk]
theorem rowCell19 {g n c i : Nat} {l : List N} {x : N} {w : World} {F : Nat -> Prop} (h : (Row 31 19 (.slice (some ⟨g, 0, none⟩) n c) n (rowsN l)).P w F) (hx : l[i]? = some x) : ∀ j u, (x.cells none 0)[j]? = some u -> w.cell? ((⟨g, i * 19, none⟩ : Addr).add j) = some u := fun j u hj => by
 have := rowCells h _ _ (rowsN_get hx j u hj); rw [addr_add] at this ⊢
 simpa using this
theorem cnt_pos : ∀ n : N, 0 < n.cnt
 | .mk _ _ _ _ _ _ _ => by rw [N.cnt]; omega
theorem tuAAlt (l1 l2 : List Value) (b : Nat) : (SV.tu [.ag (l1.map .va), .ag (l2.map .va)]).lt b := fun t ht => by
 simp only [List.mem_cons, List.not_mem_nil, or_false] at ht
 rcases ht with rfl | rfl
 exact ltL_va _ _; exact ltL_va _ _
theorem c3 (w : World) (FG : Nat -> Prop) (hG : Gy w FG) (k st kind : Int) (v an tg : ByteArray) (ka : Option Addr) (kn kc : Nat) (FI : Nat -> Prop)
 (hI : InT 4 w FI ka kn) (hFI : ∀ k, FI k -> k < w.heap.size) (hv : v.size <= 1048576) (han : an.size <= 1048576) (htg : tg.size <= 1048576) :
 Calls Tryz.prog 3 [.agg (treeC k v an tg st ka kn kc).toArray, .int .i64 kind].toArray w (RetS (.sc (.va (.bool true))) w) := by
 refine calls_start 1000 Tryz.func3 rfl fun E hX hP hA hQ => ?_
 repeat' first
  | refine zB ?_ | apply zI <;> intro hdec | with_reducible constructor
  | (refine zcS 4 (.sc (.va (.bool (decide (v.size <= 2147483647 /\ an.size <= 2147483647 /\ tg.size <= 2147483647 /\ kn <= 2147483647))))) ?_ ?_
     · (intro a w r own hSim; simp only [go_sem]; have hc := c4 w k st v an tg ka kn kc; simp only [treeC] at hc; with_reducible exact hc))
  | (refine WO_LS 850 (LS_call2 (α := NO × DO) (f := 5) (fun x : NO × DO => .tu [.ag [.va (.int .i64 x.1.n.k), .va (.int .i64 x.1.n.ty), .va (.string x.1.n.v), .va (.string x.1.n.t), .va (.string x.1.n.t), .va (.string ⟨#[]⟩), .va (.bool x.1.n.fl), .va (.bool false), .va (.bool false), .va (.int .i64 1), .va (.int .i64 x.1.n.c), .va (.int .i64 x.1.n.c), .va (.int .i64 0), .va (.int .i64 0), .va (.slice none 0 0), .va (.slice none 0 0), .va (.slice none 0 0), .va (.slice none 0 0), .va (.slice x.1.ka x.1.n.kids.length x.1.kc)], .ag [.va (.int .i64 x.2.t.k), .va (.string x.2.t.v), .va (.string x.2.t.an), .va (.string x.2.t.tg), .va (.int .i64 x.2.t.st), .va (.slice x.2.ka x.2.t.kids.length x.2.kc)]]) (fun x : NO × DO => x.2.t.good 5 /\ x.1.n.ok x.2.t.noPlus /\ x.1.n.k ≠ 13 /\ x.1.n.cnt <= 200000) (fun x => Trs 31 19 (.slice x.1.ka x.1.n.kids.length x.1.kc) (N.gs x.1.n.kids)) (fun x => Trs 24 6 (.slice x.2.ka x.2.t.kids.length x.2.kc) (T.gs x.2.t.kids)) hP ?_ ?_ ?_ ?_ ?_) ?_
     rfl; exact zq1; exact fun x => tuAAlt [.int .i64 x.1.n.k, .int .i64 x.1.n.ty, .string x.1.n.v, .string x.1.n.t, .string x.1.n.t, .string ⟨#[]⟩, .bool x.1.n.fl, .bool false, .bool false, .int .i64 1, .int .i64 x.1.n.c, .int .i64 x.1.n.c, .int .i64 0, .int .i64 0, .slice none 0 0, .slice none 0 0, .slice none 0 0, .slice none 0 0, .slice x.1.ka x.1.n.kids.length x.1.kc] [.int .i64 x.2.t.k, .string x.2.t.v, .string x.2.t.an, .string x.2.t.tg, .int .i64 x.2.t.st, .slice x.2.ka x.2.t.kids.length x.2.kc] 0; exact zq0
     · (intro a w r own hSim; rw [hX] at hSim; simp only [go_sem]; have hc := c5 w k st v an tg ka kn kc FI (InT.of0 hSim hFI hI) (fun k hk => Nat.lt_of_lt_of_le (hFI k hk) hSim.frm.size) hv han htg; simp only [N.cells, nodeC, treeC, NO.trs, DO.trs, List.map_cons, List.map_nil] at hc; with_reducible exact hc)
     rintro ⟨⟨n5, ka5, kc5, col5⟩, ⟨t5, kb5, kd5, sa5, sc5⟩⟩ ⟨hgood, hnok, hn13, hcnt⟩ E2 h1 h2 h3; refine zy ?_; intro hX hP hA hQ)
  | (refine zc0 (α := Bool) 6 (fun b => .sc (.va (.bool b))) (fun b => b = false -> t5.noPlus) ?_ ?_
     · (intro a w r own hSim; simp only [go_sem]; rw [hX] at hSim; have hc := tl_allg FG 5 w (hG.of hSim (fun k hk h => h)) t5 kb5 kd5 _ (hSim.fact 2 (Trs 24 6 (.slice kb5 t5.kids.length kd5) (T.gs t5.kids)) zw0).2 (fun k hk => (hSim.bnd k _ hk).1) hgood; simp only [treeC] at hc; with_reducible exact hc)
     intro b hnp
     cases b)
  | (refine WO_LS 850 (LS_call1 (α := Option Addr × Nat) (f := 7) (fun z => .sc (.va (.slice z.1 n5.cnt z.2))) (fun z => z.1.isSome = true) (fun z => Row 31 19 (.slice z.1 n5.cnt z.2) n5.cnt (rowsN n5.vis)) hP ?_ ?_ ?_ ?_ ?_) ?_
     rfl; exact zq1; exact zq9; exact zq0
     · (intro a w r own hSim; rw [hX] at hSim; simp only [go_sem]; have hc := vis_all n5.cnt w n5 ka5 kc5 _ (hSim.fact 1 (Trs 31 19 (.slice ka5 n5.kids.length kc5) (N.gs n5.kids)) zw1).2 (fun k hk => (hSim.bnd k _ hk).1) (Nat.le_refl _) hcnt; simp only [N.cells, nodeC] at hc; with_reducible exact hc)
     rintro ⟨va, vq⟩ hva E2 h1 h2 h3; refine zz ?_; intro hX hP hA hQ)
  | refine zs27 ?_
 all_goals try first
  | exact zr42 | (with_reducible show (22 : Int) ≠ 0; decide)
  | (with_reducible show I64 _
     unfold I64
     have h1 := Int.lt_tmod_of_pos (IntKind.u64.wrap kind) (show (0 : Int) < 22 by decide); have h2 := Int.tmod_lt_of_pos (IntKind.u64.wrap kind) (show (0 : Int) < 22 by decide); omega)
 obtain ⟨A, rfl⟩ := Option.isSome_iff_exists.1 hva; dsimp only at hgood hnok hn13 hcnt
 generalize (IntKind.u64.wrap kind).tmod 22 = KK
 refine WC_pure (Q := ∃ g, A = ⟨g, 0, none⟩) (fun a' w' r own hs => ?_) ?_
 · obtain ⟨g, h⟩ := rowAd (hs.fact 3 (Row 31 19 (.slice (some A) n5.cnt vq) n5.cnt (rowsN n5.vis)) zw0).2 (cnt_pos n5)
   exact ⟨g, Option.some.inj h⟩
 rintro ⟨g, rfl⟩
 have hok5 : n5.ok True := by
  have h := hnok
  rwa [eq_true (hnp rfl)] at h
 apply WC_addE (Row 31 19 (.slice none 0 0) 0 []) (fun w => ⟨World.ownsRow_nil w _ _ _, fun k => by simp [Value.ownBlock], fun u hu => by cases hu⟩)
 intro E2 h1 h2 h3; dsimp only; refine zz ?_; intro hX hP hA hQ
 apply WC_loopG (ι := WnL) (fun x => x.n <= n5.cnt /\ x.m = (sel KK (n5.vis.take x.n)).length /\ x.xs = rowsN (sel KK (n5.vis.take x.n))) [29, 30, 31, 8, 32, 33, 34, 35, 36, 37, 38, 39, 6, 40, 28] (fun x => [(28, .sc (.va (.int .i64 x.n))), (6, .sc (.va (.slice x.a x.m x.q)))]) (fun x => [(0, 24, [.va (.int .i64 t5.k), .va (.string t5.v), .va (.string t5.an), .va (.string t5.tg), .va (.int .i64 t5.st), .va (.slice kb5 t5.kids.length kd5)]), (1, 31, [.va (.int .i64 n5.k), .va (.int .i64 n5.ty), .va (.string n5.v), .va (.string n5.t), .va (.string n5.t), .va (.string ⟨#[]⟩), .va (.bool n5.fl), .va (.bool false), .va (.bool false), .va (.int .i64 1), .va (.int .i64 n5.c), .va (.int .i64 n5.c), .va (.int .i64 0), .va (.int .i64 0), .va (.slice none 0 0), .va (.slice none 0 0), .va (.slice none 0 0), .va (.slice none 0 0), .va (.slice ka5 n5.kids.length kc5)])]) (fun x => [(1, Trs 31 19 (.slice ka5 n5.kids.length kc5) (N.gs n5.kids)), (3, Row 31 19 (.slice (some ⟨g, 0, none⟩) n5.cnt vq) n5.cnt (rowsN n5.vis)), (4, Row 31 19 (.slice x.a x.m x.q) x.m x.xs)]) (fun x => n5.cnt - x.n) ⟨0, none, 0, 0, []⟩ ⟨Nat.zero_le _, rfl, rfl⟩ [(1, 1), (3, 3), (4, 4)] hX
 exact zq10; exact zq5; exact zq7; exact zq5; rfl; rfl; rfl; exact zq4; rintro ⟨n, a, q, m, xs⟩ hi E' hX' hA' hQ' J hJ; refine zl ?_; intro hX hP hA hQ; dsimp only at hi hA; obtain ⟨hin, hm, hxs⟩ := hi; have hvl := vis_len n5
 by_cases hil : n < n5.cnt
 · obtain ⟨x, hx⟩ : ∃ x, n5.vis[n]? = some x := ⟨_, List.getElem?_eq_getElem zo⟩
   have hE1 : x.k = KK -> m + 1 = (sel KK (n5.vis.take (n + 1))).length := fun h => by rw [sel_eq hx h, List.length_append, hm]; rfl
   have hE2 : x.k = KK -> xs ++ x.cells none 0 = rowsN (sel KK (n5.vis.take (n + 1))) := fun h => by rw [sel_eq hx h, rowsN_append, hxs]; simp [rowsN]
   have hN1 : ¬ x.k = KK -> m = (sel KK (n5.vis.take (n + 1))).length := fun h => by rw [sel_ne hx h]; exact hm
   have hN2 : ¬ x.k = KK -> xs = rowsN (sel KK (n5.vis.take (n + 1))) := fun h => by rw [sel_ne hx h]; exact hxs
   have hmn : m <= n := by
    rw [hm]
    refine Nat.le_trans (List.length_filter_le _ _) ?_
    rw [List.length_take]; omega
   obtain ⟨k1, ty1, v1, t1, fl1, c1, l1⟩ := x; simp only [N.cells, nodeC, N.k, N.ty, N.v, N.t, N.fl, N.c, N.kids] at hE1 hE2 hN1 hN2
   refine vc_ok 900 _ _ _ ?_
   repeat' first
    | refine zB ?_ | apply zI <;> intro hdec | with_reducible constructor
    | (refine WO_LE 850 (LS_rcell ⟨g, n * 19, none⟩ [.int .i64 k1, .int .i64 ty1, .string v1, .string t1, .string t1, .string ⟨#[]⟩, .bool fl1, .bool false, .bool false, .int .i64 1, .int .i64 c1, .int .i64 c1, .int .i64 0, .int .i64 0, .slice none 0 0, .slice none 0 0, .slice none 0 0, .slice none 0 0, .slice none l1.length 0] true hP ?_ ?_ ?_ (fun h => by cases h)) ?_
       · simp only [go_sem, addr_add, Nat.mul_one, Nat.zero_add, Nat.add_zero, Option.isNone_some, Option.isNone_none, nodeC, Option.isSome_some, Int.toNat_natCast]
       · (intro a' w' r own hs; exact rowCell19 (hs.fact 3 (Row 31 19 (.slice (some ⟨g, 0, none⟩) n5.cnt vq) n5.cnt (rowsN n5.vis)) zw1).2 hx)
       exact sz31; intro _ _; simp only [rdV, List.map_cons, List.map_nil])
    | (refine WO_LS 850 (LS_append (e := 31) (size := 19) (bytes := 248) 4 (.slice a m q) (m) (xs) 1 [.int .i64 k1, .int .i64 ty1, .string v1, .string t1, .string t1, .string ⟨#[]⟩, .bool fl1, .bool false, .bool false, .int .i64 1, .int .i64 c1, .int .i64 c1, .int .i64 0, .int .i64 0, .slice none 0 0, .slice none 0 0, .slice none 0 0, .slice none 0 0, .slice none l1.length 0] hP rfl ?_ ?_ ?_ ?_ ?_ ?_ ?_) ?_; exact zq1; exact zq0; exact zq44; exact zq22; rfl; omega; decide; rintro v' ⟨_, a2, q2, rfl⟩ E2 h1 h2 h3; refine zz ?_; intro hX hP hA hQ)
    | exact zG7 [(1, 1), (3, 3), (5, 4)] (hJ (⟨n + 1, a2, q2, m + 1, xs ++ [.int .i64 k1, .int .i64 ty1, .string v1, .string t1, .string t1, .string ⟨#[]⟩, .bool fl1, .bool false, .bool false, .int .i64 1, .int .i64 c1, .int .i64 c1, .int .i64 0, .int .i64 0, .slice none 0 0, .slice none 0 0, .slice none 0 0, .slice none 0 0, .slice none l1.length 0]⟩) ⟨zj, hE1 hdec, hE2 hdec⟩ zj)
    | exact zG7 [(1, 1), (3, 3), (4, 4)] (hJ (⟨n + 1, a, q, m, xs⟩) ⟨zj, hN1 hdec, hN2 hdec⟩ zj)
    | refine zs7 ?_
   all_goals try first
    | omega | (unfold I64; omega)
 · obtain rfl : n = n5.cnt := by omega
   rw [List.take_of_length_le zo] at hm hxs; simp only [sel] at hm hxs; subst hm hxs; have hflen : (n5.vis.filter fun p => p.k == KK).length <= 1000000 := Nat.le_trans (List.length_filter_le _ _) zo
   refine vc_ok 900 _ _ _ ?_
   repeat' first
    | refine zB ?_ | apply zI <;> intro hdec | with_reducible constructor
    | (refine WO_LS 850 (LS_call1 (α := FZ) (f := 8) (fun z : FZ => .tu [.sc (.va (.slice z.a z.m z.c)), .ag [.va (.int .i64 0), .va (.int .i64 0), .va (.int .i64 0), .va (.int .i64 0), .va (.int .i64 0), .va (.int .i64 0)]]) (fun z => FRel (n5.vis.filter fun p => p.k == KK) z.xs /\ z.m = (n5.vis.filter fun p => p.k == KK).length) (fun z => Row 31 19 (.slice z.a z.m z.c) z.m z.xs) hP ?_ ?_ ?_ ?_ ?_) ?_
       rfl; exact zq1; exact fun z => tuSAlt _ [.int .i64 0, .int .i64 0, .int .i64 0, .int .i64 0, .int .i64 0, .int .i64 0] 0; exact zq0
       · (intro a w r own hSim; rw [hX] at hSim; simp only [go_sem]; have hc := c8 n5 hok5 zo w FG (hG.of hSim (fun k hk h => h)) (fmtT FG) (fmtp FG) (fmtn FG) KK _ (fun k hk => (hSim.bnd k _ hk).1) ka5 kc5 (hSim.fact 1 (Trs 31 19 (.slice ka5 n5.kids.length kc5) (N.gs n5.kids)) zw0).2; simp only [N.cells, nodeC] at hc; with_reducible exact hc)
       rintro ⟨fa, fc, fm, fxs⟩ ⟨hfr, hfm⟩ E2 h1 h2 h3
       simp only at hfm hfr
       subst hfm; refine zz ?_; intro hX hP hA hQ)
    | (refine zcS 9 (.sc (.va (.bool true))) ?_ ?_
       · (intro a0 w r own hSim; simp only [go_sem]; rw [hX] at hSim; have h5 := (hSim.fact 5 (Row 31 19 (.slice fa (n5.vis.filter fun p => p.k == KK).length fc) (n5.vis.filter fun p => p.k == KK).length fxs) zw0).2; have h4 := (hSim.fact 4 (Row 31 19 (.slice a (n5.vis.filter fun p => p.k == KK).length q) (n5.vis.filter fun p => p.k == KK).length (rowsN (n5.vis.filter fun p => p.k == KK))) zw3).2; have hc := c9R hfr hflen h5 h4; with_reducible exact hc))
    | refine zs7 ?_
   all_goals try first
    | omega | (intro a' w' r own hs; exact ⟨⟨_, rfl, fun r => .inr rfl⟩, hs.frm⟩)
