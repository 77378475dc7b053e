/- Lemmas for FnFilterTree; each condition stands in its statement. -/
import Derived.Test.YtbfenkhnfflpnaaGreatDoorGdp
namespace Go.Proofs.YtbfenkhnfflpnaaGreatDoor.Sx
open Go Go.RowKit
set_option maxRecDepth 100000
set_option maxHeartbeats 40000000
set_option linter.all false
section
attribute [local irreducible] leT leH WO WX WC WD
theorem c16d {n : N} (h : BuildC n) : ∀ (w : World) (FG : Nat -> Prop), Gl w FG -> ∀ (F : Nat -> Prop) (ka : Option Addr) (kc : Nat), GS w 31 19 F (.slice ka n.kids.length kc) (N.gs n.kids) -> (∀ k, F k -> k < w.heap.size) -> Calls Tryz.prog 16 [.agg (n.cells ka kc).toArray].toArray w
 (Ret1 (fun x : Nat × D => .sc (.va (.iface (kpT n.k) (ptr x.1)))) (fun x => x.2.x = .iface (kpT n.k) (ptr x.1)) (fun x => AtdA n x.2) w) := by
 intro w FG hG F ka kc hg hF
 refine (h w FG hG F ka kc hg hF).mono fun e w' hr => ?_
 obtain ⟨x, h1, h2, h3, F', hF', hB⟩ := hr; obtain ⟨d, h4, h5⟩ := AT.toD hB; exact ⟨(x, d), h4, h2, h3, F', hF', h5⟩
def ndc (n : N) (z : ByteArray × Option Addr × Nat × Nat) : List Value := nodeC n.k n.ty z.1 n.t n.t ⟨#[]⟩ n.fl false false 1 n.c n.c 0 0 z.2.1 z.2.2.1 z.2.2.2
inductive FRel : List N -> List Value -> Prop
 | nil : FRel [] []
 | snoc {l : List N} {xs : List Value} {n : N} {z : ByteArray × Option Addr × Nat × Nat} : FRel l xs -> (n.k ≠ 5 -> z.1 = n.v) -> FRel (l ++ [n]) (xs ++ ndc n z)
theorem FRel.len {l : List N} {xs : List Value} (h : FRel l xs) : xs.length = l.length * 19 := by
 induction h with
 | nil => rfl
 | snoc h _ ih => rw [List.length_append, List.length_append, ih]; simp only [ndc, nodeC, List.length_cons, List.length_nil]; omega
theorem FRel.al {l : List N} {xs : List Value} (h : FRel l xs) : FRel (l.map N.al) xs := by
 induction h with
 | nil => exact .nil
 | @snoc l xs n z h hz ih =>
   rw [List.map_append, List.map_cons, List.map_nil]
   have e : ndc n z = ndc n.al z := by cases n; rfl
   rw [e]; exact .snoc ih (by cases n; exact hz)
theorem FRel.get {l : List N} {xs : List Value} (h : FRel l xs) : ∀ i n, l[i]? = some n -> ∃ z : ByteArray × Option Addr × Nat × Nat, (n.k ≠ 5 -> z.1 = n.v) /\ ∀ j u, (ndc n z)[j]? = some u -> xs[i * 19 + j]? = some u := by
 induction h with
 | nil => intro i n h; simp at h
 | @snoc l xs n z h hz ih =>
   intro i m hm; have hlen := h.len
   rcases Nat.lt_or_ge i l.length with hi | hi
   · rw [List.getElem?_append_left hi] at hm
     obtain ⟨z', h1, h2⟩ := ih i m hm
     refine ⟨z', h1, fun j u hj => ?_⟩
     have := h2 j u hj; rw [List.getElem?_append_left (List.getElem?_eq_some_iff.1 this).1]; exact this
   · rw [List.getElem?_append_right hi] at hm
     have hi0 : i - l.length = 0 := by
      rcases Nat.eq_zero_or_pos (i - l.length) with h0 | h0
      · exact h0
      · rw [List.getElem?_eq_none (by simp; omega)] at hm; cases hm
     rw [hi0] at hm
     obtain rfl : n = m := by simpa using hm
     refine ⟨z, hz, fun j u hj => ?_⟩
     obtain rfl : i = l.length := by omega
     rw [List.getElem?_append_right zo, hlen, Nat.add_sub_cancel_left]; exact hj
mutual
theorem prs_ok : ∀ (n : N) (d : D), n.ok True -> ∀ p ∈ prs n d, p.1.ok True /\ p.1.cnt <= n.cnt
 | .mk k ty v t fl c kids, .mk x ds, hok, p, hp => by
   rw [prs] at hp
   rcases List.mem_cons.1 hp with rfl | hp
   · exact ⟨hok, Nat.le_refl _⟩
   · rw [N.ok] at hok
     have h := prsl_ok kids ds hok.2.2.1 p hp; rw [N.cnt]; exact ⟨h.1, zo⟩
theorem prsl_ok : ∀ (l : List N) (ds : List D), N.oks True l -> ∀ p ∈ prsl l ds, p.1.ok True /\ p.1.cnt <= N.cntl l
 | [], ds, _, p, hp => by simp [prsl] at hp
 | n :: l, [], _, p, hp => by simp [prsl] at hp
 | n :: l, d :: es, hok, p, hp => by
   rw [prsl] at hp; rw [N.oks] at hok; rw [N.cntl]
   rcases List.mem_append.1 hp with hp | hp
   · have h := prs_ok n d hok.1 p hp
     exact ⟨h.1, zo⟩
   · have h := prsl_ok l es hok.2 p hp
     exact ⟨h.1, zo⟩
end
theorem LS_appendA {E : En} {S : St} {dst : Option Tmp} {ty : TypeId} {pos : String} {after : Array Edge} {guard : Option (Nat × Bool)} {c : Call} {P : Program} {s x : Operand} {t e size bytes : Nat} (j : Nat) (v : Value) (n : Nat) (xs : List Value) (m : Nat) (news : List Value) (hP : E.X.P = P) (hc : c = { callee := .builtin .append, args := #[s, x], argTypes := #[t, t] })
 (hT : rowT P t e size bytes = true) (hv : ev S s = .sc (.va v)) (hj : (j, Row e size v n xs) ∈ E.A) (hn : News E S x m news) (hl : news.length = m * size) (hm : n + m <= 2147483648) (hb : bytes <= 65536) (h0 : 0 < n + m) :
 LS E S ⟨dst, .call c, ty, pos, after, guard⟩ [] (fun _ : Nat × Nat => True) (fun z => S.putM dst (.sc (.va (.slice (some ⟨z.1, 0, none⟩) (n + m) z.2)))) (fun z => (S.m, Row e size (.slice (some ⟨z.1, 0, none⟩) (n + m) z.2) (n + m) (xs ++ news)) :: outF [j] E.A) := by
 intro a w r own hs K Q hK
 refine LS_append (size := size) j v n xs m news hP hc hT hv hj hn hl hm hb a w r own hs K Q fun v' hv' a' w' r' own' hs' hk => ?_
 obtain ⟨_, ad, cp, rfl⟩ := hv'; obtain ⟨g, rfl⟩ := rowAd (hs'.fact S.m _ zm).2 h0; exact hK (g, cp) trivial a' w' r' own' hs' hk
theorem LS_bslA {E : En} {S : St} {dst : Option Tmp} {ty : TypeId} {pos : String} {after : Array Edge} {guard : Option (Nat × Bool)} {P : Program} {t e k : Nat} (us zs : List Value) (hP : E.X.P = P) (he : elT P t = some (e, k)) (hz : zeroT P e = some zs) (hl : us.length = k) (hk0 : k ≠ 0) (hk : k <= 16777216) (h1 : ∀ u ∈ us, u.oneCell' = true) :
 LS E S ⟨dst, .buildSlice t 1 #[(0, .const (.agg us.toArray))], ty, pos, after, guard⟩ [] (fun _ : Unit => True) (fun _ => (S.new e (us.map .va)).put dst (.sc (.sl S.n 0 1 1))) (fun _ => E.A) := by
 intro a w r own hs K Q hK; subst hP; obtain ⟨i, hu, hi, rfl⟩ := elT_spec he; obtain ⟨i', z, hi', hz0, hz1⟩ := zeroT_spec hz
 obtain rfl : i = i' := by rw [hi] at hi'; simpa using hi'
 obtain ⟨arr0, harr0⟩ : ∃ arr0 : Array Value, arr0 = (Array.range i.size).map (z.cells[· % z.cells.size]!) := ⟨_, rfl⟩
 have hsz : arr0.size = i.size := by rw [harr0]; simp
 have hfold := fold_set us 0 0 arr0 (by simp; omega); simp only [Nat.add_zero] at hfold
 have hfill : Instr.fill (fun j => some (j * i.size, i.size)) arr0 [(0, .agg us.toArray)] = some us.toArray := by
  simp only [Instr.fill, Nat.zero_mul, Value.cells]; rw [if_neg (by simp; omega)]
  have hz : (us.toArray.zipIdx.foldl (fun cs (x : Value × Nat) => cs.setIfInBounds (0 + x.2) x.1) arr0) = (us.zipIdx 0).foldl (fun cs (x : Value × Nat) => cs.setIfInBounds (0 + x.2) x.1) arr0 := by
   rw [<- Array.foldl_toList]
   simp
  refine congrArg some (hz.trans ?_)
  apply Array.toList_inj.1
  rw [hfold]
  simp
  omega
 obtain ⟨r', own', h2, hk1, hk2, hk3, hk4, hk5, hk6⟩ := hs.newPut (o := ⟨dst, .buildSlice t 1 #[(0, .const (.agg us.toArray))], ty, pos, after, guard⟩) (t := e) (CL_va (r := r) us) (ltL_va _ us) h1 dst (sv := .sc (.sl S.n 0 1 1)) (u := .slice (some ⟨w.heap.size, 0, none⟩) 1 1) (.inr (by simp [Cl.den])) (Nat.lt_succ_self _)
 have hlim : ¬ (i.size > 2 ^ 24) := by omega
 have hr : Res E.X.P ⟨dst, .buildSlice t 1 #[(0, .const (.agg us.toArray))], ty, pos, after, guard⟩ a w (a.put dst (.slice (some ⟨w.heap.size, 0, none⟩) 1 1)) (w.alloc (.cells us.toArray e)) := by
  refine ⟨_, ?_, .inl ⟨_, rfl, rfl⟩⟩
  rw [harr0] at hfill
  simp [execOp, Instr.buildSlice, run_underlying hu, sizeOf, typeInfo, hi, hlim, hk0, newRow, zeroValue, hz0, Act.eval]
  rw [hfill]
  simp
 exact hr.wp (hK () trivial _ _ _ _ h2 ⟨hk1, fun n t cs hm _ => hk2 (fun _ _ _ h => by cases h) _ (hs.bnd _ _ (hs.heap n t cs hm).2.2.1).1, hk3, hk4, hk5, hk6⟩)
section
attribute [local irreducible] LS WS WQ
theorem Z31one (u : Value) (h : u ∈ [(.int .i64 0 : Value), (.int .i64 0 : Value), (.string ⟨#[]⟩ : Value), (.string ⟨#[]⟩ : Value), (.string ⟨#[]⟩ : Value), (.string ⟨#[]⟩ : Value), (.bool false : Value), (.bool false : Value), (.bool false : Value), (.int .i64 0 : Value), (.int .i64 0 : Value), (.int .i64 0 : Value), (.int .i64 0 : Value), (.int .i64 0 : Value), (.slice none 0 0 : Value), (.slice none 0 0 : Value), (.slice none 0 0 : Value), (.slice none 0 0 : Value), (.slice none 0 0 : Value)]) : u.oneCell' = true := by
 simp only [List.mem_cons, List.not_mem_nil, or_false] at h
 rcases h with rfl | rfl | rfl | rfl | rfl | rfl | rfl | rfl | rfl | rfl | rfl | rfl | rfl | rfl | rfl | rfl | rfl | rfl | rfl <;> rfl
theorem tuSA {r : Nat -> Nat} (v : Value) (l : List Value) : (SV.tu [.sc (.va v), .ag (l.map .va)]).ok r (.tuple #[v, .agg l.toArray]) :=
 ⟨[v, .agg l.toArray], rfl, rfl, fun i t ht => by
  match i, ht with
  | 0, ht => obtain rfl : TV.sc (.va v) = t := by simpa using ht
             exact .inr rfl
  | 1, ht => obtain rfl : TV.ag (l.map .va) = t := by simpa using ht
             exact ⟨l, rfl, CL_va l⟩
  | i + 2, ht => simp at ht⟩
theorem tuSAlt (v : Value) (l : List Value) (b : Nat) : (SV.tu [.sc (.va v), .ag (l.map .va)]).lt b := fun t ht => by
 simp only [List.mem_cons, List.not_mem_nil, or_false] at ht
 rcases ht with rfl | rfl
 exact True.intro; exact ltL_va _ _
theorem setLast {xs z us : List Value} {q m : Nat} (h : xs.length = q) (h2 : z.length = m) (h3 : us.length = m) : (xs ++ z).take q ++ us ++ (xs ++ z).drop (q + us.length) = xs ++ us := by
 rw [<- h, List.take_left, List.drop_append, List.drop_of_length_le zo, List.drop_of_length_le zo]
 simp
structure FZ where
 a : Option Addr
 c : Nat
 m : Nat
 xs : List Value
theorem c8 (n : N) (hok : n.ok True) (hcnt : n.cnt <= 1000000) (w : World) (FG : Nat -> Prop) (hG : Gy w FG) (hf1 : FmtT FG) (hf2 : FmtI FG 9218868437227405312 ⟨#[43, 73, 110, 102]⟩) (hf3 : FmtI FG 18442240474082181120 ⟨#[45, 73, 110, 102]⟩) (K : Int) (F : Nat -> Prop) (hF : ∀ k, F k -> k < w.heap.size) (ka : Option Addr) (kc : Nat) (hg : GS w 31 19 F (.slice ka n.kids.length kc) (N.gs n.kids)) :
 Calls Tryz.prog 8 [.agg (n.cells ka kc).toArray, .int .i64 K].toArray w (Ret1 (fun z : FZ => .tu [.sc (.va (.slice z.a z.m z.c)), .ag [.va (.int .i64 0), .va (.int .i64 0), .va (.int .i64 0), .va (.int .i64 0), .va (.int .i64 0), .va (.int .i64 0)]]) (fun z => FRel (n.vis.filter fun p => p.k == K) z.xs /\ z.m = (n.vis.filter fun p => p.k == K).length) (fun z => Row 31 19 (.slice z.a z.m z.c) z.m z.xs) w) := by
 have hb16 := c16d (c16 n (bare_all n hok hcnt).1 (by cases n; rw [N.ok] at hok; exact hok.1) (by cases n; rw [N.ok] at hok; exact hok.2.1)); have hok8 := prs_ok n; obtain ⟨k, ty, v, t, fl, c, kids⟩ := n
 refine calls_startX 1000 Tryz.func8 rfl fun E hX hP hA hQ => ?_
 repeat' first
  | refine zA ?_ | apply zI <;> intro hdec | with_reducible constructor
  | apply WX_finX (idle14 _ _) hX rfl hQ (.inl rfl)
  | with_reducible refine And.intro ?_ ?_
  | (apply WO_defer (f := 14) (n1 := 1) (n2 := 2) 850 hX rfl
     · simp
     exact zq0; exact zq0; intro g1 g2 E2 h1 h2 h3; simp only [go_sem]; replace hX := h1; dsimp only at hX
     replace hP : E2.X.P = Tryz.prog := by rw [hX]
     replace hQ := h3.trans hQ; replace hA := h2.trans hA; clear h1 h2 h3)
  | (refine WO_LS 850 (LS_call1 (α := Nat × D) (f := 16) (fun x => .sc (.va (.iface (kpT k) (ptr x.1)))) (fun x => x.2.x = .iface (kpT k) (ptr x.1)) (fun x => AtdA (.mk k ty v t fl c kids) x.2) hP ?_ ?_ ?_ ?_ ?_) ?_
     rfl; exact zq1; exact zq9; exact zq0
     · (intro a w r own hSim; rw [hX] at hSim; simp only [go_sem]; have hc := hb16 _ FG (hG.gl.ext hSim.frm.size fun k hk => hSim.frm.block k (hG.gl.lt k hk) (fun h => h)) F ka kc (hg.ext (fun _ h => h) fun k hk => hSim.frm.block k (hF k hk) (fun h => h)) (fun k hk => Nat.lt_of_lt_of_le (hF k hk) hSim.frm.size); simp only [N.cells, nodeC, N.k, N.ty, N.v, N.t, N.fl, N.c, N.kids] at hc; with_reducible exact hc)
     rintro ⟨gx, d⟩ hdx E2 h1 h2 h3; refine zz ?_; intro hX hP hA hQ)
  | (refine WO_LS 850 (LS_call1 (α := Option Addr × Nat) (f := 15) (fun z => .sc (.va (.slice z.1 (hit K (prs (.mk k ty v t fl c kids) d)).length z.2))) (fun _ => True) (fun z => Row 54 1 (.slice z.1 (hit K (prs (.mk k ty v t fl c kids) d)).length z.2) (hit K (prs (.mk k ty v t fl c kids) d)).length (hit K (prs (.mk k ty v t fl c kids) d))) hP ?_ ?_ ?_ ?_ ?_) ?_
     rfl; exact zq1; exact zq9; exact zq0
     · (intro a w r own hSim; rw [hX] at hSim; simp only [go_sem]; have hc := c15 _ _ (fun k hk => (hSim.bnd k _ hk).1) _ d (hSim.fact 0 (AtdA (.mk k ty v t fl c kids) d) zw0).2 K hcnt; rw [hdx] at hc; with_reducible exact hc)
     rintro ⟨ha, hcp⟩ _ E2 h1 h2 h3; refine zz ?_; intro hX hP hA hQ)
  | refine zs32 ?_
 apply WC_addE (Row 31 19 (.slice none 0 0) 0 []) (fun w => ⟨World.ownsRow_nil w _ _ _, fun k => by simp [Value.ownBlock], fun u hu => by cases hu⟩)
 intro E2 h1 h2 h3; dsimp only; refine zz ?_; intro hX hP hA hQ
 obtain ⟨ps, hps⟩ : ∃ ps, ps = ((prs (.mk k ty v t fl c kids) d).filter fun p => p.1.k == K) := ⟨_, rfl⟩
 have hhit : hit K (prs (.mk k ty v t fl c kids) d) = ps.map fun p => p.2.x := by rw [hps]; rfl
 have hmem : ∀ p ∈ ps, p ∈ prs (.mk k ty v t fl c kids) d /\ p.1.k = K := fun p hp => by
  rw [hps, List.mem_filter] at hp; exact ⟨hp.1, by simpa using hp.2⟩
 rw [hhit] at hA ⊢; rw [List.length_map] at hA ⊢
 apply WC_loopG (ι := KdL) (fun x => x.n <= ps.length /\ FRel ((ps.take x.n).map (·.1)) x.xs) [15, 16, 17, 7, 18, 19, 20, 21, 22, 23, 24, 25, 14] (fun x => [(14, .sc (.va (.int .i64 x.n)))]) (fun x => [(0, 31, [.va (.int .i64 k), .va (.int .i64 ty), .va (.string v), .va (.string t), .va (.string t), .va (.string ⟨#[]⟩), .va (.bool fl), .va (.bool false), .va (.bool false), .va (.int .i64 1), .va (.int .i64 c), .va (.int .i64 c), .va (.int .i64 0), .va (.int .i64 0), .va (.slice none 0 0), .va (.slice none 0 0), .va (.slice none 0 0), .va (.slice none 0 0), .va (.slice ka kids.length kc)]), (1, 29, [.va (.slice x.a x.n x.q)]), (2, 38, [.va (.int .i64 0), .va (.int .i64 0), .va (.int .i64 0), .va (.int .i64 0), .va (.int .i64 0), .va (.int .i64 0)])]) (fun x => [(0, AtdA (.mk k ty v t fl c kids) d), (1, Row 54 1 (.slice ha ps.length hcp) ps.length (ps.map fun p => p.2.x)), (2, Row 31 19 (.slice x.a x.n x.q) x.n x.xs)]) (fun x => ps.length - x.n) ⟨0, none, 0, []⟩ ⟨Nat.zero_le _, FRel.nil⟩ [(0, 0), (1, 1), (2, 2)] hX
 exact zq10; exact zq5; exact zq7; exact zq5; rfl; rfl; rfl; exact zq4; rintro ⟨n, a, q, xs⟩ hi E' hX' hA' hQ' J hJ; refine zl ?_; intro hX hP hA hQ; dsimp only at hi hA
 have hxl : xs.length = n * 19 := by rw [hi.2.len, List.length_map, List.length_take, Nat.min_eq_left hi.1]
 refine WC_pure (Q := ps.length <= 1000000) (fun a' w' r own hs => ?_) ?_
 · rw [hps]
   refine Nat.le_trans (List.length_filter_le _ _) ?_
   rw [prs_len (hs.fact 0 (AtdA (.mk k ty v t fl c kids) d) zw0).2]; exact hcnt
 intro hpsl
 by_cases hil : n < ps.length
 · obtain ⟨p, hp⟩ : ∃ p, ps[n]? = some p := ⟨_, List.getElem?_eq_getElem hil⟩
   have hpm := hmem p (List.mem_of_getElem? hp); have hnd := node_all p.1 (hok8 d hok p hpm.1).1 (Nat.le_trans (hok8 d hok p hpm.1).2 hcnt)
   have hdx1 : (ps.map fun p => p.2.x)[n]? = some p.2.x := by rw [List.getElem?_map, hp]; rfl
   have htk : (ps.take (n + 1)).map (·.1) = (ps.take n).map (·.1) ++ [p.1] := by
    rw [List.take_add_one, hp, List.map_append]; rfl
   refine WC_pure (Q := ∃ A, ha = some A) (fun a' w' r own hs => ?_) ?_
   exact Option.isSome_iff_exists.1 (rowSome (hs.fact 1 (Row 54 1 (.slice ha ps.length hcp) ps.length (ps.map fun p => p.2.x)) zw1).2 zo); rintro ⟨A, rfl⟩; obtain ⟨⟨k1, ty1, v1x, t1, fl1, c1, l1⟩, d1⟩ := p
   obtain ⟨x1, e1⟩ : ∃ x1, d1.x = x1 := ⟨_, rfl⟩
   simp only [e1] at hdx1
   have hsn : ∀ (v2 : ByteArray) (ka2 : Option Addr) (kn2 kc2 : Nat), (k1 ≠ 5 -> v2 = v1x) -> FRel ((ps.take (n + 1)).map (·.1)) (xs ++ [.int .i64 k1, .int .i64 ty1, .string v2, .string t1, .string t1, .string ⟨#[]⟩, .bool fl1, .bool false, .bool false, .int .i64 1, .int .i64 c1, .int .i64 c1, .int .i64 0, .int .i64 0, .slice none 0 0, .slice none 0 0, .slice none 0 0, .slice none 0 0, .slice ka2 kn2 kc2]) := fun v2 ka2 kn2 kc2 hz => by
    rw [htk]; exact FRel.snoc (z := (v2, ka2, kn2, kc2)) hi.2 hz
   refine vc_ok 900 _ _ _ ?_
   repeat' first
    | refine zB ?_ | apply zI <;> intro hdec | with_reducible constructor
    | apply WX_finX (idle14 _ _) hX rfl hQ (.inl rfl)
    | with_reducible refine And.intro ?_ ?_
    | (refine WO_LE 850 (LS_rcell (A.add n) [x1] false hP ?_ ?_ ?_ (fun _ => rfl)) ?_
       · exact zq0
       · (intro a' w' r own hs; exact one_cell (rowCells (hs.fact 1 (Row 54 1 (.slice (some A) ps.length hcp) ps.length (ps.map fun p => p.2.x)) zw1).2 n x1 hdx1))
       exact sz54; intro _ _; simp only [rdV])
    | (with_reducible show WC _ (.region 5 _ _) _ _
       apply WC_drawn 900 sch8_5 [7, 8] [] hP
       exact zq1; exact zq64; exact zq1)
    | (refine WD_LS 850 ?_ (LS_bslA (e := 31) (k := 19) [.int .i64 0, .int .i64 0, .string ⟨#[]⟩, .string ⟨#[]⟩, .string ⟨#[]⟩, .string ⟨#[]⟩, .bool false, .bool false, .bool false, .int .i64 0, .int .i64 0, .int .i64 0, .int .i64 0, .int .i64 0, .slice none 0 0, .slice none 0 0, .slice none 0 0, .slice none 0 0, .slice none 0 0] [.int .i64 0, .int .i64 0, .string ⟨#[]⟩, .string ⟨#[]⟩, .string ⟨#[]⟩, .string ⟨#[]⟩, .bool false, .bool false, .bool false, .int .i64 0, .int .i64 0, .int .i64 0, .int .i64 0, .int .i64 0, .slice none 0 0, .slice none 0 0, .slice none 0 0, .slice none 0 0, .slice none 0 0] hP ?_ ?_ rfl ?_ ?_ ?_) ?_ ?_
       exact zq64; exact zq1; exact zq1; decide; decide
       · (intro u hu; exact Z31one u hu)
       exact zq16; intro _ _ E2 h1 h2 h3; obtain rfl := En_eq _ _ h1 h2 h3; simp only [go_sem])
    | (refine WD_LS 850 ?_ (LS_call0 (α := ByteArray × Option Addr × Nat × Nat) (f := 17) (fun z => .ag [.va (.int .i64 k1), .va (.int .i64 ty1), .va (.string z.1), .va (.string t1), .va (.string t1), .va (.string ⟨#[]⟩), .va (.bool fl1), .va (.bool false), .va (.bool false), .va (.int .i64 1), .va (.int .i64 c1), .va (.int .i64 c1), .va (.int .i64 0), .va (.int .i64 0), .va (.slice none 0 0), .va (.slice none 0 0), .va (.slice none 0 0), .va (.slice none 0 0), .va (.slice z.2.1 z.2.2.1 z.2.2.2)]) (fun z => k1 ≠ 5 -> z.1 = v1x) hP ?_ ?_ ?_ ?_ ?_) ?_ ?_
       exact zq64; rfl; exact zq1; exact zq89; exact zq0
       · (intro a w r own hSim; simp only [go_sem]; rw [hX] at hSim; have hc := hnd _ FG (hG.ext hSim.frm.size fun k hk => hSim.frm.block k (hG.gl.lt k hk) (fun h => h)) hf1 hf2 hf3 _ d1 ((prs_at (hSim.fact 0 (AtdA (.mk k ty v t fl c kids) d) (by rw [hA]; repeat (first | exact zm | refine List.mem_cons_of_mem _ ?_))).2).1 _ hpm.1) (fun k hk => (hSim.bnd k _ hk).1); rw [e1] at hc; simp only [NdR, nodeC, N.k, N.ty, N.v, N.t, N.fl, N.c, List.map_cons, List.map_nil] at hc; with_reducible exact hc)
       exact zq16; intro ⟨v2, ka2, kn2, kc2⟩ hv2 E2 h1 h2 h3; obtain rfl := En_eq _ _ h1 h2 h3)
    | (refine WD_LS 850 ?_ (LS_appendA (e := 31) (size := 19) (bytes := 248) 2 (.slice a n q) n xs 1 [.int .i64 0, .int .i64 0, .string ⟨#[]⟩, .string ⟨#[]⟩, .string ⟨#[]⟩, .string ⟨#[]⟩, .bool false, .bool false, .bool false, .int .i64 0, .int .i64 0, .int .i64 0, .int .i64 0, .int .i64 0, .slice none 0 0, .slice none 0 0, .slice none 0 0, .slice none 0 0, .slice none 0 0] hP rfl ?_ ?_ ?_ ?_ ?_ ?_ ?_ ?_) ?_ ?_; exact zq64; exact zq1; exact zq0; exact zq44; exact zq22; rfl; omega; decide; omega; exact zq16; rintro ⟨g2, q2⟩ _ E2 h1 h2 h3; refine zz ?_; intro hX hP hA hQ)
    | (refine WD_LS 850 ?_ (LS_rowstoreN (g := g2) (q := n * 19) 3 (xs ++ [.int .i64 0, .int .i64 0, .string ⟨#[]⟩, .string ⟨#[]⟩, .string ⟨#[]⟩, .string ⟨#[]⟩, .bool false, .bool false, .bool false, .int .i64 0, .int .i64 0, .int .i64 0, .int .i64 0, .int .i64 0, .slice none 0 0, .slice none 0 0, .slice none 0 0, .slice none 0 0, .slice none 0 0]) [.int .i64 k1, .int .i64 ty1, .string v2, .string t1, .string t1, .string ⟨#[]⟩, .bool fl1, .bool false, .bool false, .int .i64 1, .int .i64 c1, .int .i64 c1, .int .i64 0, .int .i64 0, .slice none 0 0, .slice none 0 0, .slice none 0 0, .slice none 0 0, .slice ka2 kn2 kc2] (xs ++ [.int .i64 k1, .int .i64 ty1, .string v2, .string t1, .string t1, .string ⟨#[]⟩, .bool fl1, .bool false, .bool false, .int .i64 1, .int .i64 c1, .int .i64 c1, .int .i64 0, .int .i64 0, .slice none 0 0, .slice none 0 0, .slice none 0 0, .slice none 0 0, .slice ka2 kn2 kc2]) hP rfl ?_ zw0 ?_ sz31 ?_ ?_) ?_ ?_
       · exact zq64
       · (simp only [go_sem, addr_add, Nat.zero_add]; try rfl)
       · (simp only [go_sem, List.map_cons, List.map_nil]; try rfl)
       exact zq45; exact setLast hxl (by rfl) (by rfl); exact zq16; intro _ _ E2 h1 h2 h3; refine zz ?_; intro hX hP hA hQ)
    | exact zG7 [(0, 0), (1, 1), (4, 2)] (hJ (⟨n + 1, some ⟨g2, 0, none⟩, q2, xs ++ [.int .i64 k1, .int .i64 ty1, .string v2, .string t1, .string t1, .string ⟨#[]⟩, .bool fl1, .bool false, .bool false, .int .i64 1, .int .i64 c1, .int .i64 c1, .int .i64 0, .int .i64 0, .slice none 0 0, .slice none 0 0, .slice none 0 0, .slice none 0 0, .slice ka2 kn2 kc2]⟩) ⟨zj, hsn v2 ka2 kn2 kc2 hv2⟩ zj)
    | refine zs7 ?_
   all_goals try first
    | omega | (unfold I64; omega)
 · refine vc_ok 900 _ _ _ ?_
   obtain rfl : n = ps.length := by omega
   repeat' first
    | refine zB ?_ | apply zI <;> intro hdec | with_reducible constructor
    | apply WX_finX (idle14 _ _) hX rfl hQ (.inl rfl)
    | with_reducible refine And.intro ?_ ?_
    | refine zs7 ?_
   all_goals try first
    | omega
    | (intro a' w' r own hs'
       rw [hA] at hs'; have hat := (hs'.fact 0 (AtdA (.mk k ty v t fl c kids) d) zp).2; have e0 := (prs_at hat).2
       have e1 : (N.mk k ty v t fl c kids).vis.filter (fun p => p.k == K) = ps.map fun p => p.1.al := by
        rw [<- e0, hps, List.filter_map]
        congr 1
        refine List.filter_congr fun p _ => ?_
        obtain ⟨⟨_, _, _, _, _, _, _⟩, _⟩ := p; rfl
       have e2 := hi.2.al; rw [List.take_length, List.map_map] at e2
       refine ⟨⟨a, q, ps.length, xs⟩, ⟨by rw [e1]; exact e2, by rw [e1, List.length_map]⟩, ⟨_, rfl, fun r => tuSA _ _⟩, hs'.frm, fun k => own k = some (.fa 2), fun k hk => ?_, (hs'.fact 2 (Row 31 19 (.slice a ps.length q) ps.length xs) zp).2⟩
       obtain ⟨b1, b2⟩ := hs'.bnd k _ hk; exact ⟨b2.elim id False.elim, b1⟩)
end
