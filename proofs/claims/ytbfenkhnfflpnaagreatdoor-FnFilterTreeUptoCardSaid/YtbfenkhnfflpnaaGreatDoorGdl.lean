/- Lemmas for FnFilterTree; each condition stands in its statement. -/
import Derived.Test.YtbfenkhnfflpnaaGreatDoorGdk
namespace Go.Proofs.YtbfenkhnfflpnaaGreatDoor.Sx
open Go Go.RowKit
set_option maxRecDepth 100000
set_option maxHeartbeats 40000000
set_option linter.all false
section
attribute [local irreducible] leT leH WO WX WC WD LS WS WQ
theorem ATds.take {w : World} {F : Nat -> Prop} : ∀ {l : List N} {ds : List D} (i : Nat), ATds w F l ds -> ATds w F (l.take i) (ds.take i)
 | [], ds, i, h => by
   rw [ATds] at h; subst h
   simp [ATds]
 | n :: l, ds, 0, h => by simp [ATds]
 | n :: l, ds, i + 1, h => by
   rw [ATds] at h; obtain ⟨d, es, rfl, h1, h2⟩ := h; rw [List.take_succ_cons, List.take_succ_cons, ATds]; exact ⟨d, es.take i, rfl, h1, h2.take i⟩
theorem prsl_snoc (x : N) (d : D) : ∀ (l : List N) (ds : List D), l.length = ds.length -> prsl (l ++ [x]) (ds ++ [d]) = prsl l ds ++ prs x d
 | [], [], _ => by simp [prsl]
 | n :: l, e :: es, h => by
   rw [List.cons_append, List.cons_append, prsl, prsl, prsl_snoc x d l es (by simpa using h), List.append_assoc]
 | [], _ :: _, h => by simp at h
 | _ :: _, [], h => by simp at h
theorem SlC.at {w : World} {F : Nat -> Prop} {e : Nat} {v : Value} {xs : List Value} (h : SlC w F e v xs) : ∃ A cp, v = .slice A xs.length cp /\ (xs = [] \/ A.isSome = true) /\ ∀ i u, xs[i]? = some u -> F (A.getD default).block /\ w.cell? ((A.getD default).add i) = some u := by
 obtain ⟨h1, h2⟩ := h
 rcases h1.2 with ⟨rfl, h0⟩ | ⟨g, cap, cur, rfl, _, hg, _, _, _, _⟩
 · have : xs = [] := List.eq_nil_of_length_eq_zero h0
   subst this; exact ⟨none, 0, rfl, .inl rfl, fun i u hu => by simp at hu⟩
 · exact ⟨some ⟨g, 0, none⟩, cap, rfl, .inr rfl, fun i u hu => ⟨h2 g rfl, h1.cells (g := g) rfl i u hu⟩⟩
structure WkL where
 n : Nat
 a : Option Addr
 q : Nat
 m : Nat
 xs : List Value
theorem c25_14 (w : World) (F : Nat -> Prop) (hFl : ∀ k, F k -> k < w.heap.size) (g gx b tk : Nat) (F0 : Nat -> Prop) (K : Int) (a : Option Addr) (m cp : Nat) (xs : List Value) (hg : Hp w g 77 (flwC K a m cp)) (hrow : (Row 54 1 (.slice a m cp) m xs).P w F0) (hf0 : ∀ k, F0 k -> k ≠ g /\ k < w.heap.size) (hdis : ∀ k, F k -> k ≠ g /\ ¬ F0 k)
 (fl : Bool) (s1 s2 : Value) (l : List N) (ds : List D) (hws : ∀ x ∈ l, WalkC x) (hat : ATds w F l ds) (hsl : SlC w F 54 s1 (ds.map D.x)) (hFg : F gx) (hFb : F b) (hgx : Hp w gx 99 [ptr b, ptr tk, .pointer none, .bool fl, s1, s2, .slice none 0 0, .pointer none]) (hb : Hp w b 230 baseC) (hlim : m + (1 + N.cntl l) <= 1000000) :
 Calls Tryz.prog 25 [.iface 75 (ptr g), .iface 93 (ptr gx)].toArray w (WalkQ (.tu []) g F0 K (m + (vy K 14 (.iface 93 (ptr gx))).length + (hit K (prsl l ds)).length) (xs ++ (vy K 14 (.iface 93 (ptr gx))) ++ hit K (prsl l ds)) w) := by
 obtain ⟨A, scp, rfl, e2, hcell⟩ := hsl.at; simp only [List.length_map] at hgx e2 hcell; have hlen : ds.length = l.length := hat.len; have hFm : ∀ k, F k -> ¬ (k ∈ [g] \/ F0 k) := fun k hk h => h.elim (fun h => (hdis k hk).1 (by simpa using h)) (hdis k hk).2
 refine calls_startF 1000 [g] [(0, 77, [.va (.int .i64 K), .va (.slice a m cp)])] [.sc (.ic 75 0 0), .sc (.va (.iface 93 (ptr gx)))] (Row 54 1 (.slice a m cp) m xs) F0 Tryz.func25 rfl ⟨⟨rfl, rfl⟩, ⟨rfl, rfl⟩, trivial⟩ zp (HpOk_one hg rfl) hrow (fun k hk => ⟨by simpa using (hf0 k hk).1, (hf0 k hk).2⟩) ?_
 intro E hX hP hA hQ; have hll := len_le l; have hv := vy_len K 14 (.iface 93 (ptr gx))
 repeat' first
  | refine zB ?_ | apply zI <;> intro hdec | with_reducible constructor
  | apply WX_fin hX rfl hQ (.inr rfl)
  | (refine WO_LS 850 (LS_visit g 14 K 93 gx 0 rfl a m cp xs (by simp [kOk]) hP ?_ rfl rfl ?_ ?_ ?_ ?_ ?_ zo) ?_; exact zq28; exact zq0; exact zq0; exact zq15; exact zq14; exact zq13; rintro ⟨a1, q1⟩ _ E2 h1 h2 h3; refine zz ?_; intro hX hP hA hQ) | (refine zr7 ?_; intro _ _) | (refine zcS 47 (.tu []) ?_ ?_; exact zq36) | (refine WO_LE 850 (LS_rc (⟨gx, 4, none⟩) [.slice A ds.length scp] false hX ?_ ?_ ?_ ?_ (fun _ => rfl)) ?_; exact zq0; exact zq12; exact zq29; exact sz50; intro _ _) | refine zs1 ?_
 apply WC_loopG (ι := WkL) (fun x => x.n <= l.length /\ x.m = m + (vy K 14 (.iface 93 (ptr gx))).length + (hit K (prsl (l.take x.n) (ds.take x.n))).length /\ x.xs = xs ++ (vy K 14 (.iface 93 (ptr gx))) ++ hit K (prsl (l.take x.n) (ds.take x.n))) [258, 259, 260, 26, 261, 262, 263, 264, 257] (fun x => [(257, .sc (.va (.int .i64 x.n)))]) (fun x => [(0, 77, [.va (.int .i64 K), .va (.slice x.a x.m x.q)])]) (fun x => [(0, Row 54 1 (.slice x.a x.m x.q) x.m x.xs)]) (fun x => l.length - x.n) ⟨0, a1, q1, m + (vy K 14 (.iface 93 (ptr gx))).length, xs ++ (vy K 14 (.iface 93 (ptr gx)))⟩ ⟨Nat.zero_le _, by simp [prsl, hit], by simp [prsl, hit]⟩ [(1, 0)] hX
 exact zq10; exact zq5; exact zq7; exact zq5; rfl; rfl; rfl; exact zq4; rintro ⟨n, a2, q2, m2, xs2⟩ ⟨hi, hm2, hxs2⟩ E' hX' hA' hQ' J hJ; refine zl ?_; intro hX hP hA hQ
 refine vc_ok 900 _ _ _ ?_
 dsimp only at hi hm2 hxs2 hA
 by_cases hil : n < l.length
 · obtain ⟨x, hx⟩ : ∃ x, l[n]? = some x := ⟨_, List.getElem?_eq_getElem hil⟩
   obtain ⟨d, hd⟩ : ∃ d, ds[n]? = some d := ⟨_, List.getElem?_eq_getElem zo⟩
   have hxm := List.mem_of_getElem? hx
   obtain ⟨A1, rfl⟩ : ∃ A1, A = some A1 := by
    rcases e2 with e2 | h
    exact zq78; exact zq53
   have hatx : ATd w F x d := hat.get hx hd
   have htk : prsl (l.take (n + 1)) (ds.take (n + 1)) = prsl (l.take n) (ds.take n) ++ prs x d := by
    rw [List.take_add_one, List.take_add_one, hx, hd]; exact prsl_snoc x d _ _ (by simp; omega)
   have hl1 : (hit K (prs x d)).length <= x.cnt := by rw [<- prs_len hatx]; exact hit_len _ _
   have hl2 : (hit K (prsl (l.take n) (ds.take n))).length <= N.cntl (l.take n) := by rw [<- prsl_len (hat.take n)]; exact hit_len _ _
   have hl3 := take_cnt hil; have hl4 := cnt_take_le (n + 1) l; rw [show l[n] = x from by simpa [List.getElem?_eq_getElem hil] using hx] at hl3; have hwx := hws x hxm; obtain ⟨hFx, hcx⟩ := hcell n d.x (by simp [hd]); have hcx' : w.cell? (A1.add n) = some d.x := hcx
   have hFx' : F (A1.add n).block := by rw [add_block]; exact hFx
   repeat' first
    | refine zB ?_ | apply zI <;> intro hdec | with_reducible constructor | (refine WO_LE 850 (LS_rc (A1.add n) [d.x] false hX ?_ ?_ ?_ ?_ (fun _ => rfl)) ?_; exact zq0; exact one_cell hcx'; exact hFm _ hFx'; exact sz54; intro _ _) | (refine WO_LS 850 (LS_walk g x d F K 0 a2 m2 q2 xs2 hwx (by rw [hX]; exact hatx) (by rw [hX]; exact fun k hk => ⟨hFl k hk, hFm k hk⟩) (by rw [hX]; exact .inl (List.mem_singleton_self _)) hP ?_ rfl rfl ?_ ?_ ?_ ?_ ?_ zo) ?_; exact zq28; exact zq0; exact zq0; exact zq15; exact zq14; exact zq13; rintro ⟨a3, q3⟩ _ E2 h1 h2 h3; refine zz ?_; intro hX hP hA hQ) | exact zr105 | refine zs33 ?_
   all_goals try first
    | omega | (unfold I64; omega)
 · have hnl : n = l.length := by omega
   rw [hnl, List.take_length, <- hlen, List.take_length] at hm2 hxs2
   have hnd : n = ds.length := by omega
   subst hm2 hxs2 hnd
   repeat' first
    | refine zB ?_ | apply zI <;> intro hdec | with_reducible constructor
    | apply WX_fin hX rfl hQ (.inr rfl)
    | refine zs1 ?_
   all_goals try first
    | (intro a' w' r own hs'
       rw [hA] at hs'; exact retN_finF (res := fun _ : Option Addr × Nat => .tu []) (φ := fun _ => True) (cs := fun x => flwC K x.1 (m + (vy K 14 (.iface 93 (ptr gx))).length + (hit K (prsl l ds)).length) x.2) (B := fun x : Option Addr × Nat => Row 54 1 (.slice x.1 (m + (vy K 14 (.iface 93 (ptr gx))).length + (hit K (prsl l ds)).length) x.2) (m + (vy K 14 (.iface 93 (ptr gx))).length + (hit K (prsl l ds)).length) (xs ++ (vy K 14 (.iface 93 (ptr gx))) ++ hit K (prsl l ds))) hs' (a2, q2) trivial zm (fun r' => tu0) (j := 0) zm)
theorem c25_11 (w : World) (F : Nat -> Prop) (hFl : ∀ k, F k -> k < w.heap.size) (g gx b tk : Nat) (F0 : Nat -> Prop) (K : Int) (a : Option Addr) (m cp : Nat) (xs : List Value) (hg : Hp w g 77 (flwC K a m cp)) (hrow : (Row 54 1 (.slice a m cp) m xs).P w F0) (hf0 : ∀ k, F0 k -> k ≠ g /\ k < w.heap.size) (hdis : ∀ k, F k -> k ≠ g /\ ¬ F0 k)
 (fl : Bool) (s1 : Value) (l : List N) (ds : List D) (ps : List Nat) (hws : ∀ x ∈ l, WalkC x) (hat : ATds w F l ds) (hps : ds.map D.x = ps.map fun p => .iface 157 (ptr p)) (hsl : SlC w F 157 s1 (ps.map ptr)) (hFg : F gx) (hFb : F b) (hgx : Hp w gx 156 [ptr b, ptr tk, .pointer none, .bool fl, s1, .pointer none]) (hb : Hp w b 230 baseC) (hlim : m + (1 + N.cntl l) <= 1000000) :
 Calls Tryz.prog 25 [.iface 75 (ptr g), .iface 153 (ptr gx)].toArray w (WalkQ (.tu []) g F0 K (m + (vy K 11 (.iface 153 (ptr gx))).length + (hit K (prsl l ds)).length) (xs ++ (vy K 11 (.iface 153 (ptr gx))) ++ hit K (prsl l ds)) w) := by
 obtain ⟨A, scp, rfl, e2, hcell⟩ := hsl.at
 have hpl : ps.length = ds.length := by have := congrArg List.length hps; simpa using this.symm
 simp only [List.length_map, hpl] at hgx e2 hcell; have hlen : ds.length = l.length := hat.len; have hFm : ∀ k, F k -> ¬ (k ∈ [g] \/ F0 k) := fun k hk h => h.elim (fun h => (hdis k hk).1 (by simpa using h)) (hdis k hk).2
 refine calls_startF 1000 [g] [(0, 77, [.va (.int .i64 K), .va (.slice a m cp)])] [.sc (.ic 75 0 0), .sc (.va (.iface 153 (ptr gx)))] (Row 54 1 (.slice a m cp) m xs) F0 Tryz.func25 rfl ⟨⟨rfl, rfl⟩, ⟨rfl, rfl⟩, trivial⟩ zp (HpOk_one hg rfl) hrow (fun k hk => ⟨by simpa using (hf0 k hk).1, (hf0 k hk).2⟩) ?_
 intro E hX hP hA hQ; have hll := len_le l; have hv := vy_len K 11 (.iface 153 (ptr gx))
 repeat' first
  | refine zB ?_ | apply zI <;> intro hdec | with_reducible constructor
  | apply WX_fin hX rfl hQ (.inr rfl)
  | (refine WO_LS 850 (LS_visit g 11 K 153 gx 0 rfl a m cp xs (by simp [kOk]) hP ?_ rfl rfl ?_ ?_ ?_ ?_ ?_ zo) ?_; exact zq28; exact zq0; exact zq0; exact zq15; exact zq14; exact zq13; rintro ⟨a1, q1⟩ _ E2 h1 h2 h3; refine zz ?_; intro hX hP hA hQ) | (refine zr7 ?_; intro _ _) | (refine zcS 47 (.tu []) ?_ ?_; exact zq36) | (refine WO_LE 850 (LS_rc (⟨gx, 4, none⟩) [.slice A ds.length scp] false hX ?_ ?_ ?_ ?_ (fun _ => rfl)) ?_; exact zq0; exact zq12; exact zq29; exact sz154; intro _ _) | refine zs1 ?_
 apply WC_loopG (ι := WkL) (fun x => x.n <= l.length /\ x.m = m + (vy K 11 (.iface 153 (ptr gx))).length + (hit K (prsl (l.take x.n) (ds.take x.n))).length /\ x.xs = xs ++ (vy K 11 (.iface 153 (ptr gx))) ++ hit K (prsl (l.take x.n) (ds.take x.n))) [199, 200, 201, 21, 202, 203, 204, 205, 206, 198] (fun x => [(198, .sc (.va (.int .i64 x.n)))]) (fun x => [(0, 77, [.va (.int .i64 K), .va (.slice x.a x.m x.q)])]) (fun x => [(0, Row 54 1 (.slice x.a x.m x.q) x.m x.xs)]) (fun x => l.length - x.n) ⟨0, a1, q1, m + (vy K 11 (.iface 153 (ptr gx))).length, xs ++ (vy K 11 (.iface 153 (ptr gx)))⟩ ⟨Nat.zero_le _, by simp [prsl, hit], by simp [prsl, hit]⟩ [(1, 0)] hX
 exact zq10; exact zq5; exact zq7; exact zq5; rfl; rfl; rfl; exact zq4; rintro ⟨n, a2, q2, m2, xs2⟩ ⟨hi, hm2, hxs2⟩ E' hX' hA' hQ' J hJ; refine zl ?_; intro hX hP hA hQ
 refine vc_ok 900 _ _ _ ?_
 dsimp only at hi hm2 hxs2 hA
 by_cases hil : n < l.length
 · obtain ⟨x, hx⟩ : ∃ x, l[n]? = some x := ⟨_, List.getElem?_eq_getElem hil⟩
   obtain ⟨d, hd⟩ : ∃ d, ds[n]? = some d := ⟨_, List.getElem?_eq_getElem zo⟩
   have hxm := List.mem_of_getElem? hx
   obtain ⟨A1, rfl⟩ : ∃ A1, A = some A1 := by
    rcases e2 with e2 | h
    exact zq78; exact zq53
   have hatx : ATd w F x d := hat.get hx hd
   have htk : prsl (l.take (n + 1)) (ds.take (n + 1)) = prsl (l.take n) (ds.take n) ++ prs x d := by
    rw [List.take_add_one, List.take_add_one, hx, hd]; exact prsl_snoc x d _ _ (by simp; omega)
   have hl1 : (hit K (prs x d)).length <= x.cnt := by rw [<- prs_len hatx]; exact hit_len _ _
   have hl2 : (hit K (prsl (l.take n) (ds.take n))).length <= N.cntl (l.take n) := by rw [<- prsl_len (hat.take n)]; exact hit_len _ _
   have hl3 := take_cnt hil; have hl4 := cnt_take_le (n + 1) l; rw [show l[n] = x from by simpa [List.getElem?_eq_getElem hil] using hx] at hl3; have hwx := hws x hxm
   obtain ⟨p, hp⟩ : ∃ p, ps[n]? = some p := ⟨_, List.getElem?_eq_getElem zo⟩
   obtain ⟨hFx, hcx⟩ := hcell n (ptr p) (by simp [hp]); have hcx' : w.cell? (A1.add n) = some (ptr p) := hcx
   have hFx' : F (A1.add n).block := by rw [add_block]; exact hFx
   have hpd : d.x = .iface 157 (ptr p) := by
    have := congrArg (fun z => z[n]?) hps
    simpa [hd, hp] using this
   repeat' first
    | refine zB ?_ | apply zI <;> intro hdec | with_reducible constructor | (refine WO_LE 850 (LS_rc (A1.add n) [ptr p] false hX ?_ ?_ ?_ ?_ (fun _ => rfl)) ?_; exact zq0; exact one_cell hcx'; exact hFm _ hFx'; exact sz157; intro _ _)
    | (refine WO_LS 850 (LS_walk g x d F K 0 a2 m2 q2 xs2 hwx (by rw [hX]; exact hatx) (by rw [hX]; exact fun k hk => ⟨hFl k hk, hFm k hk⟩) (by rw [hX]; exact .inl (List.mem_singleton_self _)) hP ?_ rfl rfl ?_ ?_ ?_ ?_ ?_ zo) ?_
       exact zq28; exact zq0
       · simp only [go_sem, hpd]
       exact zq15; exact zq14; exact zq13; rintro ⟨a3, q3⟩ _ E2 h1 h2 h3; refine zz ?_; intro hX hP hA hQ)
    | exact zr105 | refine zs33 ?_
   all_goals try first
    | omega | (unfold I64; omega)
 · have hnl : n = l.length := by omega
   rw [hnl, List.take_length, <- hlen, List.take_length] at hm2 hxs2
   have hnd : n = ds.length := by omega
   subst hm2 hxs2 hnd
   repeat' first
    | refine zB ?_ | apply zI <;> intro hdec | with_reducible constructor
    | apply WX_fin hX rfl hQ (.inr rfl)
    | refine zs1 ?_
   all_goals try first
    | (intro a' w' r own hs'
       rw [hA] at hs'; exact retN_finF (res := fun _ : Option Addr × Nat => .tu []) (φ := fun _ => True) (cs := fun x => flwC K x.1 (m + (vy K 11 (.iface 153 (ptr gx))).length + (hit K (prsl l ds)).length) x.2) (B := fun x : Option Addr × Nat => Row 54 1 (.slice x.1 (m + (vy K 11 (.iface 153 (ptr gx))).length + (hit K (prsl l ds)).length) x.2) (m + (vy K 11 (.iface 153 (ptr gx))).length + (hit K (prsl l ds)).length) (xs ++ (vy K 11 (.iface 153 (ptr gx))) ++ hit K (prsl l ds))) hs' (a2, q2) trivial zm (fun r' => tu0) (j := 0) zm)
end
section
attribute [local irreducible] leT leH WO WX WC WD
theorem c104 (w : World) (FG : Nat -> Prop) (hG : Gy w FG) (u : Nat) (hu : u < 1000000000000000000) : Calls Tryz.prog 104 [.int .u64 u, .int .i64 10].toArray w (RetS (.sc (.va (.string ⟨(Lib.decDigits u).toArray⟩))) w) := by
 refine calls_start 1000 Tryz.func104 rfl fun E hX hP hA hQ => ?_
 repeat' first
  | refine zA ?_ | apply zI <;> intro hdec | with_reducible constructor
  | (refine zcS 140 (.sc (.va (.string ⟨(Lib.decDigits u).toArray⟩))) ?_ ?_
     · (intro a w r own hSim; simp only [go_sem]; have hGs := hG.of (by rw [hX] at hSim; exact hSim) (fun k hk h => h); with_reducible exact c140 _ FG hGs u hu))
  | refine zs0 ?_
 all_goals try first
  | exact zr0
theorem c73i (w : World) (FG : Nat -> Prop) (hG : Gy w FG) (n : Int) (hn : I64 n) : Calls Tryz.prog 73 [.iface 2 (.int .i64 n)].toArray w (RetS (.sc (.va (.string ⟨(Lib.itoa n).toArray⟩))) w) := by
 refine calls_start 1000 Tryz.func73 rfl fun E hX hP hA hQ => ?_
 repeat' first
  | refine zA ?_ | apply zI <;> intro hdec | with_reducible constructor
  | (refine zcS 24 (.sc (.va (.string ⟨(Lib.itoa n).toArray⟩))) ?_ ?_
     · (intro a w r own hSim; simp only [go_sem]; have hGs := hG.of (by rw [hX] at hSim; exact hSim) (fun k hk h => h); with_reducible exact c24 _ FG hGs n hn))
  | refine zs0 ?_
 all_goals try first
  | exact zr0
theorem c73u (w : World) (FG : Nat -> Prop) (hG : Gy w FG) (u : Nat) (hu : u < 1000000000000000000) : Calls Tryz.prog 73 [.iface 224 (.int .u64 u)].toArray w (RetS (.sc (.va (.string ⟨(Lib.decDigits u).toArray⟩))) w) := by
 refine calls_start 1000 Tryz.func73 rfl fun E hX hP hA hQ => ?_
 repeat' first
  | refine zA ?_ | apply zI <;> intro hdec | with_reducible constructor
  | (refine zcS 104 (.sc (.va (.string ⟨(Lib.decDigits u).toArray⟩))) ?_ ?_
     · (intro a w r own hSim; simp only [go_sem]; have hGs := hG.of (by rw [hX] at hSim; exact hSim) (fun k hk h => h); with_reducible exact c104 _ FG hGs u hu))
  | refine zs0 ?_
 all_goals try first
  | exact zr0
theorem c73 (w : World) (FG : Nat -> Prop) (hG : Gy w FG) (x : Value) (v : ByteArray) (h : IntV x v) : Calls Tryz.prog 73 [x].toArray w (RetS (.sc (.va (.string v))) w) := by
 rcases h with ⟨n, rfl, hn, rfl⟩ | ⟨n, rfl, hn, rfl⟩
 exact c73i w FG hG n hn; exact c73u w FG hG n hn
theorem c30n  (w : World) : Calls Tryz.prog 30 [.pointer none].toArray w (RetS (.sc (.va (.slice none 0 0))) w) := by
 refine calls_start 1000 Tryz.func30 rfl fun E hX hP hA hQ => ?_
 repeat' first
  | refine zA ?_ | apply zI <;> intro hdec | with_reducible constructor | refine zs1 ?_
 all_goals try first
  | exact zr0
theorem c76 (w : World) (tk p : Nat) (ty c : Int) (t : ByteArray) (htk : Hp w tk 87 (tokC ty t p)) (hp : Hp w p 172 (posC c)) : Calls Tryz.prog 76 [ptr tk].toArray w (RetS (.ag ((posC c).map .va)) w) := by
 refine calls_start 1000 Tryz.func76 rfl fun E hX hP hA hQ => ?_
 repeat' first
  | refine zA ?_ | apply zI <;> intro hdec | with_reducible constructor
  | refine zu 4 sch76_4 [21] ?_
  | (refine WO_LE 850 (LS_rc (⟨tk, 6, none⟩) [ptr p] false hX ?_ ?_ ?_ ?_ (fun _ => rfl)) ?_; exact zq0; exact zq18; exact zq8; exact sz79; intro _ _) | (refine WS_rc 850 (⟨p, 0, none⟩) ([.int .i64 1]) false hX ?_ rfl ?_ ?_ ?_ ?_ (fun _ => rfl) ?_; exact zq2; exact zq0; exact one_cell (cell_hp hp rfl); exact zq8; exact sz3) | (refine WS_rc 850 (⟨p, 1, none⟩) ([.int .i64 c]) false hX ?_ rfl ?_ ?_ ?_ ?_ (fun _ => rfl) ?_; exact zq2; exact zq0; exact one_cell (cell_hp hp rfl); exact zq8; exact sz3) | (refine WS_rc 850 (⟨p, 2, none⟩) ([.int .i64 c]) false hX ?_ rfl ?_ ?_ ?_ ?_ (fun _ => rfl) ?_; exact zq2; exact zq0; exact one_cell (cell_hp hp rfl); exact zq8; exact sz3) | (refine WS_rc 850 (⟨p, 3, none⟩) ([.int .i64 0]) false hX ?_ rfl ?_ ?_ ?_ ?_ (fun _ => rfl) ?_; exact zq2; exact zq0; exact one_cell (cell_hp hp rfl); exact zq8; exact sz3) | (refine WS_rc 850 (⟨p, 4, none⟩) ([.int .i64 0]) false hX ?_ rfl ?_ ?_ ?_ ?_ (fun _ => rfl) ?_; exact zq2; exact zq0; exact one_cell (cell_hp hp rfl); exact zq8; exact sz3) | refine zs1 ?_
 all_goals try first
  | (intro a w' r own hs'; exact ⟨⟨_, rfl, fun r => ⟨posC c, rfl, CL_va (posC c)⟩⟩, hs'.frm⟩)
theorem c273 (w : World) (g b tk : Nat) (v : ByteArray) (hg : Hp w g 130 [ptr b, ptr tk, .string v]) : Calls Tryz.prog 273 [ptr g].toArray w (RetS (.sc (.va (ptr tk))) w) := by
 refine calls_start 1000 Tryz.func273 rfl fun E hX hP hA hQ => ?_
 repeat' first
  | refine zA ?_ | apply zI <;> intro hdec | with_reducible constructor | (refine WO_LE 850 (LS_rc (⟨g, 1, none⟩) [ptr tk] false hX ?_ ?_ ?_ ?_ (fun _ => rfl)) ?_; exact zq0; exact one_cell (cell_hp hg rfl); exact zq8; exact sz82; intro _ _) | refine zs1 ?_
 all_goals try first
  | exact zr0
theorem c224 (w : World) (b : Nat) (hb : Hp w b 230 baseC) : Calls Tryz.prog 224 [ptr b].toArray w (RetS (.sc (.va (.pointer none))) w) := by
 refine calls_start 1000 Tryz.func224 rfl fun E hX hP hA hQ => ?_
 repeat' first
  | refine zA ?_ | apply zI <;> intro hdec | with_reducible constructor | (refine WO_LE 850 (LS_rc (⟨b, 1, none⟩) [.pointer none] false hX ?_ ?_ ?_ ?_ (fun _ => rfl)) ?_; exact zq0; exact one_cell (cell_hp hb rfl); exact zq8; exact sz88; intro _ _) | refine zs1 ?_
 all_goals try first
  | exact zr0
theorem c225 (w : World) (b : Nat) (hb : Hp w b 230 baseC) : Calls Tryz.prog 225 [ptr b].toArray w (RetS (.sc (.va (.string ⟨#[]⟩))) w) := by
 refine calls_start 1000 Tryz.func225 rfl fun E hX hP hA hQ => ?_
 repeat' first
  | refine zA ?_ | apply zI <;> intro hdec | with_reducible constructor | (refine WO_LE 850 (LS_rc (⟨b, 0, none⟩) [.string ⟨#[]⟩] false hX ?_ ?_ ?_ ?_ (fun _ => rfl)) ?_; exact zq0; exact one_cell (cell_hp hb rfl); exact zq8; exact sz9; intro _ _) | refine zs1 ?_
 all_goals try first
  | exact zr0
section
variable {E : En} {S : St} {dst : Option Tmp} {ty : TypeId} {pos : String} {after : Array Edge} {guard : Option (Nat × Bool)} {c : Call} {o : Oper}
theorem LS_meth {x : Operand} {name : String} {f : FuncId} (res : SV) (hl : res.lt 0) (T gx : Nat) (hm : methT Tryz.prog T name f = true) (hf : callable Tryz.prog f = true) (hP : E.X.P = Tryz.prog) (hc : c.callee = .invoke x name) (ha : c.args = #[]) (hx : ev S x = .sc (.va (.iface T (ptr gx))))
 (hcall : ∀ a w r own, Sim E.X S E.A a w r own -> Calls Tryz.prog f [ptr gx].toArray w (RetS res w)) :
 LS E S ⟨dst, .call c, ty, pos, after, guard⟩ [] (fun _ : Unit => True) (fun _ => S.put dst res) (fun _ => E.A) := by
 refine LS_enterS (o := ⟨dst, .call c, ty, pos, after, guard⟩) _ hl fun a w r own hs => ?_
 have he := va_of (hx ▸ (ev_ok hs.toR x).1); rw [hP]
 refine ⟨f, _, exec_invoke hc he (run_methT hm (Tryz.prog.types.size + Made.depth - 1) _ w) hf rfl, ?_⟩
 rw [ha]
 simpa using hcall a w r own hs
theorem LS_methB {x : Operand} {name : String} {f : FuncId} (res : SV) (hl : res.lt 0) (T gx b : Nat) (hm : methV Tryz.prog T name f = true) (hf : callable Tryz.prog f = true) (hP : E.X.P = Tryz.prog) (hc : c.callee = .invoke x name) (ha : c.args = #[]) (hx : ev S x = .sc (.va (.iface T (ptr gx))))
 (hcell : ∀ a w r own, Sim E.X S E.A a w r own -> w.cell? ⟨gx, 0, none⟩ = some (ptr b)) (hcall : ∀ a w r own, Sim E.X S E.A a w r own -> Calls Tryz.prog f [ptr b].toArray w (RetS res w)) :
 LS E S ⟨dst, .call c, ty, pos, after, guard⟩ [] (fun _ : Unit => True) (fun _ => S.put dst res) (fun _ => E.A) := by
 refine LS_enterS (o := ⟨dst, .call c, ty, pos, after, guard⟩) _ hl fun a w r own hs => ?_
 have he := va_of (hx ▸ (ev_ok hs.toR x).1); rw [hP]
 refine ⟨f, _, exec_invoke hc he (run_methV hm (Tryz.prog.types.size + Made.depth - 1) w (hcell a w r own hs)) hf rfl, ?_⟩
 rw [ha]
 simpa using hcall a w r own hs
end
section
attribute [local irreducible] LS WS WQ
theorem vaLt (v : Value) : (SV.sc (.va v)).lt 0 := True.intro
theorem Hp.of {P : Program} {w0 : World} {d : List Deferred} {rt : List (Nat × Nat)} {S : St} {A : Facts} {a : Act} {w : World} {r : Nat -> Nat} {own : Nat -> Option Ent} {g t : Nat} {cs : List Value} (h : w0.heap[g]? = some (.cells cs.toArray t (0, 0))) (hs : Sim ⟨P, w0, fun _ => False, d, rt⟩ S A a w r own) : Hp w g t cs := hs.keep h
theorem c74 (w : World) (g b tk p : Nat) (ty : Int) (v t : ByteArray) (hg : Hp w g 130 [ptr b, ptr tk, .string v]) (htk : Hp w tk 87 (tokC ty t p)) : Calls Tryz.prog 74 [.iface 128 (ptr g)].toArray w (RetS (.sc (.va (.string t))) w) := by
 refine calls_start 1000 Tryz.func74 rfl fun E hX hP hA hQ => ?_
 repeat' first
  | refine zA ?_ | apply zI <;> intro hdec | with_reducible constructor
  | (refine WO_LE 850 (LS_meth (f := 273) (.sc (.va (ptr tk))) (vaLt _) 128 g zk zk hP rfl rfl ?_ ?_) ?_
     · exact zq0
     · (intro a w r own hSim; rw [hX] at hSim; exact c273 _ g b tk v (Hp.of hg hSim))
     intro _ _)
  | (refine WO_LE 850 (LS_rc (⟨tk, 3, none⟩) [.string t] false hX ?_ ?_ ?_ ?_ (fun _ => rfl)) ?_; exact zq0; exact zq18; exact zq8; exact sz9; intro _ _) | refine zs1 ?_
 all_goals try first
  | exact zr0
structure SmL where
 n : Nat
 a : Option Addr
 q : Nat
 xs : List Value
theorem c71 (w : World) (ys : List Value) (A : Addr) (cp : Nat) (hc : ∀ i u, ys[i]? = some u -> w.cell? (A.add i) = some u) (hy : ∀ u ∈ ys, ∃ T p, u = .iface T p) (hlt : A.block < w.heap.size) (hlen : ys.length <= 1000) :
 Calls Tryz.prog 71 [.slice (some A) ys.length cp].toArray w (Ret1 (fun z : Option Addr × Nat => .sc (.va (.slice z.1 ys.length z.2))) (fun _ => True) (fun z => Row 54 1 (.slice z.1 ys.length z.2) ys.length ys) w) := by
 refine calls_start 1000 Tryz.func71 rfl fun E hX hP hA hQ => ?_
 repeat' first
  | refine zA ?_ | apply zI <;> intro hdec | with_reducible constructor
  | apply WX_fin hX rfl hQ (.inr rfl)
  | refine zs0 ?_
 apply WC_addE (Row 54 1 (.slice none 0 0) 0 []) (fun w => ⟨World.ownsRow_nil w _ _ _, fun k => by simp [Value.ownBlock], fun u hu => by cases hu⟩)
 intro E2 h1 h2 h3; dsimp only; refine zz ?_; intro hX hP hA hQ
 apply WC_loopG (ι := SmL) (fun x => x.n <= ys.length /\ x.xs = ys.take x.n) [9, 10, 11, 5, 12, 13, 14, 15, 16, 17, 3, 18, 8] (fun x => [(3, .sc (.va (.slice x.a x.n x.q))), (8, .sc (.va (.int .i64 x.n)))]) (fun _ => []) (fun x => [(0, Row 54 1 (.slice x.a x.n x.q) x.n x.xs)]) (fun x => ys.length - x.n) ⟨0, none, 0, []⟩ ⟨Nat.zero_le _, rfl⟩ [(0, 0)] hX
 exact zq10; exact zq5; exact zq7; exact zq5; rfl; rfl; rfl; exact zq4; rintro ⟨n, a, cp2, xs⟩ ⟨hi, hxs⟩ E' hX' hA' hQ' J hJ; refine zl ?_; intro hX hP hA hQ
 refine vc_ok 900 _ _ _ ?_
 dsimp only at hi hxs hA
 by_cases hil : n < ys.length
 · obtain ⟨u, hu⟩ : ∃ u, ys[n]? = some u := ⟨_, List.getElem?_eq_getElem hil⟩
   obtain ⟨Tn, p, rfl⟩ := hy u (List.mem_of_getElem? hu); have hcx := hc n _ hu
   have htk : ys.take (n + 1) = ys.take n ++ [.iface Tn p] := by rw [List.take_add_one, hu]; rfl
   repeat' first
    | refine zB ?_ | apply zI <;> intro hdec | with_reducible constructor | (refine WO_LE 850 (LS_rc (A.add n) [.iface Tn p] false hX ?_ ?_ ?_ ?_ (fun _ => rfl)) ?_; exact zq0; exact one_cell hcx; exact (fun h => h); exact sz54; intro _ _) | (refine WO_LS 850 (LS_append (e := 54) (size := 1) (bytes := 16) 0 (.slice a n cp2) (n) (xs) 1 [.iface Tn p] hP rfl ?_ ?_ ?_ ?_ ?_ ?_ ?_) ?_; exact zq1; exact zq0; exact zq13; exact zq22; rfl; omega; decide; rintro v' ⟨_, a2, q2, rfl⟩ E2 h1 h2 h3; refine zz ?_; intro hX hP hA hQ)
    | exact zG7 [(1, 0)] (hJ (⟨n + 1, a2, q2, xs ++ [.iface Tn p]⟩) ⟨zj, by dsimp only; rw [htk, hxs]⟩ zj)
    | simp (maxSteps := 20000000) only [Tryz.f71, go_sem, zL, ↓reduceIte, reduceCtorEq, Nat.reduceAdd, Nat.reduceMul, Nat.reduceSub, Nat.reduceLeDiff, Nat.reduceEqDiff, Nat.reduceLT, Nat.reduceBEq, Int.reduceEq, hP, hX, addr_add, Nat.mul_one, Nat.zero_add, Nat.add_zero, Option.isNone_some, Option.isNone_none, Option.isSome_some, Int.toNat_natCast, List.isEmpty]
   all_goals try first
    | omega | (unfold I64; omega)
 · obtain rfl : n = ys.length := by omega
   rw [List.take_length] at hxs; subst hxs
   repeat' first
    | refine zB ?_ | apply zI <;> intro hdec | with_reducible constructor
    | apply WX_fin hX rfl hQ (.inr rfl)
    | refine zs0 ?_
   all_goals try first
    | omega
    | (intro a' w' r own hs'
       rw [hA] at hs'; exact ret1_fin1 (α := Option Addr × Nat) (B := fun z => Row 54 1 (.slice z.1 xs.length z.2) xs.length xs) hs' (a, cp2) trivial (fun r => .inr rfl) (j := 0) zm)
end
end
section
attribute [local irreducible] leT leH WO WX WC WD LS WS WQ
def sch27_36t : Sch := .one 6 <| .one 7 <| tkN [8, 9] <| .one 10 <| tkN [11, 12] <| .one 13 <| .done
def sch27_36b : Sch := tkN [0, 1] <| tkS [2] <| .two 3 (.two 4 (.one 5 <| sch27_36t) 5 (.one 4 <| sch27_36t)) 5 (.one 3 <| .one 4 <| sch27_36t)
attribute [go_sem] sch27_36t sch27_36b
theorem cells0s {P : Program} {w0 : World} {rt : List (Nat × Nat)} {S : St} {A : Facts} {a : Act} {w : World} {r : Nat -> Nat} {own : Nat -> Option Ent} (hs : Sim ⟨P, w0, fun _ => False, [], rt⟩ S A a w r own) {vs : List Value} {ad : Addr} {m : Nat} (hlt : ad.block < w0.heap.size)
 (h : ∀ j u, vs[j]? = some u -> w0.cell? ((ad.add m).add j) = some u) : ∀ j u, vs[j]? = some u -> w.cell? ((ad.add m).add j) = some u := fun j u hj => by
 have e := hs.frm.block _ hlt (fun h => h); have h1 := h j u hj; simp only [World.cell?, add_block] at h1 ⊢; rw [e]; exact h1
theorem c27_17 (w : World) (FG : Nat -> Prop) (hG : Gl w FG) (ty : Int) (v t : ByteArray) (fl : Bool) (c : Int) (A0 : Addr) (kc : Nat) (hlt : A0.block < w.heap.size) (F : Nat -> Prop) (hF : ∀ k, F k -> k < w.heap.size) (tk : Nat) (k0 ty0 : Int) (v0 t0 : ByteArray) (fl0 : Bool) (c0 : Int) (l0 : List N) (ka0 : Option Addr) (kc0 : Nat) (hb0 : BuildC (.mk k0 ty0 v0 t0 fl0 c0 l0)) (hc0 : ∀ j u, (N.cells (.mk k0 ty0 v0 t0 fl0 c0 l0) ka0 kc0)[j]? = some u -> w.cell? ((A0.add (0 * 19)).add j) = some u) (hg0 : GS w 31 19 F (.slice ka0 l0.length kc0) (N.gs l0))  : Calls Tryz.prog 27 [.agg (nodeC 17 ty v t t ⟨#[]⟩ fl false false 1 c c 0 0 (some A0) 1 kc).toArray, ptr tk].toArray w (Ret1 (fun g : Nat => .sc (.va (.iface 168 (ptr g)))) (fun _ => True) (fun g => Ast0A tk (.mk 17 ty v t fl c [(.mk k0 ty0 v0 t0 fl0 c0 l0)]) (.iface 168 (ptr g))) w) := by
 refine calls_start 1000 Tryz.func27 rfl fun E hX hP hA hQ => ?_
 repeat' first
  | refine zB ?_ | apply zI <;> intro hdec | with_reducible constructor
  | (refine WO_LS 850 (LS_callP (α := Nat × Nat) (f := 65) (fun x => x.1) (fun _ => True) 169 (fun x => [ptr x.2, ptr tk, .nilIface]) (fun x => Blk x.2 230 baseC) hP ?_ ?_ ?_ ?_ ?_) ?_
     rfl; exact zq1; exact zq0
     · (rw [hA]; rfl)
     · (intro a w r own hSim; rw [hX, hA] at hSim; simp only [go_sem]; with_reducible exact c65 _ tk)
     rintro ⟨gs, gb⟩ _ E2 h1 h2 h3; simp only [St.callP, List.map_cons, List.map_nil]; refine zz ?_; intro hX hP hA hQ)
  | (refine zcS 58 (.ag ([.int .i64 k0, .int .i64 ty0, .string v0, .string t0, .string t0, .string ⟨#[]⟩, .bool fl0, .bool false, .bool false, .int .i64 1, .int .i64 c0, .int .i64 c0, .int .i64 0, .int .i64 0, .slice none 0 0, .slice none 0 0, .slice none 0 0, .slice none 0 0, .slice ka0 l0.length kc0].map .va)) ?_ ?_
     · (intro a w r own hSim; simp only [go_sem]; rw [hX] at hSim; have hc := c58 _ (.mk 17 ty v t fl c [(.mk k0 ty0 v0 t0 fl0 c0 l0)]) (.mk k0 ty0 v0 t0 fl0 c0 l0) A0 kc 0 ka0 kc0 (show 0 < 1 by decide) (cells0s hSim hlt hc0); simp only [N.cells, nodeC, N.k, N.ty, N.v, N.t, N.fl, N.c, N.kids, List.length_cons, List.length_nil, List.map_cons, List.map_nil, Nat.reduceAdd, Nat.zero_add] at hc; rw [show ((0 : Nat) : Int) = 0 from rfl] at hc; with_reducible exact hc))
  | (refine zr65 ?_; rintro gk0 _ E2 h1 h2 h3; refine zz ?_; intro hX hP hA hQ) | refine zs9 ?_
 all_goals try first
  | omega
  | (intro a w' r own hs'
     rw [hA] at hs'; have h2 := hs'.conc (n := 1) (t := 169) (vals := [ptr gb, ptr tk, .iface (kpT k0) (ptr gk0)]) zp; have b1 := h2.bk (j := 4) (g := r 1) (by simp; rfl); have b2 := h2.bk (j := 2) (g := gb) (t := 230) (cs := baseC) zp; have a0 := (h2.fact 3 (AstA (.mk k0 ty0 v0 t0 fl0 c0 l0) (.iface (kpT k0) (ptr gk0))) zp).2
     refine ret1_finU h2 [2, 4, 3] (r 1) trivial (fun r => .inr rfl) ⟨r 1, gb, [.iface (kpT k0) (ptr gk0)], _, rfl, ⟨4, zp, b1.1⟩, ⟨2, zp, b2.1⟩, b2.2, b1.2, (.alias _), ?_⟩
     exact ⟨_, _, rfl, AT.ext (fun k hk => ⟨3, zp, hk⟩) (fun _ _ => rfl) a0, rfl⟩)
theorem c27_19 (w : World) (FG : Nat -> Prop) (hG : Gl w FG) (ty : Int) (v t : ByteArray) (fl : Bool) (c : Int) (A0 : Addr) (kc : Nat) (hlt : A0.block < w.heap.size) (F : Nat -> Prop) (hF : ∀ k, F k -> k < w.heap.size) (tk : Nat) (k0 ty0 : Int) (v0 t0 : ByteArray) (fl0 : Bool) (c0 : Int) (l0 : List N) (ka0 : Option Addr) (kc0 : Nat) (hb0 : BuildC (.mk k0 ty0 v0 t0 fl0 c0 l0)) (hc0 : ∀ j u, (N.cells (.mk k0 ty0 v0 t0 fl0 c0 l0) ka0 kc0)[j]? = some u -> w.cell? ((A0.add (0 * 19)).add j) = some u) (hg0 : GS w 31 19 F (.slice ka0 l0.length kc0) (N.gs l0))  : Calls Tryz.prog 27 [.agg (nodeC 19 ty v t t ⟨#[]⟩ fl false false 1 c c 0 0 (some A0) 1 kc).toArray, ptr tk].toArray w (Ret1 (fun g : Nat => .sc (.va (.iface 147 (ptr g)))) (fun _ => True) (fun g => Ast0A tk (.mk 19 ty v t fl c [(.mk k0 ty0 v0 t0 fl0 c0 l0)]) (.iface 147 (ptr g))) w) := by
 refine calls_start 1000 Tryz.func27 rfl fun E hX hP hA hQ => ?_
 repeat' first
  | refine zB ?_ | apply zI <;> intro hdec | with_reducible constructor
  | (refine WO_LS 850 (LS_callP (α := Nat × Nat) (f := 67) (fun x => x.1) (fun _ => True) 149 (fun x => [ptr x.2, .pointer none, ptr tk, .nilIface]) (fun x => Blk x.2 230 baseC) hP ?_ ?_ ?_ ?_ ?_) ?_
     rfl; exact zq1; exact zq0
     · (rw [hA]; rfl)
     · (intro a w r own hSim; rw [hX, hA] at hSim; simp only [go_sem]; with_reducible exact c67 _ tk)
     rintro ⟨gs, gb⟩ _ E2 h1 h2 h3; simp only [St.callP, List.map_cons, List.map_nil]; refine zz ?_; intro hX hP hA hQ)
  | (refine zcS 58 (.ag ([.int .i64 k0, .int .i64 ty0, .string v0, .string t0, .string t0, .string ⟨#[]⟩, .bool fl0, .bool false, .bool false, .int .i64 1, .int .i64 c0, .int .i64 c0, .int .i64 0, .int .i64 0, .slice none 0 0, .slice none 0 0, .slice none 0 0, .slice none 0 0, .slice ka0 l0.length kc0].map .va)) ?_ ?_
     · (intro a w r own hSim; simp only [go_sem]; rw [hX] at hSim; have hc := c58 _ (.mk 19 ty v t fl c [(.mk k0 ty0 v0 t0 fl0 c0 l0)]) (.mk k0 ty0 v0 t0 fl0 c0 l0) A0 kc 0 ka0 kc0 (show 0 < 1 by decide) (cells0s hSim hlt hc0); simp only [N.cells, nodeC, N.k, N.ty, N.v, N.t, N.fl, N.c, N.kids, List.length_cons, List.length_nil, List.map_cons, List.map_nil, Nat.reduceAdd, Nat.zero_add] at hc; rw [show ((0 : Nat) : Int) = 0 from rfl] at hc; with_reducible exact hc))
  | (refine zr65 ?_; rintro gk0 _ E2 h1 h2 h3; refine zz ?_; intro hX hP hA hQ) | refine zs9 ?_
 all_goals try first
  | omega
  | (intro a w' r own hs'
     rw [hA] at hs'; have h2 := hs'.conc (n := 1) (t := 149) (vals := [ptr gb, .pointer none, ptr tk, .iface (kpT k0) (ptr gk0)]) zp; have b1 := h2.bk (j := 4) (g := r 1) (by simp; rfl); have b2 := h2.bk (j := 2) (g := gb) (t := 230) (cs := baseC) zp; have a0 := (h2.fact 3 (AstA (.mk k0 ty0 v0 t0 fl0 c0 l0) (.iface (kpT k0) (ptr gk0))) zp).2
     refine ret1_finU h2 [2, 4, 3] (r 1) trivial (fun r => .inr rfl) ⟨r 1, gb, [.iface (kpT k0) (ptr gk0)], _, rfl, ⟨4, zp, b1.1⟩, ⟨2, zp, b2.1⟩, b2.2, b1.2, (.tag _), ?_⟩
     exact ⟨_, _, rfl, AT.ext (fun k hk => ⟨3, zp, hk⟩) (fun _ _ => rfl) a0, rfl⟩)
theorem c27_16 (w : World) (FG : Nat -> Prop) (hG : Gl w FG) (ty : Int) (v t : ByteArray) (fl : Bool) (c : Int) (A0 : Addr) (kc : Nat) (hlt : A0.block < w.heap.size) (F : Nat -> Prop) (hF : ∀ k, F k -> k < w.heap.size) (tk : Nat) (k0 ty0 : Int) (v0 t0 : ByteArray) (fl0 : Bool) (c0 : Int) (l0 : List N) (ka0 : Option Addr) (kc0 : Nat) (hb0 : BuildC (.mk k0 ty0 v0 t0 fl0 c0 l0)) (hc0 : ∀ j u, (N.cells (.mk k0 ty0 v0 t0 fl0 c0 l0) ka0 kc0)[j]? = some u -> w.cell? ((A0.add (0 * 19)).add j) = some u) (hg0 : GS w 31 19 F (.slice ka0 l0.length kc0) (N.gs l0)) (k1 ty1 : Int) (v1 t1 : ByteArray) (fl1 : Bool) (c1 : Int) (l1 : List N) (ka1 : Option Addr) (kc1 : Nat) (hb1 : BuildC (.mk k1 ty1 v1 t1 fl1 c1 l1)) (hc1 : ∀ j u, (N.cells (.mk k1 ty1 v1 t1 fl1 c1 l1) ka1 kc1)[j]? = some u -> w.cell? ((A0.add (1 * 19)).add j) = some u) (hg1 : GS w 31 19 F (.slice ka1 l1.length kc1) (N.gs l1))  : Calls Tryz.prog 27 [.agg (nodeC 16 ty v t t ⟨#[]⟩ fl false false 1 c c 0 0 (some A0) 2 kc).toArray, ptr tk].toArray w (Ret1 (fun g : Nat => .sc (.va (.iface 165 (ptr g)))) (fun _ => True) (fun g => Ast0A tk (.mk 16 ty v t fl c [(.mk k0 ty0 v0 t0 fl0 c0 l0), (.mk k1 ty1 v1 t1 fl1 c1 l1)]) (.iface 165 (ptr g))) w) := by
 refine calls_start 1000 Tryz.func27 rfl fun E hX hP hA hQ => ?_
 repeat' first
  | refine zB ?_ | apply zI <;> intro hdec | with_reducible constructor
  | refine zu 36 sch27_36b [10, 13] ?_
  | (refine WD_q (C := True) (sv := .ag [.va (.int .i64 16), .va (.int .i64 ty), .va (.string v), .va (.string t), .va (.string t), .va (.string ⟨#[]⟩), .va (.bool fl), .va (.bool false), .va (.bool false), .va (.int .i64 1), .va (.int .i64 c), .va (.int .i64 c), .va (.int .i64 0), .va (.int .i64 0), .va (.slice none 0 0), .va (.slice none 0 0), .va (.slice none 0 0), .va (.slice none 0 0), .va (.slice (some A0) 2 kc)]) 850 ?_ ?_ True.intro ?_; exact zq2; exact zq46)
  | (refine WO_LS 850 (LS_callP (α := Nat × Nat) (f := 64) (fun x => x.1) (fun _ => True) 167 (fun x => [ptr x.2, ptr tk, .nilIface, .nilIface]) (fun x => Blk x.2 230 baseC) hP ?_ ?_ ?_ ?_ ?_) ?_
     rfl; exact zq1; exact zq0
     · (rw [hA]; rfl)
     · (intro a w r own hSim; rw [hX, hA] at hSim; simp only [go_sem]; with_reducible exact c64 _ tk)
     rintro ⟨gs, gb⟩ _ E2 h1 h2 h3; simp only [St.callP, List.map_cons, List.map_nil]; refine zz ?_; intro hX hP hA hQ)
  | (refine zdS 58 (.ag ([.int .i64 k0, .int .i64 ty0, .string v0, .string t0, .string t0, .string ⟨#[]⟩, .bool fl0, .bool false, .bool false, .int .i64 1, .int .i64 c0, .int .i64 c0, .int .i64 0, .int .i64 0, .slice none 0 0, .slice none 0 0, .slice none 0 0, .slice none 0 0, .slice ka0 l0.length kc0].map .va)) ?_ ?_
     · (intro a w r own hSim; simp only [go_sem]; rw [hX] at hSim; have hc := c58 _ (.mk 16 ty v t fl c [(.mk k0 ty0 v0 t0 fl0 c0 l0), (.mk k1 ty1 v1 t1 fl1 c1 l1)]) (.mk k0 ty0 v0 t0 fl0 c0 l0) A0 kc 0 ka0 kc0 (show 0 < 2 by decide) (cells0s hSim hlt hc0); simp only [N.cells, nodeC, N.k, N.ty, N.v, N.t, N.fl, N.c, N.kids, List.length_cons, List.length_nil, List.map_cons, List.map_nil, Nat.reduceAdd, Nat.zero_add] at hc; rw [show ((0 : Nat) : Int) = 0 from rfl] at hc; with_reducible exact hc))
  | (refine zdS 58 (.ag ([.int .i64 k1, .int .i64 ty1, .string v1, .string t1, .string t1, .string ⟨#[]⟩, .bool fl1, .bool false, .bool false, .int .i64 1, .int .i64 c1, .int .i64 c1, .int .i64 0, .int .i64 0, .slice none 0 0, .slice none 0 0, .slice none 0 0, .slice none 0 0, .slice ka1 l1.length kc1].map .va)) ?_ ?_
     · (intro a w r own hSim; simp only [go_sem]; rw [hX] at hSim; have hc := c58 _ (.mk 16 ty v t fl c [(.mk k0 ty0 v0 t0 fl0 c0 l0), (.mk k1 ty1 v1 t1 fl1 c1 l1)]) (.mk k1 ty1 v1 t1 fl1 c1 l1) A0 kc 1 ka1 kc1 (show 1 < 2 by decide) (cells0s hSim hlt hc1); simp only [N.cells, nodeC, N.k, N.ty, N.v, N.t, N.fl, N.c, N.kids, List.length_cons, List.length_nil, List.map_cons, List.map_nil, Nat.reduceAdd, Nat.zero_add] at hc; rw [show ((1 : Nat) : Int) = 1 from rfl] at hc; with_reducible exact hc))
  | (refine WD_LS 850 ?_ (LS_call1 (α := Nat) (f := 16) (fun g : Nat => .sc (.va (.iface (kpT k0) (ptr g)))) (fun _ => True) (fun g => AstA (.mk k0 ty0 v0 t0 fl0 c0 l0) (.iface (kpT k0) (ptr g))) hP ?_ ?_ ?_ ?_ ?_) ?_ ?_; exact zq2; rfl; exact zq1; exact zq9; exact zq0; exact zq79; exact zq16; rintro gk0 _ E2 h1 h2 h3; refine zz ?_; intro hX hP hA hQ) | (refine zr92 ?_; rintro gk1 _ E2 h1 h2 h3; refine zz ?_; intro hX hP hA hQ) | refine zs9 ?_
 all_goals try first
  | omega
  | (intro a w' r own hs'
     rw [hA] at hs'; have h2 := hs'.conc (n := 1) (t := 167) (vals := [ptr gb, ptr tk, .iface (kpT k0) (ptr gk0), .iface (kpT k1) (ptr gk1)]) zp; have b1 := h2.bk (j := 5) (g := r 1) (by simp; rfl); have b2 := h2.bk (j := 2) (g := gb) (t := 230) (cs := baseC) zp; have a0 := (h2.fact 3 (AstA (.mk k0 ty0 v0 t0 fl0 c0 l0) (.iface (kpT k0) (ptr gk0))) zp).2; have a1 := (h2.fact 4 (AstA (.mk k1 ty1 v1 t1 fl1 c1 l1) (.iface (kpT k1) (ptr gk1))) zp).2
     refine ret1_finU h2 [2, 5, 3, 4] (r 1) trivial (fun r => .inr rfl) ⟨r 1, gb, [.iface (kpT k0) (ptr gk0), .iface (kpT k1) (ptr gk1)], _, rfl, ⟨5, zp, b1.1⟩, ⟨2, zp, b2.1⟩, b2.2, b1.2, (.anchor _ _), ?_⟩
     exact ⟨_, _, rfl, AT.ext (fun k hk => ⟨3, zp, hk⟩) (fun _ _ => rfl) a0, ⟨_, _, rfl, AT.ext (fun k hk => ⟨4, zp, hk⟩) (fun _ _ => rfl) a1, rfl⟩⟩)
theorem c27_10 (w : World) (FG : Nat -> Prop) (hG : Gl w FG) (ty : Int) (v t : ByteArray) (fl : Bool) (c : Int) (A0 : Addr) (kc : Nat) (hlt : A0.block < w.heap.size) (F : Nat -> Prop) (hF : ∀ k, F k -> k < w.heap.size) (tk : Nat) (ty0 : Int) (v0 t0 : ByteArray) (fl0 : Bool) (c0 : Int) (ka0 : Option Addr) (kc0 : Nat) (hk1 : 1 <= c0) (hk2 : c0 <= 200) (hc0 : ∀ j u, (N.cells (.mk 8 ty0 v0 t0 fl0 c0 []) ka0 kc0)[j]? = some u -> w.cell? ((A0.add (0 * 19)).add j) = some u) (hg0 : GS w 31 19 F (.slice ka0 0 kc0) (N.gs []))  : Calls Tryz.prog 27 [.agg (nodeC 10 ty v t t ⟨#[]⟩ fl false false 1 c c 0 0 (some A0) 1 kc).toArray, ptr tk].toArray w (Ret1 (fun g : Nat => .sc (.va (.iface 141 (ptr g)))) (fun _ => True) (fun g => Ast0A tk (.mk 10 ty v t fl c [(.mk 8 ty0 v0 t0 fl0 c0 [])]) (.iface 141 (ptr g))) w) := by
 refine calls_start 1000 Tryz.func27 rfl fun E hX hP hA hQ => ?_
 repeat' first
  | refine zB ?_ | apply zI <;> intro hdec | with_reducible constructor
  | (refine WO_LS 850 (LS_callP (α := Nat × Nat) (f := 57) (fun x => x.1) (fun _ => True) 143 (fun x => [ptr x.2, ptr tk, .pointer none]) (fun x => Blk x.2 230 baseC) hP ?_ ?_ ?_ ?_ ?_) ?_
     rfl; exact zq1; exact zq0
     · (rw [hA]; rfl)
     · (intro a w r own hSim; rw [hX, hA] at hSim; simp only [go_sem]; with_reducible exact c57 _ tk)
     rintro ⟨gs, gb⟩ _ E2 h1 h2 h3; simp only [St.callP, List.map_cons, List.map_nil]; refine zz ?_; intro hX hP hA hQ)
  | (refine zcS 58 (.ag ([.int .i64 8, .int .i64 ty0, .string v0, .string t0, .string t0, .string ⟨#[]⟩, .bool fl0, .bool false, .bool false, .int .i64 1, .int .i64 c0, .int .i64 c0, .int .i64 0, .int .i64 0, .slice none 0 0, .slice none 0 0, .slice none 0 0, .slice none 0 0, .slice ka0 0 kc0].map .va)) ?_ ?_
     · (intro a w r own hSim; simp only [go_sem]; rw [hX] at hSim; have hc := c58 _ (.mk 10 ty v t fl c [(.mk 8 ty0 v0 t0 fl0 c0 [])]) (.mk 8 ty0 v0 t0 fl0 c0 []) A0 kc 0 ka0 kc0 (show 0 < 1 by decide) (cells0s hSim hlt hc0); simp only [N.cells, nodeC, N.k, N.ty, N.v, N.t, N.fl, N.c, N.kids, List.length_cons, List.length_nil, List.map_cons, List.map_nil, Nat.reduceAdd, Nat.zero_add] at hc; rw [show ((0 : Nat) : Int) = 0 from rfl] at hc; with_reducible exact hc))
  | (refine WO_LS 850 (LS_call1 (α := Nat) (f := 55) (fun g : Nat => .sc (.va (ptr g))) (fun _ => True) (fun g => AstA (.mk 8 ty0 v0 t0 fl0 c0 []) (.iface 128 (ptr g))) hP ?_ ?_ ?_ ?_ ?_) ?_
     rfl; exact zq1; exact zq9; exact zq0
     · (intro a w r own hSim; rw [hX] at hSim; simp only [go_sem]; have hc := c55 w (.mk 8 ty0 v0 t0 fl0 c0 []) ka0 kc0 c0 rfl hk1 hk2; simp only [N.cells, nodeC, N.k, N.ty, N.v, N.t, N.fl, N.c, N.kids, List.length_nil] at hc; with_reducible exact hc)
     rintro gk0 _ E2 h1 h2 h3; refine zz ?_; intro hX hP hA hQ)
  | refine zs9 ?_
 all_goals try first
  | omega
  | (intro a w' r own hs'
     rw [hA] at hs'; have h2 := hs'.conc (n := 1) (t := 143) (vals := [ptr gb, ptr tk, ptr gk0]) zp; have b1 := h2.bk (j := 4) (g := r 1) (by simp; rfl); have b2 := h2.bk (j := 2) (g := gb) (t := 230) (cs := baseC) zp; have a0 := (h2.fact 3 (AstA (.mk 8 ty0 v0 t0 fl0 c0 []) (.iface (128) (ptr gk0))) zp).2
     refine ret1_finU h2 [2, 4, 3] (r 1) trivial (fun r => .inr rfl) ⟨r 1, gb, [.iface (128) (ptr gk0)], _, rfl, ⟨4, zp, b1.1⟩, ⟨2, zp, b2.1⟩, b2.2, b1.2, (.lit gk0), ?_⟩
     exact ⟨_, _, rfl, AT.ext (fun k hk => ⟨3, zp, hk⟩) (fun _ _ => rfl) a0, rfl⟩)
def sch62_6b : Sch := tkN [0, 1, 2] <| tkS [3] <| tkN [4, 6] <| .one 5 <| .one 7 <| tkN [8, 9] <| .one 10 <| tkN [11, 12] <| .one 13 <| .done
attribute [go_sem] sch62_6b
theorem key162 {k : Int} (h : k = 2 \/ k = 3 \/ k = 4 \/ k = 5 \/ k = 6 \/ k = 7 \/ k = 8 \/ k = 10 \/ k = 16 \/ k = 17 \/ k = 19) : missT Tryz.prog 162 (kpT k) = true := by
 rcases h with rfl | rfl | rfl | rfl | rfl | rfl | rfl | rfl | rfl | rfl | rfl <;> kernel_rfl
theorem c62 (w : World) (FG : Nat -> Prop) (hG : Gl w FG) (ty : Int) (v t : ByteArray) (fl : Bool) (c : Int) (A0 : Addr) (kc : Nat) (hlt : A0.block < w.heap.size) (F : Nat -> Prop) (hF : ∀ k, F k -> k < w.heap.size) (hn1 : 1 <= c) (hn2 : c <= 200) (k0 ty0 : Int) (v0 t0 : ByteArray) (fl0 : Bool) (c0 : Int) (l0 : List N) (ka0 : Option Addr) (kc0 : Nat) (hb0 : BuildC (.mk k0 ty0 v0 t0 fl0 c0 l0)) (hc0 : ∀ j u, (N.cells (.mk k0 ty0 v0 t0 fl0 c0 l0) ka0 kc0)[j]? = some u -> w.cell? ((A0.add (0 * 19)).add j) = some u) (hg0 : GS w 31 19 F (.slice ka0 l0.length kc0) (N.gs l0)) (k1 ty1 : Int) (v1 t1 : ByteArray) (fl1 : Bool) (c1 : Int) (l1 : List N) (ka1 : Option Addr) (kc1 : Nat) (hb1 : BuildC (.mk k1 ty1 v1 t1 fl1 c1 l1)) (hc1 : ∀ j u, (N.cells (.mk k1 ty1 v1 t1 fl1 c1 l1) ka1 kc1)[j]? = some u -> w.cell? ((A0.add (1 * 19)).add j) = some u) (hg1 : GS w 31 19 F (.slice ka1 l1.length kc1) (N.gs l1)) (hm : missT Tryz.prog 162 (kpT k0) = true) : Calls Tryz.prog 62 [.agg (nodeC 13 ty v t t ⟨#[]⟩ fl false false 1 c c 0 0 (some A0) 2 kc).toArray].toArray w (Ret1 (fun g : Nat => .sc (.va (ptr g))) (fun _ => True) (fun g => AstA (.mk 13 ty v t fl c [(.mk k0 ty0 v0 t0 fl0 c0 l0), (.mk k1 ty1 v1 t1 fl1 c1 l1)]) (.iface 157 (ptr g))) w) := by
 refine calls_start 1000 Tryz.func62 rfl fun E hX hP hA hQ => ?_
 repeat' first
  | refine zB ?_ | apply zI <;> intro hdec | with_reducible constructor
  | (refine WO_LS 850 (LS_call1 (α := Nat) (f := 26) (fun g : Nat => .sc (.va (.pointer (some ⟨g, 0, none⟩)))) (fun _ => True) (posA c) hP ?_ ?_ ?_ ?_ ?_) ?_
     rfl; exact zq1; exact zq9; exact zq0
     · (intro a w r own hSim; rw [hX] at hSim; simp only [go_sem]; with_reducible exact c26 _ c hn1 hn2)
     rintro gp _ E2 h1 h2 h3; refine zz ?_; intro hX hP hA hQ)
  | refine zu 5 sch62_5 [] ?_
  | refine zu 6 sch62_6b [10, 13] ?_
  | (refine zcS 58 (.ag ([.int .i64 k0, .int .i64 ty0, .string v0, .string t0, .string t0, .string ⟨#[]⟩, .bool fl0, .bool false, .bool false, .int .i64 1, .int .i64 c0, .int .i64 c0, .int .i64 0, .int .i64 0, .slice none 0 0, .slice none 0 0, .slice none 0 0, .slice none 0 0, .slice ka0 l0.length kc0].map .va)) ?_ ?_
     · (intro a w r own hSim; simp only [go_sem]; rw [hX] at hSim; have hc := c58 _ (.mk 13 ty v t fl c [(.mk k0 ty0 v0 t0 fl0 c0 l0), (.mk k1 ty1 v1 t1 fl1 c1 l1)]) (.mk k0 ty0 v0 t0 fl0 c0 l0) A0 kc 0 ka0 kc0 (show 0 < 2 by decide) (cells0s hSim hlt hc0); simp only [N.cells, nodeC, N.k, N.ty, N.v, N.t, N.fl, N.c, N.kids, List.length_cons, List.length_nil, List.map_cons, List.map_nil, Nat.reduceAdd, Nat.zero_add] at hc; rw [show ((0 : Nat) : Int) = 0 from rfl] at hc; with_reducible exact hc))
  | (refine zr65 ?_; rintro gk0 _ E2 h1 h2 h3; refine zz ?_; intro hX hP hA hQ)
  | (refine zdS 58 (.ag ([.int .i64 k1, .int .i64 ty1, .string v1, .string t1, .string t1, .string ⟨#[]⟩, .bool fl1, .bool false, .bool false, .int .i64 1, .int .i64 c1, .int .i64 c1, .int .i64 0, .int .i64 0, .slice none 0 0, .slice none 0 0, .slice none 0 0, .slice none 0 0, .slice ka1 l1.length kc1].map .va)) ?_ ?_
     · (intro a w r own hSim; simp only [go_sem]; rw [hX] at hSim; have hc := c58 _ (.mk 13 ty v t fl c [(.mk k0 ty0 v0 t0 fl0 c0 l0), (.mk k1 ty1 v1 t1 fl1 c1 l1)]) (.mk k1 ty1 v1 t1 fl1 c1 l1) A0 kc 1 ka1 kc1 (show 1 < 2 by decide) (cells0s hSim hlt hc1); simp only [N.cells, nodeC, N.k, N.ty, N.v, N.t, N.fl, N.c, N.kids, List.length_cons, List.length_nil, List.map_cons, List.map_nil, Nat.reduceAdd, Nat.zero_add] at hc; rw [show ((1 : Nat) : Int) = 1 from rfl] at hc; with_reducible exact hc))
  | (refine zr92 ?_; rintro gk1 _ E2 h1 h2 h3; refine zz ?_; intro hX hP hA hQ)
  | (with_reducible show WD _ _ _ _ _ _ _
     apply WD_conc 1 87 (tokC ty t gp) rfl rfl
     intro tk E2 h1 h2 h3; simp only [go_sem, ↓reduceIte, Nat.reduceAdd, Nat.zero_add, Nat.reduceEqDiff]; refine zz ?_; intro hX hP hA hQ)
  | (refine WD_LS 850 ?_ (LS_callP (α := Nat × Nat) (f := 100) (fun x => x.1) (fun _ => True) 164 (fun x => [ptr x.2, ptr tk, .pointer none, .iface (kpT k0) (ptr gk0), .iface (kpT k1) (ptr gk1), .pointer none, .bool false]) (fun x => Blk x.2 230 baseC) hP ?_ ?_ ?_ ?_ ?_) ?_ ?_
     exact zq2; rfl; exact zq1; exact zq0
     · (rw [hA]; rfl)
     · (intro a w r own hSim; rw [hX, hA] at hSim; simp only [go_sem]; with_reducible exact c100 _ tk _ _ _ _)
     exact zq16; rintro ⟨gs, gb⟩ _ E2 h1 h2 h3; simp only [St.callP, List.map_cons, List.map_nil]; refine zz ?_; intro hX hP hA hQ)
  | (refine WD_q (C := True) (sv := .sc (.va (.slice none 0 0))) 850 ?_ ?_ True.intro ?_; exact zq2; exact zq46) | (refine zdS 28 (.sc (.va (.pointer none))) ?_ ?_; exact zq60)
  | simp (maxSteps := 20000000) only [Tryz.f62, go_sem, zL, ↓reduceIte, reduceCtorEq, Nat.reduceAdd, Nat.reduceMul, Nat.reduceSub, Nat.reduceLeDiff, Nat.reduceEqDiff, Nat.reduceLT, Nat.reduceBEq, Int.reduceEq, hP, hX, N.cells, nodeC, N.k, N.ty, N.v, N.t, N.fl, N.c, N.kids, List.length_cons, List.length_nil, hm, Option.isNone_none]
 all_goals try first
  | omega
  | (intro a w' r own hs'
     rw [hA] at hs'; have h2 := hs'.conc (n := 2) (t := 164) (vals := [ptr gb, ptr tk, .pointer none, .iface (kpT k0) (ptr gk0), .iface (kpT k1) (ptr gk1), .pointer none, .bool fl]) zp; have b1 := h2.bk (j := 7) (g := r 2) (by simp; rfl); have b2 := h2.bk (j := 6) (g := gb) (t := 230) (cs := baseC) zp; have b3 := h2.bk (j := 3) (g := tk) (t := 87) (cs := tokC ty t gp) zp; have b4 := h2.bk (j := 0) (g := gp) (t := 172) (cs := posC c) (by simp [posA]); have a0 := (h2.fact 1 (AstA (.mk k0 ty0 v0 t0 fl0 c0 l0) (.iface (kpT k0) (ptr gk0))) zp).2; have a1 := (h2.fact 2 (AstA (.mk k1 ty1 v1 t1 fl1 c1 l1) (.iface (kpT k1) (ptr gk1))) zp).2
     refine ret1_finU h2 [0, 1, 2, 3, 6, 7] (r 2) trivial (fun r => .inr rfl) (AT0.at (n := .mk 13 ty v t fl c [(.mk k0 ty0 v0 t0 fl0 c0 l0), (.mk k1 ty1 v1 t1 fl1 c1 l1)]) (tk := tk) (p := gp) ⟨r 2, gb, [.iface (kpT k0) (ptr gk0), .iface (kpT k1) (ptr gk1)], _, rfl, ⟨7, zp, b1.1⟩, ⟨6, zp, b2.1⟩, b2.2, b1.2, .pair _ _, ?_⟩ ⟨3, zp, b3.1⟩ ⟨0, zp, b4.1⟩ b3.2 b4.2)
     exact ⟨_, _, rfl, AT.ext (fun k hk => ⟨1, zp, hk⟩) (fun _ _ => rfl) a0, _, _, rfl, AT.ext (fun k hk => ⟨2, zp, hk⟩) (fun _ _ => rfl) a1, rfl⟩)
