/- Lemmas for FnFilterTree; each condition stands in its statement. -/
import Derived.Test.YtbfenkhnfflpnaaGreatDoorGdm
namespace Go.Proofs.YtbfenkhnfflpnaaGreatDoor.Sx
open Go Go.RowKit
set_option maxRecDepth 100000
set_option maxHeartbeats 40000000
set_option linter.all false
section
attribute [local irreducible] leT leH WO WX WC WD
theorem hit_prs (K k ty : Int) (v t : ByteArray) (fl : Bool) (c : Int) (l : List N) (x : Value) (ds : List D) : hit K (prs (.mk k ty v t fl c l) (.mk x ds)) = vy K k x ++ hit K (prsl l ds) := by
 rw [prs]
 unfold hit vy
 rw [List.filter_cons]
 by_cases h : k = K
 · rw [if_pos (by simp [N.k, h]), if_pos h]
   rfl
 · rw [if_neg (by simp [N.k, h]), if_neg h]
   rfl
theorem hit_prsl1 (K : Int) (n : N) (d : D) : hit K (prsl [n] [d]) = hit K (prs n d) := by simp [prsl]
theorem hit_prsl2 (K : Int) (n n' : N) (d d' : D) : hit K (prsl [n, n'] [d, d']) = hit K (prs n d) ++ hit K (prs n' d') := by simp [prsl, hit_append]
theorem walkQ_of {res : SV} {g : Nat} {F0 : Nat -> Prop} {K : Int} {m1 m2 : Nat} {xs1 xs2 : List Value} {w : World} {e : Ending} {w' : World} (h : WalkQ res g F0 K m1 xs1 w e w') (hm : m1 = m2) (hx : xs1 = xs2) : WalkQ res g F0 K m2 xs2 w e w' := by
 subst hm hx; exact h
theorem rowE (w : World) (own : Nat -> Option Ent) : (Row 54 1 (.slice none 0 0) 0 []).P w (fun k => ∃ j ∈ ([] : List Nat), own k = some (.fa j)) := ⟨World.ownsRow_nil w _ _ _, fun k => by simp [Value.ownBlock], fun u hu => by cases hu⟩
theorem map0 {ds : List D} (h : [] = ds.map D.x) : ds = [] := by cases ds with | nil => rfl | cons d l => simp at h
theorem map1 {ds : List D} {x : Value} (h : [x] = ds.map D.x) : ∃ es, ds = [.mk x es] := by
 match ds, h with
 | [.mk y es], h =>
   simp [D.x] at h
   exact ⟨es, by rw [h]⟩
 | [], h => simp at h
 | _ :: _ :: _, h => simp at h
theorem map2 {ds : List D} {x y : Value} (h : [x, y] = ds.map D.x) : ∃ es fs, ds = [.mk x es, .mk y fs] := by
 match ds, h with
 | [.mk a es, .mk b fs], h =>
   simp [D.x] at h
   exact ⟨es, fs, by rw [h.1, h.2]⟩
 | [], h => simp at h
 | [_], h => simp at h
 | _ :: _ :: _ :: _, h => simp at h
theorem ats0 {w : World} {F : Nat -> Prop} {l : List N} (h : ATds w F l []) : l = [] := by
 cases l with
 | nil => rfl
 | cons n l => rw [ATds] at h; obtain ⟨_, _, h, _⟩ := h; cases h
theorem ats1 {w : World} {F : Nat -> Prop} {l : List N} {d : D} (h : ATds w F l [d]) : ∃ n, l = [n] /\ ATd w F n d := by
 cases l with
 | nil => rw [ATds] at h; cases h
 | cons n l =>
   rw [ATds] at h; obtain ⟨d', es, h1, h2, h3⟩ := h; simp only [List.cons.injEq] at h1; obtain ⟨rfl, rfl⟩ := h1; exact ⟨n, by rw [ats0 h3], h2⟩
theorem ats2 {w : World} {F : Nat -> Prop} {l : List N} {d d' : D} (h : ATds w F l [d, d']) : ∃ n n', l = [n, n'] /\ ATd w F n d /\ ATd w F n' d' := by
 cases l with
 | nil => rw [ATds] at h; cases h
 | cons n l =>
   rw [ATds] at h; obtain ⟨d1, es, h1, h2, h3⟩ := h; simp only [List.cons.injEq] at h1; obtain ⟨rfl, rfl⟩ := h1; obtain ⟨n', rfl, h4⟩ := ats1 h3; exact ⟨n, n', rfl, h2, h4⟩
mutual
theorem walk_all : ∀ n : N, WalkC n
 | .mk k ty v t fl c kids => fun w F d hat hF g F0 K a m cp xs hg hrow hf0 hdis hlim => by
   have hkids := walk_list kids; obtain ⟨x, ds⟩ := d; rw [ATd] at hat; obtain ⟨gx, b, tk, p, cs, rfl, hFg, hFb, hFt, hFp, hb, htk, hp, hgx, hs, hats⟩ := hat; rw [N.cnt] at hlim; simp only [D.x]
   generalize hvs : ds.map D.x = vs at hs
   cases hs with
   | null =>
     obtain rfl := map0 hvs.symm; obtain rfl := ats0 hats; rw [show kpT 2 = 118 from rfl]; rw [show ksT 2 = 121 from rfl] at hgx
     refine Calls.mono (c25_2 w F hF g gx b tk F0 K a m cp xs hg hrow hf0 hdis hFg hFb hgx hb (by simp only [N.cntl] at hlim; omega)) fun e w' h => walkQ_of h ?_ ?_
     exact zq40; exact zq40
   | bool x1 hx1 =>
     obtain rfl := map0 hvs.symm; obtain rfl := ats0 hats; rw [show kpT 3 = 133 from rfl]; rw [show ksT 3 = 135 from rfl] at hgx
     refine Calls.mono (c25_3 w F hF g gx b tk F0 K a m cp xs hg hrow hf0 hdis x1 hFg hFb hgx hb (by simp only [N.cntl] at hlim; omega)) fun e w' h => walkQ_of h ?_ ?_
     exact zq40; exact zq40
   | int x1 hx1 =>
     obtain rfl := map0 hvs.symm; obtain rfl := ats0 hats; rw [show kpT 4 = 122 from rfl]; rw [show ksT 4 = 124 from rfl] at hgx
     refine Calls.mono (c25_4 w F hF g gx b tk F0 K a m cp xs hg hrow hf0 hdis x1 hFg hFb hgx hb (by simp only [N.cntl] at hlim; omega)) fun e w' h => walkQ_of h ?_ ?_
     exact zq40; exact zq40
   | float x1 =>
     obtain rfl := map0 hvs.symm; obtain rfl := ats0 hats; rw [show kpT 5 = 125 from rfl]; rw [show ksT 5 = 127 from rfl] at hgx
     refine Calls.mono (c25_5 w F hF g gx b tk F0 K a m cp xs hg hrow hf0 hdis x1 hFg hFb hgx hb (by simp only [N.cntl] at hlim; omega)) fun e w' h => walkQ_of h ?_ ?_
     exact zq40; exact zq40
   | inf x1 hx1 =>
     obtain rfl := map0 hvs.symm; obtain rfl := ats0 hats; rw [show kpT 6 = 136 from rfl]; rw [show ksT 6 = 138 from rfl] at hgx
     refine Calls.mono (c25_6 w F hF g gx b tk F0 K a m cp xs hg hrow hf0 hdis x1 hFg hFb hgx hb (by simp only [N.cntl] at hlim; omega)) fun e w' h => walkQ_of h ?_ ?_
     exact zq40; exact zq40
   | nan hx1 =>
     obtain rfl := map0 hvs.symm; obtain rfl := ats0 hats; rw [show kpT 7 = 139 from rfl]; rw [show ksT 7 = 140 from rfl] at hgx
     refine Calls.mono (c25_7 w F hF g gx b tk F0 K a m cp xs hg hrow hf0 hdis hFg hFb hgx hb (by simp only [N.cntl] at hlim; omega)) fun e w' h => walkQ_of h ?_ ?_
     exact zq40; exact zq40
   | str =>
     obtain rfl := map0 hvs.symm; obtain rfl := ats0 hats; rw [show kpT 8 = 128 from rfl]; rw [show ksT 8 = 130 from rfl] at hgx
     refine Calls.mono (c25_8 w F hF g gx b tk F0 K a m cp xs hg hrow hf0 hdis v hFg hFb hgx hb (by simp only [N.cntl] at hlim; omega)) fun e w' h => walkQ_of h ?_ ?_
     exact zq40; exact zq40
   | lit gk =>
     obtain ⟨es, rfl⟩ := map1 hvs.symm; obtain ⟨n0, rfl, h0⟩ := ats1 hats; rw [show kpT 10 = 141 from rfl]; rw [show ksT 10 = 143 from rfl] at hgx
     refine Calls.mono (c25_10 w F hF g gx b tk F0 K a m cp xs hg hrow hf0 hdis gk n0 es (hkids n0 zp) h0 hFg hFb hgx hb (by simp only [N.cntl] at hlim; omega)) fun e w' h => walkQ_of h ?_ ?_
     · exact zq90
     · simp only [hit_prs, hit_prsl1, List.append_assoc]
   | alias x0 =>
     obtain ⟨es, rfl⟩ := map1 hvs.symm; obtain ⟨n0, rfl, h0⟩ := ats1 hats; rw [show kpT 17 = 168 from rfl]; rw [show ksT 17 = 169 from rfl] at hgx
     refine Calls.mono (c25_17 w F hF g gx b tk F0 K a m cp xs hg hrow hf0 hdis x0 n0 es (hkids n0 zp) h0 hFg hFb hgx hb (by simp only [N.cntl] at hlim; omega)) fun e w' h => walkQ_of h ?_ ?_
     · exact zq90
     · simp only [hit_prs, hit_prsl1, List.append_assoc]
   | tag x0 =>
     obtain ⟨es, rfl⟩ := map1 hvs.symm; obtain ⟨n0, rfl, h0⟩ := ats1 hats; rw [show kpT 19 = 147 from rfl]; rw [show ksT 19 = 149 from rfl] at hgx
     refine Calls.mono (c25_19 w F hF g gx b tk F0 K a m cp xs hg hrow hf0 hdis x0 n0 es (hkids n0 zp) h0 hFg hFb hgx hb (by simp only [N.cntl] at hlim; omega)) fun e w' h => walkQ_of h ?_ ?_
     · exact zq90
     · simp only [hit_prs, hit_prsl1, List.append_assoc]
   | anchor x0 x1 =>
     obtain ⟨es, fs, rfl⟩ := map2 hvs.symm; obtain ⟨n0, n1, rfl, h0, h1⟩ := ats2 hats; rw [show kpT 16 = 165 from rfl]; rw [show ksT 16 = 167 from rfl] at hgx
     refine Calls.mono (c25_16 w F hF g gx b tk F0 K a m cp xs hg hrow hf0 hdis x0 x1 n0 es (hkids n0 zp) h0 n1 fs (hkids n1 zp) h1 hFg hFb hgx hb (by simp only [N.cntl] at hlim; omega)) fun e w' h => walkQ_of h ?_ ?_
     · simp only [hit_prs, hit_prsl2, List.length_append, Nat.add_assoc]
     · simp only [hit_prs, hit_prsl2, List.append_assoc]
   | pair x0 x1 =>
     obtain ⟨es, fs, rfl⟩ := map2 hvs.symm; obtain ⟨n0, n1, rfl, h0, h1⟩ := ats2 hats; rw [show kpT 13 = 157 from rfl]; rw [show ksT 13 = 164 from rfl] at hgx
     refine Calls.mono (c25_13 w F hF g gx b tk F0 K a m cp xs hg hrow hf0 hdis x0 x1 fl n0 es (hkids n0 zp) h0 n1 fs (hkids n1 zp) h1 hFg hFb hgx hb (by simp only [N.cntl] at hlim; omega)) fun e w' h => walkQ_of h ?_ ?_
     · simp only [hit_prs, hit_prsl2, List.length_append, Nat.add_assoc]
     · simp only [hit_prs, hit_prsl2, List.append_assoc]
   | seq vs' s1 s2 hs1 hs2 =>
     subst hvs; rw [show kpT 14 = 93 from rfl]; rw [show ksT 14 = 99 from rfl] at hgx
     refine Calls.mono (c25_14 w F hF g gx b tk F0 K a m cp xs hg hrow hf0 hdis fl s1 s2 kids ds hkids hats hs1 hFg hFb hgx hb hlim) fun e w' h => walkQ_of h ?_ ?_
     · simp only [hit_prs, List.length_append, Nat.add_assoc]
     · simp only [hit_prs, List.append_assoc]
   | map ps s1 hs1 =>
     rw [show kpT 11 = 153 from rfl]; rw [show ksT 11 = 156 from rfl] at hgx
     refine Calls.mono (c25_11 w F hF g gx b tk F0 K a m cp xs hg hrow hf0 hdis fl s1 kids ds ps hkids hats hvs hs1 hFg hFb hgx hb hlim) fun e w' h => walkQ_of h ?_ ?_
     · simp only [hit_prs, List.length_append, Nat.add_assoc]
     · simp only [hit_prs, List.append_assoc]
theorem walk_list : ∀ l : List N, ∀ x ∈ l, WalkC x
 | [], x, hx => by cases hx
 | n :: l, x, hx => by
   rcases List.mem_cons.1 hx with h | h
   · rw [h]
     exact walk_all n
   · exact walk_list l x h
end
section
variable {E : En} {S : St} {dst : Option Tmp} {ty : TypeId} {pos : String} {after : Array Edge} {guard : Option (Nat × Bool)} {c : Call}
theorem LS_walkN {x y : Operand} (n : N) (d : D) (F : Nat -> Prop) (K : Int) (j : Nat) (a : Option Addr) (m cp : Nat) (xs : List Value) (hw : WalkC n) (hat : ATd E.X.w0 F n d) (hF : ∀ k, F k -> k < E.X.w0.heap.size /\ ¬ E.X.M k) (hP : E.X.P = Tryz.prog)
 (hc : c.callee = .value (.func 25)) (ha : c.args = #[x, y]) (hx : ev S x = .sc (.ic 75 0 0)) (hy : ev S y = .sc (.va d.x))
 (hm : (0, 77, (flwC K a m cp).map .va) ∈ S.h) (hu : ∀ t' cs', (0, t', cs') ∈ S.h -> t' = 77) (hj : (j, Row 54 1 (.slice a m cp) m xs) ∈ E.A) (hlim : m + n.cnt <= 1000000) :
 LS E S ⟨dst, .call c, ty, pos, after, guard⟩ [0] (fun _ : Option Addr × Nat => True) (fun z : Option Addr × Nat => S.putN 0 (flwC K z.1 (m + (hit K (prs n d)).length) z.2) dst (.tu []))
  (fun z : Option Addr × Nat => (S.m, Row 54 1 (.slice z.1 (m + (hit K (prs n d)).length) z.2) (m + (hit K (prs n d)).length) (xs ++ hit K (prs n d))) :: outF [j] E.A) := by
 refine LS_callM (f := 25) 0 77 [j] (fun _ => .tu []) (fun _ => True) (fun z : Option Addr × Nat => Row 54 1 (.slice z.1 (m + (hit K (prs n d)).length) z.2) (m + (hit K (prs n d)).length) (xs ++ hit K (prs n d))) (fun z : Option Addr × Nat => flwC K z.1 (m + (hit K (prs n d)).length) z.2) hP hc zk (fun _ t ht => by cases ht) (by rw [ha]; simp [hx, hy, SV.known, Cl.known]) hm hu fun a' w r own hs => ?_
 have hb := hs.blk hm; have ho := (hs.heap 0 77 _ hm).2.2.1
 have h2 := hw w F d (hat.ext (fun _ h => h) fun k hk => hs.frm.block k (hF k hk).1 (hF k hk).2) (fun k hk => Nat.lt_of_lt_of_le (hF k hk).1 hs.frm.size) (r 0) (fun k => ∃ j' ∈ [j], own k = some (.fa j')) K a m cp xs hb (Row.pred (hs.fact j _ hj).2 fun k => by simp) (fun k hk => by
  obtain ⟨j', _, hj'⟩ := hk
  refine ⟨fun e => ?_, (hs.bnd k _ hj').1⟩
  rw [e, ho] at hj'
  cases hj') (fun k hk => ⟨fun e => by
   rcases (hs.bnd _ _ ho).2 with h | h
   · exact absurd (hF k hk).1 (Nat.not_lt.2 (e ▸ h))
   · exact (hF k hk).2 (e ▸ h), fun ⟨j', _, hj'⟩ => by
   rcases (hs.bnd k _ hj').2 with h | h
   · exact absurd (hF k hk).1 (Nat.not_lt.2 h)
   · exact (hF k hk).2 h⟩) hlim
 rw [ha]
 simpa [hx, hy, SV.den, Cl.den] using h2
end
section
attribute [local irreducible] LS WS WQ
theorem c15 (w : World) (F : Nat -> Prop) (hFl : ∀ k, F k -> k < w.heap.size) (n : N) (d : D) (hat : ATd w F n d) (K : Int) (hlim : n.cnt <= 1000000) :
 Calls Tryz.prog 15 [.int .i64 K, d.x].toArray w (Ret1 (fun z : Option Addr × Nat => .sc (.va (.slice z.1 (hit K (prs n d)).length z.2))) (fun _ => True) (fun z => Row 54 1 (.slice z.1 (hit K (prs n d)).length z.2) (hit K (prs n d)).length (hit K (prs n d))) w) := by
 obtain ⟨x, ds⟩ := d
 obtain ⟨Tn, gx, rfl⟩ : ∃ Tn gx, x = .iface Tn (ptr gx) := by
  obtain ⟨k, ty, v, t, fl, c, kids⟩ := n; rw [ATd] at hat; obtain ⟨g, b, tk, p, cs, rfl, _⟩ := hat; exact ⟨_, _, rfl⟩
 simp only [D.x]
 refine calls_start 1000 Tryz.func15 rfl fun E hX hP hA hQ => ?_
 repeat' first
  | refine zA ?_ | apply zI <;> intro hdec | with_reducible constructor
  | apply WX_fin hX rfl hQ (.inr rfl)
  | (refine WO_LS 850 (LS_walkN n (.mk (.iface Tn (ptr gx)) ds) F K 0 none 0 0 [] (walk_all n) (by rw [hX]; exact hat) (by rw [hX]; exact fun k hk => ⟨hFl k hk, fun h => h⟩) hP rfl rfl ?_ ?_ ?_ ?_ ?_ zo) ?_
     · exact zq0
     · simp only [go_sem, D.x]
     exact zq15; exact zq14; exact zq13; rintro ⟨a1, q1⟩ _ E2 h1 h2 h3; refine zz ?_; intro hX hP hA hQ)
  | (with_reducible have hA0 := (hA : _ = ([] : Facts))
     apply WO_tr [] (Row 54 1 (.slice none 0 0) 0 []) (fun _ w _ own _ => rowE w own)
     intro E2 h1 h2 h3; refine zz ?_; intro hX hP hA hQ)
  | simp (maxSteps := 20000000) only [Tryz.f15, go_sem, zL, ↓reduceIte, reduceCtorEq, Nat.reduceAdd, Nat.reduceMul, Nat.reduceSub, Nat.reduceLeDiff, Nat.reduceEqDiff, Nat.reduceLT, Nat.reduceBEq, Int.reduceEq, hP, hX, D.x, Nat.zero_add, List.nil_append]
 all_goals first
  | (intro a' w' r own hs'
     rw [hA] at hs'; exact ret1_fin1 (α := Option Addr × Nat) (B := fun z => Row 54 1 (.slice z.1 (hit K (prs n (.mk (.iface Tn (ptr gx)) ds))).length z.2) (hit K (prs n (.mk (.iface Tn (ptr gx)) ds))).length (hit K (prs n (.mk (.iface Tn (ptr gx)) ds)))) hs' (a1, q1) trivial (fun r => .inr rfl) (j := 1) zm)
end
theorem run_append_zero {P : Program} (w : World) (t ty e : TypeId) (i : TypeInfo) (ht : P.underlying t = some (.slice e)) (hi : P.info? e = some i) (a : Option Addr) (n cap : Nat) (h : n <= cap) :
 (Builtin.append_ #[t, t] ty #[.slice a n cap, .slice none 0 0]).run P w = .ok (.slice a n cap) w := by
 cases a <;> simp [Builtin.append_, run_underlying ht, sizeOf, typeInfo, hi, Builtin.lenOf, h, run_firstCells_none, storeCells]
section
variable {E : En} {S : St} {c : Call} {dst : Option Tmp} {ty : TypeId} {pos : String} {after : Array Edge} {guard : Option (Nat × Bool)}
theorem LS_append0 {P : Program} {s x : Operand} {t e size bytes : Nat} (a0 : Option Addr) (n cap : Nat) (hP : E.X.P = P) (hc : c = { callee := .builtin .append, args := #[s, x], argTypes := #[t, t] })
 (hT : rowT P t e size bytes = true) (hv : ev S s = .sc (.va (.slice a0 n cap))) (hx : ev S x = .sc (.va (.slice none 0 0))) (hn : n <= cap) :
 LS E S ⟨dst, .call c, ty, pos, after, guard⟩ [] (fun _ : Unit => True) (fun _ => S.put dst (.sc (.va (.slice a0 n cap)))) (fun _ => E.A) := by
 subst hP; subst hc; obtain ⟨t1, ⟨i, z, t2, t3, t4, t5, t6⟩, t7⟩ := rowT_spec hT
 refine LS_any (o := ⟨dst, .call _, ty, pos, after, guard⟩) (fun _ : Unit => Value.slice a0 n cap) (fun _ => True) fun a w r own hs => ⟨(), trivial, w, .inl rfl, ?_⟩
 have h1 := va_of (hv ▸ (ev_ok hs.toR s).1); have h2 := va_of (hx ▸ (ev_ok hs.toR x).1); have hr := run_append_zero (P := E.X.P) w t ty e i t1 t2 a0 n cap hn
 simp [execOp, resolve, invoke, builtin, h1, h2, hr]
theorem News_raw {x : Operand} {e m cp : Nat} {A : Addr} {xs : List Value} (hM : ∀ k, k < E.X.w0.heap.size -> ¬ E.X.M k) (hx : ev S x = .sc (.va (.slice (some A) m cp))) (hr : E.X.w0.ownsRow 0 e 1 (.slice (some A) m cp) m xs) (h1 : ∀ u ∈ xs, u.oneCell' = true) : News E S x m xs := by
 intro a w r own hs; obtain ⟨_, h2 | ⟨g, cap, cur, e1, _, hg, _⟩⟩ := id hr
 · simp at h2
 · simp only [Value.slice.injEq, Option.some.injEq] at e1
   obtain ⟨rfl, _, rfl⟩ := e1; have hlt : g < E.X.w0.heap.size := (Array.getElem?_eq_some_iff.1 hg).1; have hw := hs.frm.block g hlt (hM g hlt)
   have hr2 : w.ownsRow 0 e 1 (.slice (some ⟨g, 0, none⟩) m cp) m xs := ownsRow_ext hr fun k hk => by
    simp only [Value.ownBlock, Option.some.injEq] at hk; subst hk; exact hw
   exact ⟨⟨g, 0, none⟩, cp, va_of (hx ▸ (ev_ok hs.toR x).1), hr2.cells rfl, h1⟩
end
section
attribute [local irreducible] LS WS WQ
theorem Row.wkI {e size n : Nat} {v : Value} {xs : List Value} {w : World} {F F' : Nat -> Prop} (h : (Row e size v n xs).P w F) (hF : ∀ k, F k ↔ F' k) : (Row e size v n xs).P w F' :=
 ⟨h.1, fun k => (hF k).symm.trans (h.2.1 k), h.2.2⟩
def MapB (tk : Nat) (fl : Bool) (n : Nat) (xs : List Value) (x : Nat × Nat × Option Addr × Nat) : Asn :=
 Asn.sep (Blk x.1 156 [ptr x.2.1, ptr tk, .pointer none, .bool fl, .slice x.2.2.1 n x.2.2.2, .pointer none]) (Asn.sep (Blk x.2.1 230 baseC) (Row 157 1 (.slice x.2.2.1 n x.2.2.2) n xs))
theorem c59 (w : World) (tk : Nat) (fl : Bool) (A : Addr) (n cp : Nat) (xs : List Value) (hn : n <= 1000000) (hrow : w.ownsRow 0 157 1 (.slice (some A) n cp) n xs) (h1x : ∀ u ∈ xs, u.oneCell' = true) : Calls Tryz.prog 59 [ptr tk, .bool fl, .slice (some A) n cp].toArray w (Ret1 (fun x : Nat × Nat × Option Addr × Nat => .sc (.va (ptr x.1))) (fun _ => True) (MapB tk fl n xs) w) := by
 have hlx : xs.length = n * 1 := hrow.1
 refine calls_start 1000 Tryz.func59 rfl fun E hX hP hA hQ => ?_
 repeat' first
  | refine zA ?_ | apply zI <;> intro hdec | with_reducible constructor
  | (with_reducible show WO _ _ _ _ _ _
     apply WO_conc 1 157 ([]) rfl
     intro g1 E2 h1 h2 h3; simp only [go_sem, ↓reduceIte, Nat.reduceAdd, Nat.zero_add, Nat.reduceEqDiff]; refine zz ?_; intro hX hP hA hQ)
  | (refine zr89 ?_; intro E2 h1 h2 h3; refine zy ?_; intro hX hP hA hQ) | (refine WO_LS 850 (LS_append (e := 157) (size := 1) (bytes := 8) 1 (.slice (some ⟨g1, 0, none⟩) 0 0) (0) ([]) n xs hP rfl ?_ ?_ ?_ ?_ ?_ ?_ ?_) ?_; exact zq1; exact zq0; exact zq13; exact News_raw (A := A) (cp := cp) (by rw [hX]; exact fun _ _ h => h) (by simp only [go_sem]) (by rw [hX]; exact hrow) h1x; exact hlx; omega; decide; rintro v' ⟨_, a', cp', rfl⟩ E2 h1 h2 h3; refine zz ?_; intro hX hP hA hQ) | refine zs0 ?_
 all_goals try first
  | omega
  | (intro a w' r own hs'
     rw [hA] at hs'; have h2 := hs'.conc (n := 0) (t := 230) (vals := baseC) zp; have h3 := h2.conc (n := 2) (t := 156) (vals := [ptr (r 0), ptr tk, .pointer none, .bool fl, .slice a' n cp', .pointer none]) (by simp [St.conc, concH, Cl.conc]); obtain ⟨own4, h4⟩ := h3.join2 (j1 := 3) (j2 := 2) (B1 := Blk (r 0) 230 baseC) (B2 := Row 157 1 (.slice a' n cp') n xs) (by simp [St.conc]) (by simp [St.conc]) zi; obtain ⟨own5, h5⟩ := h4.join2 (j1 := 4) (j2 := 5) (B1 := Blk (r 2) 156 [ptr (r 0), ptr tk, .pointer none, .bool fl, .slice a' n cp', .pointer none]) (B2 := Asn.sep (Blk (r 0) 230 baseC) (Row 157 1 (.slice a' n cp') n xs)) (by simp [St.conc, outF]) (by simp [St.conc, outF]) zi; exact ret1_fin1 (B := MapB tk fl n xs) (j := 6) h5 (r 2, r 0, a', cp') trivial (fun r => .inr rfl) (by simp [St.conc, MapB]))
theorem c59_0 (w : World) (tk : Nat) (fl : Bool) : Calls Tryz.prog 59 [ptr tk, .bool fl, .slice none 0 0].toArray w (Ret1 (fun x : Nat × Nat × Option Addr × Nat => .sc (.va (ptr x.1))) (fun _ => True) (MapB tk fl 0 []) w) := by
 refine calls_start 1000 Tryz.func59 rfl fun E hX hP hA hQ => ?_
 repeat' first
  | refine zA ?_ | apply zI <;> intro hdec | with_reducible constructor
  | (with_reducible show WO _ _ _ _ _ _
     apply WO_conc 1 157 ([]) rfl
     intro g1 E2 h1 h2 h3; simp only [go_sem, ↓reduceIte, Nat.reduceAdd, Nat.zero_add, Nat.reduceEqDiff]; refine zz ?_; intro hX hP hA hQ)
  | (refine zr89 ?_; intro E2 h1 h2 h3; refine zy ?_; intro hX hP hA hQ) | (refine WO_LE 850 (LS_append0 (e := 157) (size := 1) (bytes := 8) (some ⟨g1, 0, none⟩) 0 0 hP rfl ?_ ?_ ?_ (Nat.le_refl _)) ?_; exact zq1; exact zq0; exact zq0; intro _ _) | refine zs0 ?_
 all_goals try first
  | omega
  | (intro a w' r own hs'
     rw [hA] at hs'; have h2 := hs'.conc (n := 0) (t := 230) (vals := baseC) zp; have h3 := h2.conc (n := 2) (t := 156) (vals := [ptr (r 0), ptr tk, .pointer none, .bool fl, .slice (some ⟨g1, 0, none⟩) 0 0, .pointer none]) (by simp [St.conc, concH, Cl.conc]); obtain ⟨own4, h4⟩ := h3.join2 (j1 := 2) (j2 := 1) (B1 := Blk (r 0) 230 baseC) (B2 := Row 157 1 (.slice (some ⟨g1, 0, none⟩) 0 0) 0 []) (by simp [St.conc]) (by simp [St.conc]) zi; obtain ⟨own5, h5⟩ := h4.join2 (j1 := 3) (j2 := 4) (B1 := Blk (r 2) 156 [ptr (r 0), ptr tk, .pointer none, .bool fl, .slice (some ⟨g1, 0, none⟩) 0 0, .pointer none]) (B2 := Asn.sep (Blk (r 0) 230 baseC) (Row 157 1 (.slice (some ⟨g1, 0, none⟩) 0 0) 0 [])) (by simp [St.conc, outF]) (by simp [St.conc, outF]) zi; exact ret1_fin1 (B := MapB tk fl 0 []) (j := 5) h5 (r 2, r 0, some ⟨g1, 0, none⟩, 0) trivial (fun r => .inr rfl) (by simp [St.conc, MapB]))
end
end
section
attribute [local irreducible] leT leH WO WX WC WD LS WS WQ
theorem c59g (w : World) (tk : Nat) (fl : Bool) (a : Option Addr) (n cp : Nat) (xs : List Value) (hn : n <= 1000000) (hrow : w.ownsRow 0 157 1 (.slice a n cp) n xs) (h1x : ∀ u ∈ xs, u.oneCell' = true) :
 Calls Tryz.prog 59 [ptr tk, .bool fl, .slice a n cp].toArray w (Ret1 (fun x : Nat × Nat × Option Addr × Nat => .sc (.va (ptr x.1))) (fun _ => True) (fun x => Asn.sep (Blk x.1 156 [ptr x.2.1, ptr tk, .pointer none, .bool fl, .slice x.2.2.1 n x.2.2.2, .pointer none]) (Asn.sep (Blk x.2.1 230 baseC) (Row 157 1 (.slice x.2.2.1 n x.2.2.2) n xs))) w) := by
 cases a with
 | some A => exact c59 w tk fl A n cp xs hn hrow h1x
 | none =>
   obtain ⟨h1, ⟨h2, rfl⟩ | ⟨g, cap, cur, h2, _⟩⟩ := hrow
   · simp only [Value.slice.injEq, true_and] at h2
     obtain rfl := h2; have : xs = [] := List.eq_nil_of_length_eq_zero (by simpa using h1); subst this; exact c59_0 w tk fl
   · simp at h2
theorem rowOwn {e size n : Nat} {v : Value} {xs : List Value} {w : World} {F : Nat -> Prop} (h : (Row e size v n xs).P w F) : w.ownsRow 0 e size v n xs /\ ∀ u ∈ xs, u.oneCell' = true := ⟨h.1, h.2.2⟩
theorem rowSlC {e : Nat} {v : Value} {xs : List Value} {n : Nat} {w : World} {F F' : Nat -> Prop} (h : (Row e 1 v n xs).P w F) (hF : ∀ k, F k -> F' k) : SlC w F' e v xs := by
 have hl : xs.length = n * 1 := h.1.1
 refine ⟨?_, fun k hk => hF k ((h.2.1 k).2 hk)⟩
 rw [show xs.length = n by omega]; exact h.1
theorem c27_11 (w : World) (FG : Nat -> Prop) (hG : Gl w FG) (ty : Int) (v t : ByteArray) (fl : Bool) (c : Int) (l : List N) (ka : Option Addr) (kc : Nat) (F : Nat -> Prop) (hF : ∀ k, F k -> k < w.heap.size) (hgs : GS w 31 19 F (.slice ka l.length kc) (N.gs l)) (hp : ∀ x ∈ l, PairC x) (hcs : ∀ x ∈ l, 1 <= x.c /\ x.c <= 200) (hlen : l.length <= 1000000) (tk p : Nat) (htk : Hp w tk 87 (tokC ty t p)) :
 Calls Tryz.prog 27 [.agg (nodeC 11 ty v t t ⟨#[]⟩ fl false false 1 c c 0 0 ka l.length kc).toArray, ptr tk].toArray w (Ret1 (fun g : Nat => .sc (.va (.iface 153 (ptr g)))) (fun _ => True) (fun g => Ast0A tk (.mk 11 ty v t fl c l) (.iface 153 (ptr g))) w) := by
 refine calls_start 1000 Tryz.func27 rfl fun E hX hP hA hQ => ?_
 repeat' first
  | refine zB ?_ | apply zI <;> intro hdec | with_reducible constructor
  | refine zu 23 sch27_23 [] ?_
  | refine zu 24 sch27_24 [10] ?_
  | (refine WS_rc 850 (⟨tk, 6, none⟩) ([ptr p]) false hX ?_ rfl ?_ ?_ ?_ ?_ (fun _ => rfl) ?_; exact zq2; exact zq0; exact zq18; exact zq8; exact sz79)
  | (refine WD_LS 850 ?_ (LS_call2 (α := List Nat × Option Addr × Nat) (f := 60) (fun x => .sc (.va (.slice x.2.1 x.1.length x.2.2))) (fun x => x.1.length = l.length) (fun x => Row 157 1 (.slice x.2.1 x.1.length x.2.2) x.1.length (x.1.map ptr)) (fun x => AstsA l (psV x.1)) hP ?_ ?_ ?_ ?_ ?_) ?_ ?_
     exact zq2; rfl; exact zq1; exact zq9; exact zq0
     · (intro a w r own hSim; rw [hX] at hSim; simp only [go_sem]; have hGs := (hG.of hSim (fun k hk h => h)); with_reducible exact c60 _ FG hGs l ka kc F (fun k hk => Nat.lt_of_lt_of_le (hF k hk) hSim.frm.size) (hgs.of0s hSim hF) hp hcs hlen)
     exact zq16; rintro ⟨ps, ad, cp1⟩ hps E2 h1 h2 h3; refine zy ?_; intro hX hP hA hQ)
  | (refine WD_LS 850 ?_ (LS_callP (α := Nat × Nat × Option Addr × Nat) (f := 59) (fun x => x.1) (fun _ => True) 156 (fun x => [ptr x.2.1, ptr tk, .pointer none, .bool fl, .slice x.2.2.1 ps.length x.2.2.2, .pointer none]) (fun x => Asn.sep (Blk x.2.1 230 baseC) (Row 157 1 (.slice x.2.2.1 ps.length x.2.2.2) ps.length (ps.map ptr))) hP ?_ ?_ ?_ ?_ ?_) ?_ ?_
     exact zq2; rfl; exact zq1; exact zq0
     · (rw [hA]; rfl)
     · (intro a w r own hSim; rw [hX, hA] at hSim; simp only [go_sem]; with_reducible exact c59g _ tk fl ad ps.length cp1 (ps.map ptr) (by dsimp only at hps; omega) (rowOwn (hSim.fact 1 _ zmb).2).1 (rowOwn (hSim.fact 1 _ zmb).2).2)
     exact zq16; rintro ⟨gs, gb, ad2, cp2⟩ _ E2 h1 h2 h3; simp only [St.callP, List.map_cons, List.map_nil]; refine zz ?_; intro hX hP hA hQ)
  | (refine zdS 28 (.sc (.va (.pointer none))) ?_ ?_; exact zq60) | refine zs34 ?_
 all_goals try first
  | omega
  | (intro a w' r own hs'
     rw [hA] at hs'; obtain ⟨own1, h1⟩ := hs'.split (j := 5) zm; have h2 := h1.conc (n := 1) (t := 156) (vals := [ptr gb, ptr tk, .pointer none, .bool fl, .slice ad2 ps.length cp2, .pointer none]) zp; have b1 := h2.bk (j := 8) (g := r 1) (t := 156) (cs := [ptr gb, ptr tk, .pointer none, .bool fl, .slice ad2 ps.length cp2, .pointer none]) zp; have b2 := h2.bk (j := 6) (g := gb) (t := 230) (cs := baseC) zp; have a1 := (h2.fact 7 (Row 157 1 (.slice ad2 ps.length cp2) ps.length (ps.map ptr)) zp).2; have a2 := (h2.fact 2 (AstsA l (psV ps)) (by simp [outF])).2; exact ret1_finU h2 [2, 6, 7, 8] (r 1) trivial (fun r => .inr rfl) ⟨r 1, gb, psV ps, _, rfl, ⟨8, zp, b1.1⟩, ⟨6, zp, b2.1⟩, b2.2, b1.2, .map ps _ (rowSlC a1 fun k hk => ⟨7, zp, hk⟩), ATs.ext (fun k hk => ⟨2, zp, hk⟩) (fun _ _ => rfl) a2⟩)
end
section
attribute [local irreducible] leT leH
theorem WX_asts {E : En} {e : Exit} {k : Kt} {S : St} (j1 j2 : Nat) (l : List N) (vs : List Value) (n : N) (x : Value) (h1 : (j1, AstsA l vs) ∈ E.A) (h2 : (j2, AstA n x) ∈ E.A)
 (h3 : ∀ E2 : En, E2.X = E.X -> E2.A = (S.m, AstsA (l ++ [n]) (vs ++ [x])) :: outF [j1, j2] E.A -> E2.Q = E.Q -> WX E2 e k { S with m := S.m + 1 }) : WX E e k S := by
 intro a w r own hs; have h4 := hs.trade [j1, j2] (B := AstsA (l ++ [n]) (vs ++ [x])) (F := fun k => ∃ j ∈ [j1, j2], own k = some (.fa j)) (Frm.refl _ w) (ATs.snoc (ATs.ext (fun k hk => ⟨j1, zp, hk⟩) (fun _ _ => rfl) (hs.fact j1 _ h1).2) (AT.ext (fun k hk => ⟨j2, zp, hk⟩) (fun _ _ => rfl) (hs.fact j2 _ h2).2)) (fun k hk => .inl hk); have h5 := h3 ⟨E.X, (S.m, AstsA (l ++ [n]) (vs ++ [x])) :: outF [j1, j2] E.A, E.Q⟩ rfl rfl rfl a w r _ h4
 rwa [kq_congr (E := E) (E' := ⟨E.X, (S.m, AstsA (l ++ [n]) (vs ++ [x])) :: outF [j1, j2] E.A, E.Q⟩) rfl rfl] at h5
structure SL where
 n : Nat
 vs : List Value
 cs : List Value
 ls : List N
 ad : Option Addr
 cp : Nat
 ad2 : Option Addr
 cp2 : Nat
theorem c63 (w : World) (FG : Nat -> Prop) (hG : Gl w FG) (ty : Int) (v t : ByteArray) (fl : Bool) (c : Int) (l : List N) (A : Option Addr) (cp : Nat) (F : Nat -> Prop) (hF : ∀ k, F k -> k < w.heap.size) (hgs : GS w 31 19 F (.slice A l.length cp) (N.gs l)) (hp : ∀ x ∈ l, BuildC x) (hc : ∀ x ∈ l, 1 <= x.c /\ x.c <= 200) (hlen : l.length <= 1000000) (tk p : Nat) (htk : Hp w tk 87 (tokC ty t p)) :
 Calls Tryz.prog 63 [.agg (nodeC 14 ty v t t ⟨#[]⟩ fl false false 1 c c 0 0 A l.length cp).toArray, ptr tk].toArray w (Ret1 (fun g : Nat => .sc (.va (.iface 93 (ptr g)))) (fun _ => True) (fun g => Ast0A tk (.mk 14 ty v t fl c l) (.iface 93 (ptr g))) w) := by
 obtain ⟨A', cp', e1, e2, hkid⟩ := nkid_at hgs; simp only [Value.slice.injEq] at e1; obtain ⟨rfl, _, rfl⟩ := e1
 refine calls_start 1000 Tryz.func63 rfl ?_
 intro E hX hP hA hQ
 repeat' first
  | refine zA ?_ | apply zI <;> intro hdec | with_reducible constructor
  | (with_reducible refine WO_LS 850 (LS_callP (α := Nat × Nat × Nat) (f := 101) (fun x => x.1) (fun _ => True) 99 (fun x => [ptr x.2.1, ptr tk, .pointer none, .bool fl, .slice (some ⟨x.2.2, 0, none⟩) 0 0, .slice none 0 0, .slice none 0 0, .pointer none]) (fun x => Asn.sep (Blk x.2.1 230 baseC) (Blk x.2.2 54 [])) hP ?_ ?_ ?_ ?_ ?_) ?_
     rfl; exact zq1; exact zq0
     · (rw [hA]; rfl)
     · (intro a w r own hSim; rw [hX, hA] at hSim; simp only [go_sem]; exact c101 _ tk fl)
     rintro ⟨gn, gb, gs⟩ _ E2 h1 h2 h3; simp only [St.callP, List.map_cons, List.map_nil]; refine zz ?_; intro hX hP hA hQ)
  | refine zs9 ?_
 apply WC_split 2 (Blk gb 230 baseC) (Blk gs 54 []) zw0
 intro E2 h1 h2 h3; refine zy ?_; intro hX hP hA hQ
 refine WC_imp [(4, Row 54 1 (.slice (some ⟨gs, 0, none⟩) 0 0) 0 []), (3, Blk gb 230 baseC)] (fun j B hm => by
  rw [hA]; simp only [List.mem_cons, Prod.mk.injEq, List.not_mem_nil, or_false] at hm
  rcases hm with ⟨rfl, rfl⟩ | ⟨rfl, rfl⟩
  · exact ⟨_, List.mem_cons_self .., fun w F h => Blk.row (e := 54) (size := 1) (n := 0) (cap := 0) h (Nat.le_refl _) zi rfl⟩
  · exact ⟨_, List.mem_cons_of_mem _ zm, fun w F h => h⟩) ?_
 intro E2 h1 h2 h3; replace hX := h1.trans hX
 replace hP : E2.X.P = Tryz.prog := by rw [hX]
 replace hQ := h3.trans hQ; replace hA := h2; clear h1 h2 h3
 apply WC_addE (Row 88 1 (.slice none 0 0) 0 []) (fun w => ⟨World.ownsRow_nil w _ _ _, fun k => by simp [Value.ownBlock], fun u hu => by cases hu⟩)
 intro E2 h1 h2 h3; dsimp only; refine zz ?_; intro hX hP hA hQ
 apply WC_addE (AstsA [] []) (fun w => rfl)
 intro E2 h1 h2 h3; dsimp only; refine zz ?_; intro hX hP hA hQ
 apply WC_loopG (ι := SL) (fun x => x.n <= l.length /\ x.vs.length = x.n /\ x.cs = List.replicate x.n (.pointer none) /\ x.ls = l.take x.n) [16, 17, 18, 7, 19, 20, 21, 22, 23, 24, 25, 26, 27, 28, 29, 30, 31, 32, 33, 34, 35, 36, 37, 38, 39, 40, 41, 42, 43, 44, 45, 15] (fun x => [(15, .sc (.va (.int .i64 x.n)))]) (fun x => [(0, 31, [.va (.int .i64 14), .va (.int .i64 ty), .va (.string v), .va (.string t), .va (.string t), .va (.string ⟨#[]⟩), .va (.bool fl), .va (.bool false), .va (.bool false), .va (.int .i64 1), .va (.int .i64 c), .va (.int .i64 c), .va (.int .i64 0), .va (.int .i64 0), .va (.slice none 0 0), .va (.slice none 0 0), .va (.slice none 0 0), .va (.slice none 0 0), .va (.slice A l.length cp)]), (1, 99, [.va (ptr gb), .va (ptr tk), .va (.pointer none), .va (.bool fl), .va (.slice x.ad x.n x.cp), .va (.slice x.ad2 x.n x.cp2), .va (.slice none 0 0), .va (.pointer none)])]) (fun x => [(0, Blk gb 230 baseC), (1, Row 54 1 (.slice x.ad x.n x.cp) x.n x.vs), (2, Row 88 1 (.slice x.ad2 x.n x.cp2) x.n x.cs), (3, AstsA x.ls x.vs)]) (fun x => l.length - x.n) ⟨0, [], [], [], some ⟨gs, 0, none⟩, 0, none, 0⟩ ⟨Nat.zero_le _, rfl, rfl, rfl⟩ [(3, 0), (4, 1), (5, 2), (6, 3)] hX
 exact zq10; exact zq5; exact zq7; exact zq5; rfl; rfl; rfl; exact zq4; rintro ⟨n, vs, cs, ls, ad, cp1, ad2, cp2⟩ ⟨hi, hvs, hcs, hls⟩ E' hX' hA' hQ' J hJ; refine zl ?_; intro hX hP hA hQ
 refine vc_ok 900 _ _ _ ?_
 dsimp only at hi hvs hcs hls hA
 by_cases hil : n < l.length
 · obtain ⟨x, hx⟩ : ∃ x, l[n]? = some x := ⟨_, List.getElem?_eq_getElem hil⟩
   have hxm := List.mem_of_getElem? hx
   obtain ⟨A1, rfl⟩ : ∃ A1, A = some A1 := by
    rcases e2 with rfl | h
    · simp at hil
    · exact zq53
   obtain ⟨hFb, ka1, kc1, hcell, hgs1⟩ := hkid _ x hx
   have htk2 : l.take (n + 1) = l.take n ++ [x] := by rw [List.take_add_one, hx]; rfl
   have hpx := hp x hxm; obtain ⟨hx1, hx2⟩ := hc x hxm; obtain ⟨k1, ty1, v1, t1, fl1, c1, l1⟩ := x; replace hx1 : 1 <= c1 := hx1; replace hx2 : c1 <= 200 := hx2
   repeat' first
    | refine zC ?_ | apply zI <;> intro hdec | with_reducible constructor | (refine zr82 ?_; intro _ _)
    | (with_reducible show WC _ (.region 5 _ _) _ _
       with_reducible apply WC_drawn 900 sch63_5 [11] [] hP
       exact zq1; exact zq2; exact zq1)
    | (with_reducible show WC _ (.region 6 _ _) _ _
       with_reducible apply WC_drawn 900 sch63_6 [15] [] hP
       exact zq1; exact zq2; exact zq1)
    | (with_reducible refine WD_LS 850 ?_ (LS_call1 (α := Nat) (f := 16) (fun g : Nat => .sc (.va (.iface (kpT k1) (ptr g)))) (fun _ => True) (fun g => AstA (.mk k1 ty1 v1 t1 fl1 c1 l1) (.iface (kpT k1) (ptr g))) hP ?_ ?_ ?_ ?_ ?_) ?_ ?_
       exact zq2; rfl; exact zq1; exact zq9; exact zq0
       · (intro a w r own hSim; rw [hX] at hSim; simp only [go_sem]; have hGs := (hG.of hSim (fun k hk h => h)); have hc := hpx _ FG hGs F ka1 kc1 (hgs1.of0s hSim hF) (fun k hk => Nat.lt_of_lt_of_le (hF k hk) hSim.frm.size); simp only [N.cells, nodeC, N.k, N.ty, N.v, N.t, N.fl, N.c, N.kids, bldR] at hc; with_reducible exact hc)
       exact zq16; rintro gk _ E2 h1 h2 h3; refine zz ?_; intro hX hP hA hQ)
    | (refine zr87 ?_; rintro gp _ E2 h1 h2 h3; refine zz ?_; intro hX hP hA hQ) | refine zr68 ?_
    | (with_reducible refine WD_LS 850 ?_ (LS_append (e := 54) (size := 1) (bytes := 16) 1 (.slice ad n cp1) (n) (vs) 1 [.iface (kpT k1) (ptr gk)] hP rfl ?_ ?_ ?_ ?_ ?_ ?_ ?_) ?_ ?_
       exact zq2; exact zq1; exact zq0; exact zq44; exact zq22; rfl; omega; decide; exact zq16; rintro v' ⟨_, a1, q1, rfl⟩ E2 h1 h2 h3; refine zz ?_; intro hX hP hA hQ)
    | (with_reducible refine WD_LS 850 ?_ (LS_append (e := 88) (size := 1) (bytes := 8) 2 (.slice ad2 n cp2) (n) (cs) 1 [.pointer none] hP rfl ?_ ?_ ?_ ?_ ?_ ?_ ?_) ?_ ?_
       exact zq2; exact zq1; exact zq0
       · (rw [hA]; exact List.mem_cons_of_mem _ (List.mem_cons_of_mem _ (List.mem_cons_of_mem _ zmb)))
       exact zq22; rfl; omega; decide; exact zq16; rintro v' ⟨_, a2, q2, rfl⟩ E2 h1 h2 h3; refine zz ?_; intro hX hP hA hQ)
    | (with_reducible apply WX_asts 3 7 ls vs (.mk k1 ty1 v1 t1 fl1 c1 l1) (.iface (kpT k1) (ptr gk))
       · (rw [hA]; exact List.mem_cons_of_mem _ (List.mem_cons_of_mem _ (List.mem_cons_of_mem _ (List.mem_cons_of_mem _ zmb))))
       exact zq68; intro E2 h1 h2 h3; refine zy ?_; intro hX hP hA hQ)
    | (with_reducible apply WX_lpG _ _ [(0, 0), (8, 1), (10, 2), (11, 3)] hX (hJ (⟨n + 1, vs ++ [.iface (kpT k1) (ptr gk)], cs ++ [.pointer none], ls ++ [(.mk k1 ty1 v1 t1 fl1 c1 l1)], a1, q1, a2, q2⟩) ⟨zj, by simp [hvs], by simp [hcs, List.replicate_succ'], by simp only [hls, htk2]⟩ zj)
       exact zq7; exact zq3; exact zq7; exact zq3; rfl; rfl; rfl; exact zq4)
    | simp (maxSteps := 20000000) only [Tryz.f63, go_sem, zL, ↓reduceIte, reduceCtorEq, Nat.reduceAdd, Nat.reduceMul, Nat.reduceSub, Nat.reduceLeDiff, Nat.reduceEqDiff, Nat.reduceLT, Nat.reduceBEq, Int.reduceEq, hP, hX, N.cells, nodeC, N.k, N.ty, N.v, N.t, N.fl, N.c, N.kids, List.length_cons, List.length_nil, Option.isNone_none, Int.toNat_natCast, Nat.add_zero]
   all_goals try first
    | omega | rfl | (unfold I64; omega) | exact zr76
 · obtain rfl : n = l.length := by omega
   rw [List.take_length] at hls; subst hcs; have hls2 : l = ls := hls.symm; subst hls2
   repeat' first
    | refine zC ?_ | apply zI <;> intro hdec | with_reducible constructor
    | (with_reducible show WC _ (.region 8 _ _) _ _
       with_reducible apply WC_drawn 900 sch63_8 [10] [] hP
       exact zq1; exact zq2; exact zq1)
    | (refine WS_rc 850 (⟨tk, 6, none⟩) ([ptr p]) false hX ?_ rfl ?_ ?_ ?_ ?_ (fun _ => rfl) ?_
       exact zq2; exact zq0; exact zq18; exact zq8; exact sz79)
    | refine zr68 ?_ | refine zs34 ?_
   all_goals try first
    | omega | rfl | (unfold I64; omega) | exact zr76
end
section
attribute [local irreducible] leT leH WO WX WC WD LS WS WQ
theorem c27_14 (w : World) (FG : Nat -> Prop) (hG : Gl w FG) (ty : Int) (v t : ByteArray) (fl : Bool) (c : Int) (l : List N) (A : Option Addr) (cp : Nat) (F : Nat -> Prop) (hF : ∀ k, F k -> k < w.heap.size) (hgs : GS w 31 19 F (.slice A l.length cp) (N.gs l)) (hp : ∀ x ∈ l, BuildC x) (hc : ∀ x ∈ l, 1 <= x.c /\ x.c <= 200) (hlen : l.length <= 1000000) (tk p : Nat) (htk : Hp w tk 87 (tokC ty t p)) :
 Calls Tryz.prog 27 [.agg (nodeC 14 ty v t t ⟨#[]⟩ fl false false 1 c c 0 0 A l.length cp).toArray, ptr tk].toArray w (Ret1 (fun g : Nat => .sc (.va (.iface 93 (ptr g)))) (fun _ => True) (fun g => Ast0A tk (.mk 14 ty v t fl c l) (.iface 93 (ptr g))) w) := by
 refine calls_start 1000 Tryz.func27 rfl fun E hX hP hA hQ => ?_
 repeat' first
  | refine zB ?_ | apply zI <;> intro hdec | with_reducible constructor
  | (refine WO_LS 850 (LS_call1 (α := Nat) (f := 63) (fun g : Nat => .sc (.va (.iface 93 (ptr g)))) (fun _ => True) (fun g => Ast0A tk (.mk 14 ty v t fl c l) (.iface 93 (ptr g))) hP ?_ ?_ ?_ ?_ ?_) ?_
     rfl; exact zq1; exact zq9; exact zq0
     · (intro a w r own hSim; rw [hX] at hSim; simp only [go_sem]; have hGs := (hG.of hSim (fun k hk h => h)); have h63 := c63 _ FG hGs ty v t fl c l A cp F (fun k hk => Nat.lt_of_lt_of_le (hF k hk) hSim.frm.size) (hgs.of0s hSim hF) hp hc hlen tk p (hSim.keep htk); simp only [nodeC] at h63; with_reducible exact h63)
     rintro gs _ E2 h1 h2 h3; refine zz ?_; intro hX hP hA hQ)
  | refine zs9 ?_
 all_goals try first
  | omega | exact zr74
theorem c27_13 (w : World) (FG : Nat -> Prop) (hG : Gl w FG) (ty : Int) (v t : ByteArray) (fl : Bool) (c : Int) (l : List N) (A : Option Addr) (cp : Nat) (F : Nat -> Prop) (hF : ∀ k, F k -> k < w.heap.size) (hgs : GS w 31 19 F (.slice A l.length cp) (N.gs l)) (hp : PairC (.mk 13 ty v t fl c l)) (tk : Nat) :
 Calls Tryz.prog 27 [.agg (nodeC 13 ty v t t ⟨#[]⟩ fl false false 1 c c 0 0 A l.length cp).toArray, ptr tk].toArray w (Ret1 (fun g : Nat => .sc (.va (.iface 157 (ptr g)))) (fun _ => True) (fun g => AstA (.mk 13 ty v t fl c l) (.iface 157 (ptr g))) w) := by
 refine calls_start 1000 Tryz.func27 rfl fun E hX hP hA hQ => ?_
 repeat' first
  | refine zB ?_ | apply zI <;> intro hdec | with_reducible constructor
  | (refine WO_LS 850 (LS_call1 (α := Nat) (f := 62) (fun g : Nat => .sc (.va (ptr g))) (fun _ => True) (fun g => AstA (.mk 13 ty v t fl c l) (.iface 157 (ptr g))) hP ?_ ?_ ?_ ?_ ?_) ?_
     rfl; exact zq1; exact zq9; exact zq0
     · (intro a w r own hSim; rw [hX] at hSim; simp only [go_sem]; have hGs := (hG.of hSim (fun k hk h => h)); have hc := hp _ FG hGs F A cp (hgs.of0s hSim hF) (fun k hk => Nat.lt_of_lt_of_le (hF k hk) hSim.frm.size); simp only [N.cells, nodeC, N.k, N.ty, N.v, N.t, N.fl, N.c, N.kids] at hc; with_reducible exact hc)
     rintro gs _ E2 h1 h2 h3; refine zz ?_; intro hX hP hA hQ)
  | refine zs9 ?_
 all_goals try first
  | omega | exact zr74
theorem boolP {t v : ByteArray} (h : t ∈ boolW) (hv : v = if bt t 0 = 116 \/ bt t 0 = 84 then ⟨#[116, 114, 117, 101]⟩ else ⟨#[102, 97, 108, 115, 101]⟩) : ∃ x, Lib.parseBool t.data.toList = some x /\ v = ⟨(Lib.formatBool x).toArray⟩ := by
 simp only [boolW, List.mem_cons, List.not_mem_nil, or_false] at h
 rcases h with rfl | rfl | rfl | rfl | rfl | rfl
 all_goals first
  | exact ⟨true, by rw [Lib.parseBool_bytes]; decide, by rw [hv, if_pos zi]; rfl⟩
  | exact ⟨false, by rw [Lib.parseBool_bytes]; decide, by rw [hv, if_neg zi]; rfl⟩
theorem numR_size {s : ByteArray} {k : Int} (hk : 0 < k) (h : numR s k) : s.size <= 1000 := by
 rcases h with h | ⟨t, hT, p, h1, h2, h3, h4, h5, h6⟩
 · omega
 have hp : (t.extract 0 p).size = p := by rw [ext_size]; omega
 have ht : t.size <= p + 7 := by
  rcases h6 with ⟨_, rfl⟩ | ⟨_, _, _, _, h, _⟩
  · omega
  · rw [ext_size] at h; omega
 rcases hT with rfl | ⟨h0, _, rfl⟩
 · omega
 · rw [ext_size] at ht; omega
theorem oks_mem {q : Prop} : ∀ {l : List N} {n : N}, N.oks q l -> n ∈ l -> n.ok q
 | x :: l, n, h, hm => by
   rw [N.oks] at h
   rcases List.mem_cons.1 hm with rfl | hm
   exact h.1; exact oks_mem h.2 hm
theorem okc {q : Prop} {n : N} (h : n.ok q) : 1 <= n.c /\ n.c <= 200 := by
 obtain ⟨k, ty, v, t, fl, c, kids⟩ := n; rw [N.ok] at h; exact ⟨h.1, h.2.1⟩
theorem cntl_len : ∀ l : List N, l.length <= N.cntl l
 | [] => Nat.zero_le _
 | n :: l => by
   have := cntl_len l
   have h1 : 1 <= n.cnt := by cases n; rw [N.cnt]; omega
   rw [N.cntl, List.length_cons]; omega
theorem kindK {q : Prop} {n : N} (h : n.ok q) (hk : keyK n.k) : n.k = 2 \/ n.k = 3 \/ n.k = 4 \/ n.k = 5 \/ n.k = 6 \/ n.k = 7 \/ n.k = 8 \/ n.k = 10 \/ n.k = 16 \/ n.k = 17 \/ n.k = 19 := by
 obtain ⟨k, ty, v, t, fl, c, kids⟩ := n; rw [N.ok] at h; obtain ⟨h1, h2, h3⟩ := hk
 show k = 2 \/ k = 3 \/ k = 4 \/ k = 5 \/ k = 6 \/ k = 7 \/ k = 8 \/ k = 10 \/ k = 16 \/ k = 17 \/ k = 19
 replace h1 : k ≠ 11 := h1; replace h2 : k ≠ 13 := h2; replace h3 : k ≠ 14 := h3
 rcases h.2.2.2.1 with h | h | h | h | h | h | h | h | h | h | h | h | h | h <;> omega
theorem kidAt {w : World} {F : Nat -> Prop} {ka : Option Addr} {kc : Nat} {l : List N} (h : GS w 31 19 F (.slice ka l.length kc) (N.gs l)) (hF : ∀ k, F k -> k < w.heap.size) (hl : l ≠ []) : ∃ A0, ka = some A0 /\ A0.block < w.heap.size /\ ∀ (i : Nat) (n : N), l[i]? = some n -> ∃ ka1 kc1, (∀ j u, (n.cells ka1 kc1)[j]? = some u -> w.cell? ((A0.add (i * 19)).add j) = some u) /\ GS w 31 19 F (.slice ka1 n.kids.length kc1) (N.gs n.kids) := by
 obtain ⟨A, cp', e1, e2, hk⟩ := nkid_at h; simp only [Value.slice.injEq] at e1; obtain ⟨rfl, _, rfl⟩ := e1
 rcases e2 with rfl | e2
 exact absurd rfl hl; obtain ⟨A0, rfl⟩ := Option.isSome_iff_exists.1 e2
 refine ⟨A0, rfl, ?_, fun i n hn => (hk i n hn).2⟩
 cases l with
 | nil => exact absurd rfl hl
 | cons x l => exact hF _ (hk 0 x rfl).1
theorem pair_of {ty c : Int} {v t : ByteArray} {fl : Bool} {x y : N} (hc1 : 1 <= c) (hc2 : c <= 200) (hx : BuildC x) (hy : BuildC y) (hm : missT Tryz.prog 162 (kpT x.k) = true) : PairC (.mk 13 ty v t fl c [x, y]) := by
 intro w FG hG F ka kc hgs hF; obtain ⟨A0, rfl, hlt, hk⟩ := kidAt hgs hF (by simp [N.kids]); obtain ⟨ka0, kc0, h0, g0⟩ := hk 0 x rfl; obtain ⟨ka1, kc1, h1, g1⟩ := hk 1 y rfl; obtain ⟨k0, ty0, v0, t0, fl0, c0, l0⟩ := x; obtain ⟨k1, ty1, v1, t1, fl1, c1, l1⟩ := y; exact c62 w FG hG ty v t fl c A0 kc hlt F hF hc1 hc2 k0 ty0 v0 t0 fl0 c0 l0 ka0 kc0 hx h0 g0 k1 ty1 v1 t1 fl1 c1 l1 ka1 kc1 hy h1 g1 hm
mutual
theorem bare_all : ∀ n : N, n.ok True -> n.cnt <= 1000000 -> BareC n /\ (n.k = 13 -> PairC n)
 | .mk k ty v t fl c kids, hok, hcnt => by
   have hkids := bare_list kids; rw [N.ok] at hok; rw [N.cnt] at hcnt; obtain ⟨hc1, hc2, hoks, hcase, -⟩ := hok; have hb := hkids hoks zo; have hbuild : ∀ x ∈ kids, BuildC x := fun x hx => c16 x (hb x hx).1 (okc (oks_mem hoks hx)).1 (okc (oks_mem hoks hx)).2
   have hlen : kids.length <= 1000000 := by have := cntl_len kids; omega
   have hcs : ∀ x ∈ kids, 1 <= x.c /\ x.c <= 200 := fun x hx => okc (oks_mem hoks hx)
   rcases hcase with ⟨rfl, rfl⟩ | ⟨rfl, rfl, rfl⟩ | ⟨rfl, rfl, h⟩ | ⟨rfl, rfl, h, h43⟩ | ⟨rfl, rfl, h, h43⟩ | ⟨rfl, rfl, h, h43⟩ | ⟨rfl, rfl, h⟩ | ⟨rfl, x, rfl, hk8, hv⟩ | ⟨rfl, x, rfl, hk8, hv⟩ | ⟨rfl, x, y, rfl, hk8, hv, hy⟩ | ⟨rfl, hv, x, rfl, hx⟩ | ⟨rfl, rfl, hx⟩ | ⟨rfl, rfl, hx⟩ | ⟨rfl, rfl, x, y, rfl, hx, hy⟩
   · refine ⟨fun w FG hG F ka kc hgs hF tk p htk => ?_, fun h => absurd h (by show ¬ ((8 : Int) = 13); decide)⟩
     exact (c27_8 w FG hG ty v t fl c ka [] kc tk p htk hc1 hc2).mono fun e w' => bare1 (n := .mk 8 ty v t fl c []) rfl
   · refine ⟨fun w FG hG F ka kc hgs hF tk p htk => ?_, fun h => absurd h (by show ¬ ((2 : Int) = 13); decide)⟩
     exact (c27_2 w FG hG ty _ t fl c ka 0 kc tk p htk).mono fun e w' => bare0 (n := .mk 2 ty _ t fl c []) rfl
   · refine ⟨fun w FG hG F ka kc hgs hF tk p htk => ?_, fun h => absurd h (by show ¬ ((3 : Int) = 13); decide)⟩
     obtain ⟨x0, h1, h2⟩ : ∃ x, Lib.parseBool t.data.toList = some x /\ v = ⟨(Lib.formatBool x).toArray⟩ := by
      simp only [plainN] at h
      rcases h with h | h | h | h | h | h | h
      exact zq21; exact zq21; exact boolP h.2.1 h.2.2
      all_goals exact absurd h.1 zi
     exact (c27_3 w FG hG ty v t fl c ka 0 kc tk p htk x0 h1 h2).mono fun e w' => bare0 (n := .mk 3 ty v t fl c []) rfl
   · refine ⟨fun w FG hG F ka kc hgs hF tk p htk => ?_, fun h => absurd h (by show ¬ ((4 : Int) = 13); decide)⟩
     obtain ⟨h1, h2⟩ : numR t 3 /\ v = signedF t := by
      simp only [plainN] at h
      rcases h with h | h | h | h | h | h | h
      exact zq21; exact zq21; exact zq21; exact h.2
      all_goals exact absurd h.1 zi
     have hsz := numR_size zi h1; obtain ⟨x, h3, h4⟩ := c96i t zo h1 (h43 trivial)
     obtain ⟨tv, pv, rfl⟩ : ∃ tv pv, x = .iface tv pv := by
      rcases h3 with ⟨n, rfl, _⟩ | ⟨n, rfl, _⟩ <;> exact ⟨_, _, rfl⟩
     exact (c27_4 w FG hG ty v t fl c ka 0 kc tk p htk tv pv (h2 ▸ h3) (fun w hG => h4 w FG hG)).mono fun e w' => bare0 (n := .mk 4 ty v t fl c []) rfl
   · refine ⟨fun w FG hG F ka kc hgs hF tk p htk => ?_, fun h => absurd h (by show ¬ ((5 : Int) = 13); decide)⟩
     have h1 : numR t 4 := by
      simp only [plainN] at h
      rcases h with h | h | h | h | h | h | h
      exact zq21; exact zq21; exact zq21; exact zq21; exact h.2.1
      all_goals exact absurd h.1 zi
     have hsz := numR_size zi h1; exact (c27_5 w FG hG ty v t fl c ka 0 kc tk p htk (fun w hG => c96x t zo h1 (h43 trivial) w FG hG)).mono fun e w' => bare0 (n := .mk 5 ty v t fl c []) rfl
   · refine ⟨fun w FG hG F ka kc hgs hF tk p htk => ?_, fun h => absurd h (by show ¬ ((6 : Int) = 13); decide)⟩
     obtain ⟨h1, h2⟩ : t ∈ infW /\ v = if bt t 0 = 45 then ⟨#[45, 73, 110, 102]⟩ else ⟨#[43, 73, 110, 102]⟩ := by
      simp only [plainN] at h
      rcases h with h | h | h | h | h | h | h
      exact zq21; exact zq21; exact zq21; exact zq21; exact zq21; exact h.2; exact zq21
     exact (c27_6 w FG hG ty v t fl c ka 0 kc tk p htk h1 (h43 trivial) h2).mono fun e w' => bare0 (n := .mk 6 ty v t fl c []) rfl
   · refine ⟨fun w FG hG F ka kc hgs hF tk p htk => ?_, fun h => absurd h (by show ¬ ((7 : Int) = 13); decide)⟩
     have h1 : v = ⟨#[78, 97, 78]⟩ := by
      simp only [plainN] at h
      rcases h with h | h | h | h | h | h | h
      exact zq21; exact zq21; exact zq21; exact zq21; exact zq21; exact zq21; exact h.2.2
     exact (c27_7 w FG hG ty v t fl c ka 0 kc tk p htk h1).mono fun e w' => bare0 (n := .mk 7 ty v t fl c []) rfl
   · refine ⟨fun w FG hG F ka kc hgs hF tk p htk => ?_, fun h => absurd h (by show ¬ ((10 : Int) = 13); decide)⟩
     obtain ⟨A0, rfl, hlt, hkid⟩ := kidAt hgs hF (by simp [N.kids]); obtain ⟨ka0, kc0, h0, g0⟩ := hkid 0 x rfl; have hcx := hcs x zp; have hox := oks_mem hoks (n := x) zp; obtain ⟨k0, ty0, v0, t0, fl0, c0, l0⟩ := x; obtain rfl : k0 = 8 := hk8; rw [N.ok] at hox
     obtain rfl : l0 = [] := by
      rcases hox.2.2.2.1 with h | h | h | h | h | h | h | h | h | h | h | h | h | h
      · exact h.2
      all_goals exact absurd h.1 zi
     exact (c27_10 w FG hG ty v t fl c A0 kc hlt F hF tk ty0 v0 t0 fl0 c0 ka0 kc0 hcx.1 hcx.2 h0 g0).mono fun e w' => bare0 (n := .mk 10 ty v t fl c [.mk 8 ty0 v0 t0 fl0 c0 []]) rfl
   · refine ⟨fun w FG hG F ka kc hgs hF tk p htk => ?_, fun h => absurd h (by show ¬ ((17 : Int) = 13); decide)⟩
     obtain ⟨A0, rfl, hlt, hkid⟩ := kidAt hgs hF (by simp [N.kids]); obtain ⟨ka0, kc0, h0, g0⟩ := hkid 0 x rfl; have hbx := hbuild x zp; obtain ⟨k0, ty0, v0, t0, fl0, c0, l0⟩ := x; exact (c27_17 w FG hG ty v t fl c A0 kc hlt F hF tk k0 ty0 v0 t0 fl0 c0 l0 ka0 kc0 hbx h0 g0).mono fun e w' => bare0 (n := .mk 17 ty v t fl c [.mk k0 ty0 v0 t0 fl0 c0 l0]) rfl
   · refine ⟨fun w FG hG F ka kc hgs hF tk p htk => ?_, fun h => absurd h (by show ¬ ((16 : Int) = 13); decide)⟩
     obtain ⟨A0, rfl, hlt, hkid⟩ := kidAt hgs hF (by simp [N.kids]); obtain ⟨ka0, kc0, h0, g0⟩ := hkid 0 x rfl; obtain ⟨ka1, kc1, h1, g1⟩ := hkid 1 y rfl; have hbx := hbuild x zp; have hby := hbuild y zp; obtain ⟨k0, ty0, v0, t0, fl0, c0, l0⟩ := x; obtain ⟨k1, ty1, v1, t1, fl1, c1, l1⟩ := y; exact (c27_16 w FG hG ty v t fl c A0 kc hlt F hF tk k0 ty0 v0 t0 fl0 c0 l0 ka0 kc0 hbx h0 g0 k1 ty1 v1 t1 fl1 c1 l1 ka1 kc1 hby h1 g1).mono fun e w' => bare0 (n := .mk 16 ty v t fl c [.mk k0 ty0 v0 t0 fl0 c0 l0, .mk k1 ty1 v1 t1 fl1 c1 l1]) rfl
   · refine ⟨fun w FG hG F ka kc hgs hF tk p htk => ?_, fun h => absurd h (by show ¬ ((19 : Int) = 13); decide)⟩
     obtain ⟨A0, rfl, hlt, hkid⟩ := kidAt hgs hF (by simp [N.kids]); obtain ⟨ka0, kc0, h0, g0⟩ := hkid 0 x rfl; have hbx := hbuild x zp; obtain ⟨k0, ty0, v0, t0, fl0, c0, l0⟩ := x; exact (c27_19 w FG hG ty v t fl c A0 kc hlt F hF tk k0 ty0 v0 t0 fl0 c0 l0 ka0 kc0 hbx h0 g0).mono fun e w' => bare0 (n := .mk 19 ty v t fl c [.mk k0 ty0 v0 t0 fl0 c0 l0]) rfl
   · refine ⟨fun w FG hG F ka kc hgs hF tk p htk => ?_, fun h => absurd h (by show ¬ ((14 : Int) = 13); decide)⟩
     exact (c27_14 w FG hG ty _ t fl c kids ka kc F hF hgs hbuild hcs hlen tk p htk).mono fun e w' => bare0 (n := .mk 14 ty _ t fl c kids) rfl
   · refine ⟨fun w FG hG F ka kc hgs hF tk p htk => ?_, fun h => absurd h (by show ¬ ((11 : Int) = 13); decide)⟩
     exact (c27_11 w FG hG ty _ t fl c kids ka kc F hF hgs (fun x h => (hb x h).2 (hx x h)) hcs hlen tk p htk).mono fun e w' => bare0 (n := .mk 11 ty _ t fl c kids) rfl
   · have hp : PairC (.mk 13 ty ⟨#[]⟩ t fl c [x, y]) := pair_of hc1 hc2 (hbuild x zp) (hbuild y zp) (key162 (kindK (oks_mem hoks (n := x) zp) hx))
     refine ⟨fun w FG hG F ka kc hgs hF tk p htk => ?_, fun _ => hp⟩
     exact (c27_13 w FG hG ty _ t fl c [x, y] ka kc F hF hgs hp tk).mono fun e w' => bare1 (n := .mk 13 ty _ t fl c [x, y]) rfl
theorem bare_list : ∀ l : List N, N.oks True l -> N.cntl l <= 1000000 -> ∀ x ∈ l, BareC x /\ (x.k = 13 -> PairC x)
 | [], _, _, x, hx => by cases hx
 | n :: l, hok, hcnt, x, hx => by
   rw [N.oks] at hok; rw [N.cntl] at hcnt
   rcases List.mem_cons.1 hx with h | hx
   · rw [h]
     exact bare_all n hok.1 zo
   · exact bare_list l hok.2 zo x hx
end
