/- Lemmas for FnFilterTree; each condition stands in its statement. -/
import Derived.Test.YtbfenkhnfflpnaaGreatDoorGcw
import Derived.Test.YtbfenkhnfflpnaaGreatDoorGcx
import Derived.Test.YtbfenkhnfflpnaaGreatDoorGcy
namespace Go.Proofs.YtbfenkhnfflpnaaGreatDoor.Sx
open Go Go.RowKit
set_option maxRecDepth 100000
set_option maxHeartbeats 40000000
set_option linter.all false
section
attribute [local irreducible] leT leH WO WX WC WD LS WS WQ
def p10 (n : Nat) : Int := 10 ^ n
theorem p10_succ (n : Nat) : p10 (n + 1) = 10 * p10 n := by unfold p10; rw [Int.pow_succ]; omega
theorem p10_pos : ∀ n, 1 <= p10 n
 | 0 => by decide
 | n + 1 => by have := p10_pos n; rw [p10_succ]; omega
abbrev dgOk (dg : Nat -> Int) (n : Int) : Prop := ∀ i : Nat, (i : Int) < n -> 48 <= dg i /\ dg i <= 57
theorem dgOk.upd {dg : Nat -> Int} {n : Int} (h : dgOk dg n) (q : Nat) {v : Int} (h1 : 48 <= v) (h2 : v <= 57) : dgOk (updD dg q v) n := fun i hi => by
 unfold updD
 split
 exact ⟨h1, h2⟩; exact h i hi
theorem dgOk.ext {dg : Nat -> Int} {n : Int} (h : dgOk dg n) (q : Nat) (hq : (q : Int) = n) {v : Int} (h1 : 48 <= v) (h2 : v <= 57) : dgOk (updD dg q v) (n + 1) := fun i hi => by
 unfold updD
 split
 exact ⟨h1, h2⟩; exact h i zo
theorem upd0 {dg : Nat -> Int} {q : Nat} {v : Int} : updD dg q v 0 = if 0 = q then v else dg 0 := rfl
structure DV (n P : Int) : Prop where
 a1 : 0 <= n / P
 a2 : n / P <= 9
 a3 : P <= n -> 1 <= n / P
 a4 : n / P = 0 -> n < P
 a5 : n / P ≠ 0 -> P <= n
 a6 : n <= 9 -> n / P <= 1
theorem div_rng {n P : Int} (hP : 8 <= P) (h0 : 0 <= n) (h1 : n < 10 * P) : DV n P := by
 have hp : 0 < P := by omega
 have e1 : 0 <= n / P := Int.ediv_nonneg h0 zo; have e2 : n / P < 10 := Int.ediv_lt_of_lt_mul hp zo; have e3 : P <= n -> 1 <= n / P := fun h => (Int.le_ediv_iff_mul_le hp).2 zo
 have e4 : n / P ≠ 0 -> P <= n := fun h => by
  rcases Int.lt_or_le n P with h' | h'
  exact absurd (Int.ediv_eq_zero_of_lt h0 h') h; exact h'
 have e5 : n <= 9 -> n / P <= 1 := fun h => by
  have : n / P < 2 := Int.ediv_lt_of_lt_mul hp zo; omega
 refine ⟨e1, zo, e3, fun h => ?_, e4, e5⟩
 rcases Int.lt_or_le n P with h' | h'
 · exact h'
 · have := e3 h'; omega
theorem mod_rng {n P : Int} (hP : 8 <= P) : 0 <= n % P /\ n % P < P := ⟨Int.emod_nonneg _ zo, Int.emod_lt_of_pos _ zo⟩
theorem mask_and (k : Nat) (hk : k <= 60) (n : Int) : IntKind.u64.wrap ((BitVec.ofInt 64 n &&& BitVec.ofInt 64 (2 ^ k - 1)).toNat : Int) = n % 2 ^ k := by
 have h1 : (BitVec.ofInt 64 ((2 : Int) ^ k - 1)).toNat = 2 ^ k - 1 := by
  have hp : (2 : Nat) ^ k <= 2 ^ 60 := Nat.pow_le_pow_right zi hk; have hp1 : 1 <= (2 : Nat) ^ k := Nat.one_le_two_pow
  have e : ((2 : Int) ^ k - 1) = ((2 ^ k - 1 : Nat) : Int) := by
   rw [Int.ofNat_sub hp1]
   simp
  rw [e, BitVec.ofInt_natCast, BitVec.toNat_ofNat]; exact Nat.mod_eq_of_lt zo
 rw [BitVec.toNat_and, h1, Nat.and_two_pow_sub_one_eq_mod]
 have h2 : ((BitVec.ofInt 64 n).toNat : Int) = n % 18446744073709551616 := by
  rw [BitVec.toNat_ofInt]; have : 0 <= n % ((2 ^ 64 : Nat) : Int) := Int.emod_nonneg _ zi; rw [Int.toNat_of_nonneg this]; rfl
 have h3 : (((BitVec.ofInt 64 n).toNat % 2 ^ k : Nat) : Int) = n % 2 ^ k := by
  rw [Int.natCast_emod, h2]
  have : ((2 ^ k : Nat) : Int) = (2 : Int) ^ k := by simp
  rw [this]
  refine Int.emod_emod_of_dvd n ?_
  have : (18446744073709551616 : Int) = 2 ^ k * 2 ^ (64 - k) := by rw [<- Int.pow_add, show k + (64 - k) = 64 by omega]; rfl
  exact ⟨_, this⟩
 rw [h3]
 refine wrapU64 ⟨Int.emod_nonneg _ (Int.ne_of_gt (Int.pow_pos zi)), ?_⟩
 have h4 : n % 2 ^ k < 2 ^ k := Int.emod_lt_of_pos _ (Int.pow_pos zi)
 have h5 : (2 : Int) ^ k <= 2 ^ 60 := by
  have : (2 : Nat) ^ k <= 2 ^ 60 := Nat.pow_le_pow_right zi hk
  exact_mod_cast this
 omega
theorem pow_rng {k : Int} (h1 : 3 <= k) (h2 : k <= 27) : 8 <= (2 : Int) ^ k.toNat /\ (2 : Int) ^ k.toNat <= 134217728 /\ (4 <= k -> 16 <= (2 : Int) ^ k.toNat) := by
 obtain ⟨n, rfl⟩ := Int.eq_ofNat_of_zero_le (show 0 <= k by omega); have e1 : (2 : Nat) ^ 3 <= 2 ^ n := Nat.pow_le_pow_right zi zo; have e2 : (2 : Nat) ^ n <= 2 ^ 27 := Nat.pow_le_pow_right zi zo; have e4 : 4 <= n -> (2 : Nat) ^ 4 <= 2 ^ n := fun h => Nat.pow_le_pow_right zi h
 have e3 : ((2 ^ n : Nat) : Int) = (2 : Int) ^ n := by simp
 simp only [Int.toNat_natCast]; rw [<- e3]
 refine ⟨zo, zo, fun h => ?_⟩
 have := e4 zo; omega
theorem c195 (w : World) (g : Nat) (nd dp : Int) (ng tr : Bool) (dg : Nat -> Int) (hD : (DecA g nd dp ng tr dg).P w (fun k => k = g)) (n cp : Nat) (s : ByteArray) (hn : 0 < n) (hs : 0 < s.size) (hs2 : s.size <= 2147483647) (hb : dg 0 ≠ bt s 0) : Calls Tryz.prog 195 [.slice (some ⟨g, 0, none⟩) n cp, .string s].toArray w (RetD (fun b : Bool => .sc (.va (.bool b))) (fun b => b = decide (dg 0 < bt s 0)) (fun _ => DecA g nd dp ng tr dg) g w) := by
 refine calls_startD 1000 g 270 804 _ [.sc (.va (.slice (some ⟨g, 0, none⟩) n cp)), .sc (.va (.string s))] Tryz.func195 rfl ⟨⟨rfl, rfl⟩, ⟨rfl, rfl⟩, trivial⟩ hD fun E hX hP hA hQ => ?_
 repeat' first
  | refine zA ?_ | apply zI <;> intro hdec | with_reducible constructor | (with_reducible refine vqd_dec ?_ ?_ <;> intro hdec <;> first | rw [decide_eq_true hdec] | rw [decide_eq_false hdec] | skip) | (with_reducible refine vqd_ndec ?_ ?_ <;> intro hdec <;> first | rw [decide_eq_true hdec] | rw [decide_eq_false hdec] | skip)
  | (with_reducible refine vqd_t 850 ?_ ?_
     · exact zq2)
  | (with_reducible refine vqd_f 850 ?_ ?_
     · exact zq2)
  | (refine zr16 ?_; intro _ _) | (refine zr17 ?_; intro _ _) | (refine zr18 ?_; intro _ _) | (refine zr19 ?_; intro _ _) | (refine zr14 ?_ ?_; intro _ _) | (refine zr10 ?_; intro _ _ E2 h1 h2 h3; refine zz ?_; intro hX hP hA hQ) | (refine zr11 ?_; intro _ _ E2 h1 h2 h3; refine zz ?_; intro hX hP hA hQ) | (refine zr12 ?_; intro _ _ E2 h1 h2 h3; refine zz ?_; intro hX hP hA hQ) | (refine zr13 ?_; intro _ _ E2 h1 h2 h3; refine zz ?_; intro hX hP hA hQ) | (refine zr9 ?_ ?_; intro _ _ E2 h1 h2 h3; refine zz ?_; intro hX hP hA hQ) | (refine zr15 ?_ ?_ ?_; intro _ _) | refine zr34 ?_ | refine zr35 ?_ | refine zr30 ?_ ?_ | refine zr32 ?_ ?_ ?_
  | (with_reducible show WC _ (.region _ _ true) _ _
     apply WC_q 900 [] hP
     exact zq1; exact zq2; exact zq1)
  | (with_reducible show WC _ (.loop _) _ _
     apply WC_loopG (ι := Unit) (fun _ => True) [6, 7, 8, 9, 12, 13, 14, 15, 4, 16, 17, 18, 19, 20, 21, 22, 23, 24, 25, 26, 27, 28, 29, 30, 31, 10, 11, 5] (fun _ => [(5, .sc (.va (.int .i64 0)))]) (fun _ => []) (fun _ => [(0, DecA g nd dp ng tr dg)]) (fun _ => 0) () trivial [(0, 0)] hX
     exact zq10; exact zq5; exact zq7; exact zq5; rfl; rfl; rfl; exact zq4; intro i hi E' hX' hA' hQ' J hJ; refine zl ?_; intro hX hP hA hQ
     refine vc_ok 900 _ _ _ ?_)
  | simp (maxSteps := 20000000) only [Tryz.f195, go_sem, zL, ↓reduceIte, reduceCtorEq, Nat.reduceAdd, Nat.reduceMul, Nat.reduceSub, Nat.reduceLeDiff, Nat.reduceEqDiff, Nat.reduceLT, Nat.reduceBEq, Int.reduceEq, hP, hX, addr_add, Nat.mul_one, Nat.zero_add, Nat.add_zero, Int.reduceToNat, Int.toNat_zero, Nat.zero_mul, Option.isSome_some]
 all_goals try first
  | exact zr1 | (with_reducible show (_ : Int) <= _; omega) | (with_reducible show (_ : Int) < _; omega) | exact zr21 | (with_reducible show (_ : Nat) < _; omega) | (with_reducible show (_ : Nat) <= _; omega)
 all_goals try first
  | (exfalso; omega) | rfl
  | (intro a w' r own hs'
     refine ⟨decide (dg 0 < bt s 0), rfl, ⟨_, rfl, fun r => .inr rfl⟩, hs'.frm, ?_⟩
     exact FnA.mem (hs'.fact 0 _ zw0).2)
  | (intro a w' r own hs'; exfalso; omega)
end
section
attribute [local irreducible] leT leH WO WX WC WD
def RbA (v : Value) (n : Nat) : Asn := ⟨fun w F => ∃ xs, (Row 5 1 v n xs).P w F /\ ∀ u ∈ xs, ∃ b : Int, u = .int .u8 b, fun hw h => h.imp fun xs h => ⟨(Row 5 1 v n xs).loc hw h.1, h.2⟩⟩
section
variable {E : En} {S : St} {α : Type} {φ : α -> Prop} {c : Call} {dst : Option Tmp} {ty : TypeId} {pos : String} {after : Array Edge} {guard : Option (Nat × Bool)} {o : Oper} {P : Program}
def NewsU (E : En) (S : St) (x : Operand) (m : Nat) : Prop :=
 ∀ a w r own, Sim E.X S E.A a w r own -> ∃ (ad : Addr) (cp : Nat) (news : List Value), a.eval x = .slice (some ad) m cp /\ news.length = m /\ (∀ j u, news[j]? = some u -> w.cell? (ad.add j) = some u) /\ ∀ u ∈ news, ∃ b : Int, u = .int .u8 b
theorem NewsU_sl {x : Operand} {n q m cp t : Nat} {cs : List Cl} (news : List Value) (hx : ev S x = .sc (.sl n q m cp)) (hf : findH S.h n = some (t, cs)) (hc : (cs.drop q).take news.length = news.map .va) (hl : news.length = m) (hu : ∀ u ∈ news, ∃ b : Int, u = .int .u8 b) : NewsU E S x m := fun a w r own hs => by
 obtain ⟨ad, cp, h1, h2, _⟩ := News_sl (E := E) news hx hf hc (fun _ _ => .inr trivial) a w r own hs; exact ⟨ad, cp, news, h1, hl, h2, hu⟩
theorem NewsU_w0 {x : Operand} {m cp : Nat} (ad : Addr) (f : Nat -> Int) (hx : ev S x = .sc (.va (.slice (some ad) m cp))) (hc : ∀ j, j < m -> E.X.w0.cell? (ad.add j) = some (.int .u8 (f j))) (hM : ¬ E.X.M ad.block) : NewsU E S x m := fun a w r own hs => by
 refine ⟨ad, cp, (List.range m).map fun j => .int .u8 (f j), va_of (hx ▸ (ev_ok hs.toR x).1), zp, fun j u hu => ?_, fun u hu => ?_⟩
 · rw [List.getElem?_map, Option.map_eq_some_iff] at hu
   obtain ⟨k, hk, rfl⟩ := hu; have hkm := (List.getElem?_eq_some_iff.1 hk).1; rw [List.getElem?_eq_getElem hkm] at hk; simp only [List.getElem_range, Option.some.injEq] at hk; subst hk; exact hs.cell (hc j (by simpa using hkm)) (by rw [add_block]; exact hM)
 · obtain ⟨k, _, rfl⟩ := List.mem_map.1 hu
   exact ⟨_, rfl⟩
theorem LS_appendU {s x : Operand} {t : Nat} (j : Nat) (v : Value) (n m : Nat) (hP : E.X.P = P) (hc : c = { callee := .builtin .append, args := #[s, x], argTypes := #[t, t] })
 (hT : rowT P t 5 1 1 = true) (hv : ev S s = .sc (.va v)) (hj : (j, RbA v n) ∈ E.A) (hn : NewsU E S x m) (hm : n + m <= 2147483648) :
 LS E S ⟨dst, .call c, ty, pos, after, guard⟩ [] (fun _ : Option Addr × Nat => True) (fun z : Option Addr × Nat => S.putM dst (.sc (.va (.slice z.1 (n + m) z.2)))) (fun z : Option Addr × Nat => (S.m, RbA (.slice z.1 (n + m) z.2) (n + m)) :: outF [j] E.A) := by
 intro a w r own hs K Q hK; subst hP; subst hc; obtain ⟨t1, ⟨i, z, t2, t3, t4, t5, t6⟩, t7⟩ := rowT_spec hT; have he := (ev_ok hs.toR s).1; rw [hv] at he; obtain ⟨ad, cp, news, hx, hl, hcell, hone⟩ := hn a w r own hs; obtain ⟨_, xs, ⟨hrow, hF, h1⟩, hb8⟩ := hs.fact j _ hj
 have hone' : ∀ u ∈ news, u.oneCell' = true := fun u hu => by obtain ⟨b, rfl⟩ := hone u hu; rfl
 obtain ⟨v', w', hr, hown, hg, hnil, hblk⟩ := run_append_blk (P := E.X.P) w t ty 5 i z 1 1 t1 t2 t3 t4 t5 t6 t7 v n xs hrow ad m cp news zo hcell hone' (by simp only [maxLen]; omega) zo; have hve := va_of he
 unfold Oper.wp execOp
 simp only [resolve, invoke, builtin, Sem.run_bind, Sem.run_pure, Result.andThen_ok, List.map_toArray, List.map_cons, List.map_nil, hve, hx, hr]
 have hfr : Frm (fun k => ∃ j' ∈ [j], own k = some (.fa j')) w w' := ⟨hg.os, hg.tape, hg.output, hg.size, fun k hk hno => hg.block k hk (fun he => hno ⟨j, zp, (hF k).2 he.symm⟩)⟩
 have hnew : ∀ k, v'.ownBlock = some k -> (∃ j' ∈ [j], own k = some (.fa j')) \/ (w.heap.size <= k /\ k < w'.heap.size) := fun k hk => (hblk k hk).imp (fun h => ⟨j, zp, (hF k).2 h⟩) id
 obtain ⟨A', C', rfl⟩ : ∃ A' C', v' = .slice A' (n + m) C' := by
  obtain ⟨_, h2 | ⟨g, cap, cur, rfl, _⟩⟩ := hown; exact ⟨none, 0, by rw [h2.1, h2.2]⟩; exact ⟨_, _, rfl⟩
 have h2 := hs.trade [j] (B := RbA (.slice A' (n + m) C') (n + m)) (F := fun k => (Value.slice A' (n + m) C').ownBlock = some k) hfr ⟨xs ++ news, ⟨hown, fun k => Iff.rfl, fun u hu => (List.mem_append.1 hu).elim (h1 u) (hone' u)⟩, fun u hu => (List.mem_append.1 hu).elim (hb8 u) (hone u)⟩ hnew
 exact hK (A', C') trivial _ _ _ _ (h2.put dst (ok_va r _) trivial) (.same (put_h ..).1 (put_h ..).2 hfr.size fun n t cs hm _ => hfr.block _ (hs.bnd _ _ (hs.heap n t cs hm).2.2.1).1 (fun ⟨j, _, hj⟩ => by
  rw [(hs.heap n t cs hm).2.2.1] at hj; cases hj))
end
section
attribute [local irreducible] LS WS WQ
def RetJ {α : Type} (res : α -> SV) (φ : α -> Prop) (B : α -> Asn) (F0 : Nat -> Prop) (w : World) (e : Ending) (w' : World) : Prop :=
 ∃ x, φ x /\ (∃ u, e = .returned u /\ ∀ r, (res x).ok r u) /\ Frm F0 w w' /\ ∃ F : Nat -> Prop, (∀ k, F k -> F0 k \/ (w.heap.size <= k /\ k < w'.heap.size)) /\ (B x).P w' F
theorem retJ_fin {α : Type} {P : Program} {w0 : World} {F0 : Nat -> Prop} {S : St} {A : Facts} {a : Act} {w : World} {r : Nat -> Nat} {own : Nat -> Option Ent} (hs : Sim ⟨P, w0, F0, [], []⟩ S A a w r own) {res : α -> SV} {φ : α -> Prop} {B : α -> Asn}
 (x : α) (hx : φ x) {u : Value} (hu : ∀ r, (res x).ok r u) {j : Nat} (h1 : (j, B x) ∈ A) : RetJ res φ B F0 w0 (.returned u) w :=
 ⟨x, hx, ⟨u, rfl, hu⟩, hs.frm, fun k => own k = some (.fa j), fun k hj => (hs.bnd k _ hj).2.elim (fun h => .inr ⟨h, (hs.bnd k _ hj).1⟩) .inl, (hs.fact j _ h1).2⟩
theorem calls_startJ {P : Program} {f : FuncId} {fn : Func} {c : Code} {args : List Value} {w : World} {R : Ending -> World -> Prop} (n : Nat) (svs : List SV) (B : Asn) (F0 : Nat -> Prop)
 (hf : P.funcs[f]? = some fn) (hb : fn.body = some c) (hargs' : ArgsOk [] svs args) (hB : B.P w F0) (hF : ∀ k, F0 k -> k < w.heap.size)
 (h : ∀ E : En, E.X = ⟨P, w, F0, [], []⟩ -> E.X.P = P -> E.A = [(0, B)] -> E.Q = bodyPost P fn R -> vc E n c .nil (startF svs [] 0 (fn.ntmps - args.length))) : Calls P f args.toArray w R := by
 refine calls_startF n [] [] svs B F0 hf hb hargs' List.nodup_nil trivial hB (fun k hk => ⟨zp, hF k hk⟩) fun E hX hP hA hQ => ?_
 refine h E (hX.trans ?_) hP hA hQ
 have : (fun k => k ∈ ([] : List Nat) \/ F0 k) = F0 := funext fun k => propext zp; rw [this]; rfl
theorem cutA00 (a : Addr) (n k : Nat) : cutA a n 0 k = a := by
 unfold cutA
 split
 · rfl
 · obtain ⟨b, q, s⟩ := a
   simp [Addr.add]
theorem c127 (w : World) (g tb : Nat) (hD : (BuA g tb 32).P w (fun k => k = g)) (d p nd : Int) (hd : U64 d) (h0 : 0 <= nd) (h20 : nd <= 20) (hp1 : -400 <= p) (hp2 : p <= 400) : Calls Tryz.prog 127 [.slice (some ⟨g, 0, none⟩) 32 32, .int .u64 d, .int .i64 p, .int .i64 nd].toArray w
 (RetD (fun x : Int × Int => .tu [.sc (.va (.int .i64 x.1)), .sc (.va (.int .i64 x.2))]) (fun x => -400 <= x.1 /\ x.1 <= 420 /\ 0 <= x.2 /\ x.2 <= 20) (fun _ => BuA g tb 32) g w) := by
 refine calls_startU 1000 g tb 32 [.sc (.va (.slice (some ⟨g, 0, none⟩) 32 32)), .sc (.va (.int .u64 d)), .sc (.va (.int .i64 p)), .sc (.va (.int .i64 nd))] Tryz.func127 rfl ⟨⟨rfl, rfl⟩, ⟨rfl, rfl⟩, ⟨rfl, rfl⟩, ⟨rfl, rfl⟩, trivial⟩ hD fun E hX hP hA hQ => ?_
 repeat' first
  | refine zB ?_ | apply zI <;> intro hdec | with_reducible constructor
  | apply WX_fin hX rfl hQ (.inr rfl)
  | (refine WO_LE 850 (LS_ssl (e := 5) (k := 1) hP el207 ?_ ?_ ?_ ?_ ?_ ?_) ?_
     exact zq0; exact zq0; exact zq0
     rotate_left 3
     intro _ _; simp only [go_sem, cutA00, Option.map_some, Int.toNat_natCast, Int.toNat_zero, Nat.sub_zero])
  | (refine WO_LS 850 (LS_callU (α := Unit) (f := 91) g tb 32 0 (fun _ => .tu []) (fun _ => True) hP ?_ ?_ ?_ ?_ ?_ ?_) ?_
     rfl; exact zq1; exact zq33; exact zq0; exact zq13
     · (intro a w r own hSim hb; simp only [go_sem]; with_reducible exact c91 _ g tb hb nd d _ h0 zo hd)
     intro _ _ E2 h1 h2 h3; refine zz ?_; intro hX hP hA hQ)
  | (refine WO_LE 850 (LS_uload' g tb 32 _ hP zw0 ?_ ?_ ?_ sz5) ?_
     exact zq0; exact zq20
     rotate_left 1
     intro ub _)
  | (with_reducible show WC _ (.loop _) _ _
     apply WC_loopG (ι := Int) (fun x => 0 <= x /\ x <= nd) [22, 23, 24, 25, 26, 27, 28, 29, 30, 31, 32, 33, 3] (fun x => [(3, .sc (.va (.int .i64 x)))]) (fun _ => []) (fun _ => [(0, BuA g tb 32)]) (fun x => x.toNat) nd ⟨h0, Int.le_refl _⟩ [(1, 0)] hX
     exact zq10; exact zq5; exact zq7; exact zq5; rfl; rfl; rfl; exact zq4; intro i ⟨hi1, hi2⟩ E' hX' hA' hQ' J hJ; refine zl ?_; intro hX hP hA hQ
     refine vc_ok 900 _ _ _ ?_)
  | exact zG7 [(0, 0)] (hJ ((i - 1)) ⟨zo, zo⟩ zo)
  | simp (maxSteps := 20000000) only [Tryz.f127, go_sem, zL, ↓reduceIte, reduceCtorEq, Nat.reduceAdd, Nat.reduceMul, Nat.reduceSub, Nat.reduceLeDiff, Nat.reduceEqDiff, Nat.reduceLT, Nat.reduceBEq, Int.reduceEq, hP, hX, addr_add, Nat.mul_one, Nat.zero_add, Nat.add_zero, Option.isSome_some]
 all_goals try first
  | exact zr1 | (intro a w' r own hs'; exact retU_fin hs' zw0 (_, _) (by refine ⟨?_, ?_, ?_, ?_⟩ <;> (dsimp only; omega)) (fun r => tu2v _ _)) | omega
end
