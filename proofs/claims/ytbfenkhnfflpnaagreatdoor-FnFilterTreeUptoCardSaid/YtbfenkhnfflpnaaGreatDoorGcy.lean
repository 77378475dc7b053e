/- Lemmas for FnFilterTree; each condition stands in its statement. -/
import Derived.Test.YtbfenkhnfflpnaaGreatDoorGcu
import Derived.Test.YtbfenkhnfflpnaaGreatDoorGcv
namespace Go.Proofs.YtbfenkhnfflpnaaGreatDoor.Sx
open Go Go.RowKit
set_option maxRecDepth 100000
set_option maxHeartbeats 40000000
set_option linter.all false
section
attribute [local irreducible] leT leH WO WX WC WD
def BuA (g t n : Nat) : Asn := ⟨fun w F => ∃ f : Nat -> Int, (FnA g t n (fun i => .int .u8 (f i))).P w F, fun hw h => h.imp fun f h => (FnA g t n _).loc hw h⟩
theorem BuA.mem {g t n : Nat} {w : World} {F : Nat -> Prop} (h : (BuA g t n).P w F) : (BuA g t n).P w (fun k => k = g) := h.imp fun f h => FnA.mem h
section
variable {E : En} {S : St} {α : Type} {φ : α -> Prop} {c : Call} {dst : Option Tmp} {ty : TypeId} {pos : String} {after : Array Edge} {guard : Option (Nat × Bool)} {o : Oper} {P : Program}
theorem BuA.own {g t n : Nat} {X : Cx} {A : Facts} {a : Act} {w : World} {r : Nat -> Nat} {own : Nat -> Option Ent} (hs : Sim X S A a w r own) {j : Nat} (hj : (j, BuA g t n) ∈ A) (k : Nat) : own k = some (.fa j) ↔ k = g := by
 obtain ⟨f, h⟩ := (hs.fact j _ hj).2; exact h.1 k
theorem LS_uload {t : TypeId} {x : Operand} (g t' n : Nat) (j q : Nat) (hP : E.X.P = P) (hx : ev S x = .sc (.va (.pointer (some ⟨g, q, none⟩)))) (hj : (j, BuA g t' n) ∈ E.A) (hq : q < n) (hsz : szT P t = some (1, false)) :
 LS E S ⟨dst, .load t x, ty, pos, after, guard⟩ [] (fun _ : Int => True) (fun b => S.put dst (.sc (.va (.int .u8 b)))) (fun _ => E.A) := by
 intro a w r own hs K Q hK; subst hP; have hp := va_of (hx ▸ (ev_ok hs.toR x).1); obtain ⟨f, hf⟩ := (hs.fact j _ hj).2; have hc := FnA.cell hf hq
 have hr : Res E.X.P ⟨dst, .load t x, ty, pos, after, guard⟩ a w (a.put dst (.int .u8 (f q))) w := by
  refine ⟨_, ?_, .inl ⟨_, rfl, rfl⟩⟩
  simp [execOp, hp, Instr.loadAt, Instr.sureAddr, loadVar, run_isAgg' hsz, hc]
 exact hr.wp (hK (f q) trivial _ _ r own (hs.put dst (ok_va r _) trivial) (.same (put_h ..).1 (put_h ..).2 (Nat.le_refl _) fun _ _ _ _ _ => rfl))
theorem Sim.fw {X : Cx} {A A' : Facts} {a : Act} {w : World} {r : Nat -> Nat} {own : Nat -> Option Ent} (hs : Sim X S A a w r own) (hA : ∀ l C, (l, C) ∈ A' -> ∃ B, (l, B) ∈ A /\ ∀ F, B.P w F -> C.P w F) : Sim X S A' a w r own :=
 ⟨hs.dfr, hs.sz, hs.slot, hs.slt, hs.heap, fun l C hl => by
  obtain ⟨B, h1, h2⟩ := hA l C hl
  exact ⟨(hs.fact l B h1).1, h2 _ (hs.fact l B h1).2⟩, hs.bnd, hs.nms, hs.fas, hs.frm, hs.rts⟩
theorem LS_ustore {t : TypeId} {x y : Operand} (g t' n : Nat) (j q : Nat) (v : Int) (hP : E.X.P = P) (hx : ev S x = .sc (.va (.pointer (some ⟨g, q, none⟩)))) (hy : ev S y = .sc (.va (.int .u8 v))) (hj : (j, BuA g t' n) ∈ E.A) (hq : q < n) (hsz : szT P t = some (1, false)) :
 LS E S ⟨dst, .store t x y, ty, pos, after, guard⟩ [] (fun _ : Unit => True) (fun _ => S.putM dst undefSV) (fun _ => (S.m, BuA g t' n) :: outF [j] E.A) := by
 intro a w r own hs K Q hK; obtain ⟨f, hf⟩ := (hs.fact j _ hj).2
 have hs2 : Sim E.X S ((j, FnA g t' n (fun i => .int .u8 (f i))) :: outF [j] E.A) a w r own := hs.fw fun l C hl => by
  rcases List.mem_cons.1 hl with h | h
  · simp only [Prod.mk.injEq] at h
    obtain ⟨rfl, rfl⟩ := h
    refine ⟨_, hj, fun F h => ?_⟩
    obtain ⟨f', h1, ds, h2, h3⟩ := h; obtain ⟨g1, es, g2, g3⟩ := hf; rw [h2] at g2; simp only [Option.some.injEq, Obj.cells.injEq] at g2
    have : ds = es := by simpa using g2.1
    subst this; exact ⟨h1, ds, h2, g3⟩
  · exact ⟨C, (List.mem_filter.1 h).1, fun _ h => h⟩
 have hl := LS_fstore (E := ⟨E.X, (j, FnA g t' n (fun i => .int .u8 (f i))) :: outF [j] E.A, E.Q⟩) (S := S) (dst := dst) (ty := ty) (pos := pos) (after := after) (guard := guard) g t' n _ j q (.int .u8 v) hP hx hy rfl zm hq hsz a w r own hs2 K Q
 refine hl fun x hx a' w' r' own' hs' hk => hK x hx a' w' r' own' (hs'.fw fun l C hl => ?_) hk
 rcases List.mem_cons.1 hl with h | h
 · simp only [Prod.mk.injEq] at h
   obtain ⟨rfl, rfl⟩ := h; exact ⟨_, List.mem_cons_self .., fun F h => ⟨fun i => if i = q then v else f i, FnA.congr h fun i _ => by unfold updF; by_cases h : i = q <;> simp [h]⟩⟩
 · exact ⟨C, List.mem_cons_of_mem _ (List.mem_filter.2 ⟨List.mem_cons_of_mem _ h, (List.mem_filter.1 h).2⟩), fun _ h => h⟩
theorem LS_uload' {t : TypeId} {x : Operand} (g t' n : Nat) (j : Nat) (hP : E.X.P = P) (hj : (j, BuA g t' n) ∈ E.A) (hx0 : isP (ev S x) = true) (hxg : (adOf (ev S x)).block = g /\ (adOf (ev S x)).spot = none) (hq : (adOf (ev S x)).off < n) (hsz : szT P t = some (1, false)) :
 LS E S ⟨dst, .load t x, ty, pos, after, guard⟩ [] (fun _ : Int => True) (fun b => S.put dst (.sc (.va (.int .u8 b)))) (fun _ => E.A) :=
 by
 have hx := isP_of hx0
 generalize adOf (ev S x) = ad at *
 obtain ⟨b, q, tl⟩ := ad; obtain ⟨rfl, h2⟩ := hxg
 simp only at h2 hq
 subst h2; exact LS_uload b t' n j q hP hx hj hq hsz
theorem LS_ustore' {t : TypeId} {x y : Operand} (g t' n : Nat) (j : Nat) (hP : E.X.P = P) (hj : (j, BuA g t' n) ∈ E.A) (hx0 : isP (ev S x) = true) (hxg : (adOf (ev S x)).block = g /\ (adOf (ev S x)).spot = none) (hy0 : isI .u8 (ev S y) = true) (hq : (adOf (ev S x)).off < n) (hsz : szT P t = some (1, false)) :
 LS E S ⟨dst, .store t x y, ty, pos, after, guard⟩ [] (fun _ : Unit => True) (fun _ => S.putM dst undefSV) (fun _ => (S.m, BuA g t' n) :: outF [j] E.A) :=
 by
 have hx := isP_of hx0
 generalize adOf (ev S x) = ad at *
 obtain ⟨b, q, tl⟩ := ad; obtain ⟨rfl, h2⟩ := hxg
 simp only at h2 hq
 subst h2; exact LS_ustore b t' n j q _ hP hx (isI_of hy0) hj hq hsz
theorem LS_callU {f : FuncId} (g t n : Nat) (j : Nat) (res : α -> SV) (φ : α -> Prop) (hP : E.X.P = P) (hc : c.callee = .value (.func f)) (hf : callable P f = true) (hl : ∀ x, (res x).lt 0)
 (hk : (c.args.toList.all fun x => (ev S x).known) = true) (hj : (j, BuA g t n) ∈ E.A)
 (hcall : ∀ a w r own, Sim E.X S E.A a w r own -> (BuA g t n).P w (fun k => k = g) -> Calls P f ((c.args.toList.map fun x => (ev S x).den r).toArray) w (RetD res φ (fun _ => BuA g t n) g w)) :
 LS E S ⟨dst, .call c, ty, pos, after, guard⟩ [] φ (fun x => S.putM dst (res x)) (fun x => (S.m, BuA g t n) :: outF [j] E.A) := by
 refine LS_callJ [j] res φ (fun _ => BuA g t n) hP hc hf hl hk fun a w r own hs => (hcall a w r own hs (BuA.mem (hs.fact j _ hj).2)).mono fun e w' hr => ?_
 obtain ⟨x, hx, hu, hfr, hB⟩ := hr; have hown := BuA.own hs hj
 have hM : ∀ k, k = g -> ∃ j' ∈ [j], own k = some (.fa j') := fun k hk => ⟨j, zp, (hown k).2 hk⟩
 exact ⟨x, hx, hu, ⟨hfr.os, hfr.tape, hfr.output, hfr.size, fun k hk hn => hfr.block k hk fun he => hn (hM k he)⟩, _, fun k hk => .inl (hM k hk), hB⟩
end
section
attribute [local irreducible] LS WS WQ
theorem calls_startU {P : Program} {f : FuncId} {fn : Func} {c : Code} {args : List Value} {w : World} {R : Ending -> World -> Prop} (n : Nat) (g t m : Nat) (svs : List SV)
 (hf : P.funcs[f]? = some fn) (hb : fn.body = some c) (hargs' : ArgsOk [] svs args) (hB : (BuA g t m).P w (fun k => k = g))
 (h : ∀ E : En, E.X = ⟨P, w, fun k => k = g, [], []⟩ -> E.X.P = P -> E.A = [(0, BuA g t m)] -> E.Q = bodyPost P fn R -> vc E n c .nil (startF svs [] 0 (fn.ntmps - args.length))) : Calls P f args.toArray w R := by
 have hlt : g < w.heap.size := by
  obtain ⟨_, _, ds, h2, _⟩ := hB; exact (Array.getElem?_eq_some_iff.1 h2).1
 refine calls_startF n [] [] svs (BuA g t m) (fun k => k = g) hf hb hargs' List.nodup_nil trivial hB (fun k hk => ⟨zp, by subst hk; exact hlt⟩) fun E hX hP hA hQ => ?_
 refine h E (hX.trans ?_) hP hA hQ
 have : (fun k => k ∈ ([] : List Nat) \/ k = g) = (fun k => k = g) := funext fun k => propext zp; rw [this]; rfl
theorem retU_fin {α : Type} {P : Program} {w0 : World} {g t n : Nat} {S : St} {A : Facts} {a : Act} {w : World} {r : Nat -> Nat} {own : Nat -> Option Ent} (hs : Sim ⟨P, w0, fun k => k = g, [], []⟩ S A a w r own) {res : α -> SV} {φ : α -> Prop} {j : Nat} (hj : (j, BuA g t n) ∈ A)
 (x : α) (hx : φ x) {u : Value} (hu : ∀ r, (res x).ok r u) : RetD res φ (fun _ => BuA g t n) g w0 (.returned u) w :=
 ⟨x, hx, ⟨u, rfl, hu⟩, hs.frm, BuA.mem (hs.fact j _ hj).2⟩
def smTab : List UInt8 := (([48, 48, 48, 49, 48, 50, 48, 51, 48, 52, 48, 53, 48, 54, 48, 55, 48, 56, 48, 57, 49, 48, 49, 49, 49, 50, 49, 51, 49, 52, 49, 53, 49, 54, 49, 55, 49, 56, 49, 57, 50, 48, 50, 49, 50, 50, 50, 51, 50, 52].append [50, 53, 50, 54, 50, 55, 50, 56, 50, 57, 51, 48, 51, 49, 51, 50, 51, 51, 51, 52, 51, 53, 51, 54, 51, 55, 51, 56, 51, 57, 52, 48, 52, 49, 52, 50, 52, 51, 52, 52, 52, 53, 52, 54, 52, 55, 52, 56, 52, 57]).append ([53, 48, 53, 49, 53, 50, 53, 51, 53, 52, 53, 53, 53, 54, 53, 55, 53, 56, 53, 57, 54, 48, 54, 49, 54, 50, 54, 51, 54, 52, 54, 53, 54, 54, 54, 55, 54, 56, 54, 57, 55, 48, 55, 49, 55, 50, 55, 51, 55, 52].append [55, 53, 55, 54, 55, 55, 55, 56, 55, 57, 56, 48, 56, 49, 56, 50, 56, 51, 56, 52, 56, 53, 56, 54, 56, 55, 56, 56, 56, 57, 57, 48, 57, 49, 57, 50, 57, 51, 57, 52, 57, 53, 57, 54, 57, 55, 57, 56, 57, 57]))
theorem smTab_eq : ((([48, 48, 48, 49, 48, 50, 48, 51, 48, 52, 48, 53, 48, 54, 48, 55, 48, 56, 48, 57, 49, 48, 49, 49, 49, 50, 49, 51, 49, 52, 49, 53, 49, 54, 49, 55, 49, 56, 49, 57, 50, 48, 50, 49, 50, 50, 50, 51, 50, 52].append [50, 53, 50, 54, 50, 55, 50, 56, 50, 57, 51, 48, 51, 49, 51, 50, 51, 51, 51, 52, 51, 53, 51, 54, 51, 55, 51, 56, 51, 57, 52, 48, 52, 49, 52, 50, 52, 51, 52, 52, 52, 53, 52, 54, 52, 55, 52, 56, 52, 57]).append ([53, 48, 53, 49, 53, 50, 53, 51, 53, 52, 53, 53, 53, 54, 53, 55, 53, 56, 53, 57, 54, 48, 54, 49, 54, 50, 54, 51, 54, 52, 54, 53, 54, 54, 54, 55, 54, 56, 54, 57, 55, 48, 55, 49, 55, 50, 55, 51, 55, 52].append [55, 53, 55, 54, 55, 55, 55, 56, 55, 57, 56, 48, 56, 49, 56, 50, 56, 51, 56, 52, 56, 53, 56, 54, 56, 55, 56, 56, 56, 57, 57, 48, 57, 49, 57, 50, 57, 51, 57, 52, 57, 53, 57, 54, 57, 55, 57, 56, 57, 57]))) = smTab := rfl
theorem smTab_sz : smTab.toArray.size = 200 := by decide
attribute [go_sem] smTab_eq
theorem w32nn (x : Int) : 0 <= IntKind.u32.wrap x := by rw [wrapU32_eq]; omega
theorem sm1 {x : Int} (h : 0 <= x) : IntKind.u32.wrap (x.tmod 100 * 2) < (smTab.toArray.size : Int) := by
 rw [smTab_sz, wrapU32_eq, Int.tmod_eq_emod_of_nonneg h]; omega
theorem sm3 {Z : Int} (h : 0 <= Z /\ Z < 10000) : IntKind.u32.wrap (IntKind.u32.wrap (Z.tdiv 100) * 2) < (smTab.toArray.size : Int) := by
 rw [smTab_sz, wrapU32_eq, wrapU32_eq, Int.tdiv_eq_ediv_of_nonneg h.1]; omega
theorem sm4 {Z : Int} (h : 0 <= Z /\ Z < 10000) : IntKind.u32.wrap (IntKind.u32.wrap (IntKind.u32.wrap (Z.tdiv 100) * 2) + 1) < (smTab.toArray.size : Int) := by
 rw [smTab_sz, wrapU32_eq, wrapU32_eq, wrapU32_eq, Int.tdiv_eq_ediv_of_nonneg h.1]; omega
theorem z1 (x : Int) : 0 <= (IntKind.u32.wrap x).tmod 10000 /\ (IntKind.u32.wrap x).tmod 10000 < 10000 := by
 rw [Int.tmod_eq_emod_of_nonneg (w32nn x)]; omega
theorem z2 {u : Int} (h : 0 <= u) : 0 <= IntKind.u32.wrap ((IntKind.u32.wrap (u.tmod 100000000)).tdiv 10000) /\ IntKind.u32.wrap ((IntKind.u32.wrap (u.tmod 100000000)).tdiv 10000) < 10000 := by
 rw [Int.tdiv_eq_ediv_of_nonneg (w32nn _), wrapU32_eq, wrapU32_eq, Int.tmod_eq_emod_of_nonneg h]; omega
theorem sm2 {x : Int} (h : 0 <= x) : IntKind.u32.wrap (IntKind.u32.wrap (x.tmod 100 * 2) + 1) < (smTab.toArray.size : Int) := by
 rw [smTab_sz, wrapU32_eq, wrapU32_eq, Int.tmod_eq_emod_of_nonneg h]; omega
theorem c91 (w : World) (g tb : Nat) (hD : (BuA g tb 32).P w (fun k => k = g)) (n u : Int) (cp : Nat) (hn0 : 0 <= n) (hn : n <= 32) (hu : U64 u) : Calls Tryz.prog 91 [.slice (some ⟨g, 0, none⟩) n.toNat cp, .int .u64 u].toArray w (RetD (fun _ : Unit => .tu []) (fun _ => True) (fun _ => BuA g tb 32) g w) := by
 refine calls_startU 1000 g tb 32 [.sc (.va (.slice (some ⟨g, 0, none⟩) n.toNat cp)), .sc (.va (.int .u64 u))] Tryz.func91 rfl ⟨⟨rfl, rfl⟩, ⟨rfl, rfl⟩, trivial⟩ hD fun E hX hP hA hQ => ?_
 have hnn : (n.toNat : Int) = n := by omega
 repeat' first
  | refine zB ?_ | apply zI <;> intro hdec | with_reducible constructor
  | apply WX_fin hX rfl hQ (.inr rfl)
  | refine zu 7 sch91_7 [12, 14] ?_
  | refine zu 8 sch91_8 [12, 14] ?_
  | refine zu 9 sch91_9 [12, 14] ?_
  | refine zu 10 sch91_10 [12, 14] ?_
  | refine zu 17 sch91_17 [12, 14] ?_
  | refine zu 18 sch91_18 [12, 14] ?_
  | refine zu 23 sch91_23 [12, 14] ?_
  | (refine WD_LS 850 ?_ (LS_ustore' g tb 32 _ hP zw0 ?_ ?_ ?_ ?_ sz5) ?_ ?_
     exact zq2; exact zq0; exact zq20; exact zq0
     rotate_left 1
     exact zq16; intro _ _ E2 h1 h2 h3; refine zz ?_; intro hX hP hA hQ)
  | (refine WO_LS 850 (LS_ustore' g tb 32 _ hP zw0 ?_ ?_ ?_ ?_ sz5) ?_
     exact zq0; exact zq20; exact zq0
     rotate_left 1
     intro _ _ E2 h1 h2 h3; refine zz ?_; intro hX hP hA hQ)
  | (with_reducible show WC _ (.loop _) _ _
     apply WC_loopG (ι := Int × Int) (fun x => 0 <= x.1 /\ x.1 <= n /\ U64 x.2) [19, 20, 21, 22, 23, 5, 24, 25, 1, 26, 27, 28, 29, 6, 7, 30, 31, 32, 33, 34, 35, 8, 9, 36, 37, 38, 39, 40, 41, 10, 11, 42, 43, 44, 45, 46, 47, 48, 49, 50, 51, 52, 53, 54, 55, 56, 57, 58, 59, 60, 61, 62, 63, 64, 65, 66, 67, 68, 69, 70, 71, 72, 73, 74, 75, 76, 77, 78, 79, 80, 81, 82, 83, 84, 85, 86, 87, 88, 89, 90, 91, 92, 93, 94, 95, 4] (fun x => [(4, .sc (.va (.int .i64 x.1))), (1, .sc (.va (.int .u64 x.2)))]) (fun _ => []) (fun _ => [(0, BuA g tb 32)]) (fun x => x.1.toNat) (n, u) ⟨hn0, Int.le_refl _, hu⟩ [(0, 0)] hX
     exact zq10; exact zq5; exact zq7; exact zq5; rfl; rfl; rfl; exact zq4; rintro ⟨nd, u⟩ ⟨hi1, hi2, hi3⟩ E' hX' hA' hQ' J hJ; refine zl ?_; intro hX hP hA hQ
     refine vc_ok 900 _ _ _ ?_
     dsimp only at hi1 hi2 hi3; have hi0 : 0 <= u := hi3.1)
  | exact zG7 [(8, 0)] (hJ ((nd - 8, IntKind.u64.wrap (u.tdiv 100000000))) ⟨zj, zj, by first | exact wrapU64_rng _ | (unfold U64 at *; dsimp only; omega)⟩ zj)
  | simp (maxSteps := 20000000) only [Tryz.f91, go_sem, zL, ↓reduceIte, reduceCtorEq, Nat.reduceAdd, Nat.reduceMul, Nat.reduceSub, Nat.reduceLeDiff, Nat.reduceEqDiff, Nat.reduceLT, Nat.reduceBEq, Int.reduceEq, hP, hX, addr_add, Nat.mul_one, Nat.zero_add, Nat.add_zero, hnn, Int.toNat_natCast, Option.isSome_some]
 all_goals try first
  | (intro a w' r own hs'; exact retU_fin hs' zw0 () trivial (fun r => tu0)) | exact zr1 | (with_reducible show 0 <= IntKind.u32.wrap _; exact w32nn _) | (with_reducible show IntKind.u32.wrap _ < _; first | exact sm1 (by first | exact w32nn _ | exact Int.tmod_nonneg _ (w32nn _)) | exact sm2 (by first | exact w32nn _ | exact Int.tmod_nonneg _ (w32nn _)) | exact sm3 (z1 _) | exact sm4 (z1 _) | exact sm3 (z2 hi0) | exact sm4 (z2 hi0)) | (with_reducible show (_ : Int) <= _; omega) | (with_reducible show (_ : Int) < _; omega) | (with_reducible show (_ : Nat) < _; omega) | (with_reducible show (_ : Int) ≠ _; omega)
end
