/- Lemmas for FnFilterTree; each condition stands in its statement. -/
import Derived.Test.YtbfenkhnfflpnaaGreatDoorGad
namespace Go.Proofs.YtbfenkhnfflpnaaGreatDoor.Sx
open Go Go.RowKit
set_option maxRecDepth 100000
set_option maxHeartbeats 40000000
set_option linter.all false
theorem zo {P : Prop} (h : P := by omega) : P := h
theorem zi {P : Prop} (h : P := by decide) : P := h
theorem zp {P : Prop} (h : P := by simp; done) : P := h
theorem zk {P : Prop} (h : P := by kernel_rfl) : P := h
theorem zj {P : Prop} (h : P := by dsimp only; omega) : P := h
theorem zm {α : Type} {a : α} {l : List α} : a ∈ a :: l := List.mem_cons_self ..
theorem zmb {α : Type} {a b : α} {l : List α} : a ∈ b :: a :: l := List.mem_cons_of_mem _ zm
theorem zw0 {P : Prop} (h : P := by rw [hA]; exact List.mem_cons_self ..) : P := h
theorem zw1 {P : Prop} (h : P := by rw [hA]; exact List.mem_cons_of_mem _ (List.mem_cons_self ..)) : P := h
theorem zw2 {P : Prop} (h : P := by rw [hA]; exact List.mem_cons_of_mem _ (List.mem_cons_of_mem _ (List.mem_cons_self ..))) : P := h
theorem zw3 {P : Prop} (h : P := by rw [hA]; exact List.mem_cons_of_mem _ (List.mem_cons_of_mem _ (List.mem_cons_of_mem _ (List.mem_cons_self ..)))) : P := h
theorem zt {p : Prop} [Decidable p] (h : p) : decide p = true := decide_eq_true h
theorem zf {p : Prop} [Decidable p] (h : ¬ p) : decide p = false := decide_eq_false h
theorem zd1 {E : En} {n : Nat} {k : Kt} {S : St} {d : Tmp} {ops l : List Oper} {o : Oper} {want : Bool} {p : Prop} [Decidable p] (h1 : p -> vg E n true want d ops o l k S) (h2 : ¬ p -> vg E n false want d ops o l k S) : vg E n (decide p) want d ops o l k S := vg_dec _ _ _ _ _ _ _ h1 h2
theorem zd2 {E : En} {n : Nat} {t e : Code} {k : Kt} {S : St} {p : Prop} [Decidable p] (h1 : p -> vb E n true t e k S) (h2 : ¬ p -> vb E n false t e k S) : vb E n (decide p) t e k S := vb_dec _ _ _ _ _ h1 h2
theorem zd3 {E : En} {n : Nat} {k : Kt} {S : St} {d : Tmp} {ops l : List Oper} {o : Oper} {want : Bool} {p : Prop} [Decidable p] (h1 : ¬ p -> vg E n true want d ops o l k S) (h2 : p -> vg E n false want d ops o l k S) : vg E n (!decide p) want d ops o l k S := vg_ndec _ _ _ _ _ _ _ h1 h2
theorem zd4 {E : En} {n : Nat} {t e : Code} {k : Kt} {S : St} {p : Prop} [Decidable p] (h1 : ¬ p -> vb E n true t e k S) (h2 : p -> vb E n false t e k S) : vb E n (!decide p) t e k S := vb_ndec _ _ _ _ _ h1 h2
theorem zqd {P : Prop} (h : P := by first | (exfalso; omega) | exact absurd hdec (by decide) | exact absurd (by decide) hdec) : P := h
theorem zP {E : En} {X : Cx} (h : E.X = X) (hx : X.P = Tryz.prog := by rfl) : E.X.P = Tryz.prog := by rw [h]; exact hx
theorem zn {E E2 : En} {X : Cx} {A : Facts} {R : Exit -> Act -> World -> Prop} (h1 : E2.X = E.X) (h2 : E2.A = A) (h3 : E2.Q = E.Q) (hX : E.X = X) (hQ : E.Q = R) (hx : X.P = Tryz.prog := by rfl) : E2.X = X /\ E2.X.P = Tryz.prog /\ E2.A = A /\ E2.Q = R :=
 ⟨h1.trans hX, by rw [h1, hX]; exact hx, h2, h3.trans hQ⟩
theorem WO_LE {E : En} {S : St} {k : Kt} {α : Type} {φ : α -> Prop} {S' : α -> St} {o : Oper} {wr : List Nat} (n : Nat) {ops l : List Oper} (hl : LS E S o wr φ S' (fun _ => E.A)) (h : ∀ x, φ x -> vl E n ops l k (S' x)) : WO E ops o l k S :=
 WO_LS n hl fun x hx E2 h1 h2 h3 => by
  obtain rfl := En_eq _ _ h1 h2 h3
  exact h x hx
theorem zN : (∀ n : Nat, 0 + n = n) /\ (∀ n : Nat, n + 0 = n) /\ (∀ n : Nat, (n <= n) = True) /\ (∀ p : Prop, (p /\ p) = p) := ⟨Nat.zero_add, Nat.add_zero, fun n => eq_true (Nat.le_refl n), fun p => propext (and_self_iff)⟩
theorem zM : ((∀ n : Nat, 0 + n = n) /\ (∀ n : Nat, n + 0 = n) /\ (∀ n : Nat, (n <= n) = True) /\ (∀ p : Prop, (p /\ p) = p)) /\ (∀ (α β : Type) (x : α) (f : α -> β), Option.map f (some x) = some (f x)) /\ (∀ (α β : Type) (f : α -> β), Option.map f none = none) /\ (!true) = false /\ (!false) = true := ⟨zN, fun _ _ _ _ => rfl, fun _ _ _ => rfl, rfl, rfl⟩
theorem zL : (((∀ n : Nat, 0 + n = n) /\ (∀ n : Nat, n + 0 = n) /\ (∀ n : Nat, (n <= n) = True) /\ (∀ p : Prop, (p /\ p) = p)) /\ (∀ (α β : Type) (x : α) (f : α -> β), Option.map f (some x) = some (f x)) /\ (∀ (α β : Type) (f : α -> β), Option.map f none = none) /\ (!true) = false /\ (!false) = true) /\ (∀ h : Decidable True, @decide True h = true) /\ (∀ h : Decidable False, @decide False h = false) /\ (∀ b : Bool, (true && b) = b) /\ (∀ b : Bool, (b && true) = b) /\ (∀ b : Bool, (false && b) = false) /\ (∀ b : Bool, (b && false) = false) /\ (∀ p : Prop, (False /\ p) = False) /\ (∀ p : Prop, (p /\ False) = False) :=
 ⟨zM, fun _ => decide_eq_true trivial, fun _ => decide_eq_false id, Bool.true_and, Bool.and_true, Bool.false_and, Bool.and_false, false_and, and_false⟩
theorem zF : (∀ (α : Type) (p : α -> Bool), List.filter p [] = []) /\ (∀ (α : Type) (p : α -> Bool) (x : α) (l : List α), List.filter p (x :: l) = if p x = true then x :: List.filter p l else List.filter p l) /\ (∀ (a x : Nat) (l : List Nat), List.contains (x :: l) a = (a == x || List.contains l a)) /\ (∀ a : Nat, List.contains [] a = false) /\ (∀ b : Bool, (b || false) = b) /\ (∀ b : Bool, (false || b) = b) /\ (∀ b : Bool, (b || true) = true) /\ (∀ b : Bool, (true || b) = true) /\ (!true) = false /\ (!false) = true /\ (false = true) = False /\ (∀ n : Nat, 0 + n = n) :=
 ⟨fun _ _ => List.filter_nil, fun _ _ _ _ => List.filter_cons, fun _ _ _ => List.contains_cons, fun _ => List.contains_nil, Bool.or_false, Bool.false_or, Bool.or_true, Bool.true_or, rfl, rfl, Bool.false_eq_true, Nat.zero_add⟩
theorem zg {α : Type} {a b c : α} (h : a = b) (e : b = c := by (simp only [hA, go_sem, zF, Nat.reduceBEq, Nat.reduceAdd, ↓reduceIte]; rfl)) : a = c := h.trans e
attribute [go_sem] Tryz.f3 Tryz.f4 Tryz.f5 Tryz.f6 Tryz.f7 Tryz.f8 Tryz.f9 Tryz.f10 Tryz.f11 Tryz.f12 Tryz.f13 Tryz.f15 Tryz.f16 Tryz.f17 Tryz.f18 Tryz.f19 Tryz.f20 Tryz.f21 Tryz.f22 Tryz.f23 Tryz.f25 Tryz.f26 Tryz.f27 Tryz.f28 Tryz.f29 Tryz.f30 Tryz.f31 Tryz.f32 Tryz.f33 Tryz.f34 Tryz.f35 Tryz.f36 Tryz.f37 Tryz.f38 Tryz.f39 Tryz.f40 Tryz.f41 Tryz.f42 Tryz.f43 Tryz.f45 Tryz.f47 Tryz.f48 Tryz.f50 Tryz.f51 Tryz.f52 Tryz.f53 Tryz.f54 Tryz.f55 Tryz.f57 Tryz.f58 Tryz.f59 Tryz.f60 Tryz.f62 Tryz.f63 Tryz.f64 Tryz.f65 Tryz.f67 Tryz.f68 Tryz.f71 Tryz.f73 Tryz.f74 Tryz.f76 Tryz.f77 Tryz.f78 Tryz.f79 Tryz.f80 Tryz.f81 Tryz.f82 Tryz.f88 Tryz.f90 Tryz.f91 Tryz.f96 Tryz.f97 Tryz.f98 Tryz.f100 Tryz.f101 Tryz.f104 Tryz.f105 Tryz.f106 Tryz.f107 Tryz.f108 Tryz.f109 Tryz.f110 Tryz.f111 Tryz.f112 Tryz.f113 Tryz.f114 Tryz.f116 Tryz.f124 Tryz.f125 Tryz.f127 Tryz.f128 Tryz.f131 Tryz.f133 Tryz.f134 Tryz.f138 Tryz.f140 Tryz.f141 Tryz.f142 Tryz.f143 Tryz.f144 Tryz.f145 Tryz.f151 Tryz.f152 Tryz.f153 Tryz.f155 Tryz.f156 Tryz.f160 Tryz.f161 Tryz.f162 Tryz.f163 Tryz.f164 Tryz.f165 Tryz.f166 Tryz.f167 Tryz.f168 Tryz.f169 Tryz.f171 Tryz.f172 Tryz.f173 Tryz.f174 Tryz.f180 Tryz.f181 Tryz.f185 Tryz.f186 Tryz.f187 Tryz.f188 Tryz.f191 Tryz.f192 Tryz.f193 Tryz.f194 Tryz.f195 Tryz.f197 Tryz.f218 Tryz.f224 Tryz.f225 Tryz.f239 Tryz.f259 Tryz.f265 Tryz.f271 Tryz.f273 Tryz.f277 Tryz.f289 Tryz.f295 Tryz.f301 Tryz.f307 Tryz.f319 Tryz.f331 Tryz.f337 Tryz.f350 Tryz.f358
theorem zs0 {P Q : Prop} (k : Q) (h : P = Q := by (simp (maxSteps := 20000000) only [go_sem, zL, ↓reduceIte, reduceCtorEq, Nat.reduceAdd, Nat.reduceMul, Nat.reduceSub, Nat.reduceLeDiff, Nat.reduceEqDiff, Nat.reduceLT, Nat.reduceBEq, Int.reduceEq, hP, hX]; rfl)) : P := h.symm ▸ k
theorem zs1 {P Q : Prop} (k : Q) (h : P = Q := by (simp (maxSteps := 20000000) only [go_sem, zL, ↓reduceIte, reduceCtorEq, Nat.reduceAdd, Nat.reduceMul, Nat.reduceSub, Nat.reduceLeDiff, Nat.reduceEqDiff, Nat.reduceLT, Nat.reduceBEq, Int.reduceEq, hP, hX, addr_add, Nat.mul_one, Nat.zero_add, Nat.add_zero, Option.isNone_some, Option.isNone_none]; rfl)) : P := h.symm ▸ k
theorem zs2 {P Q : Prop} (k : Q) (h : P = Q := by (simp (maxSteps := 20000000) only [go_sem, zN, ↓reduceIte, reduceCtorEq, Nat.reduceAdd, Nat.reduceMul, Nat.reduceSub, Nat.reduceLeDiff, Nat.reduceEqDiff, hP, hX]; rfl)) : P := h.symm ▸ k
theorem zs3 {P Q : Prop} (k : Q) (h : P = Q := by (simp (maxSteps := 20000000) only [go_sem, zL, ↓reduceIte, reduceCtorEq, Nat.reduceAdd, Nat.reduceMul, Nat.reduceSub, Nat.reduceLeDiff, Nat.reduceEqDiff, Nat.reduceLT, Nat.reduceBEq, Int.reduceEq, hP, hX, Int.toNat_natCast]; rfl)) : P := h.symm ▸ k
theorem zs4 {P Q : Prop} (k : Q) (h : P = Q := by (simp (maxSteps := 20000000) only [go_sem, zL, ↓reduceIte, reduceCtorEq, Nat.reduceAdd, Nat.reduceMul, Nat.reduceSub, Nat.reduceLeDiff, Nat.reduceEqDiff, Nat.reduceLT, Nat.reduceBEq, Int.reduceEq, hP, hX, addr_add, Nat.mul_one, Nat.zero_add, Nat.add_zero, Option.isNone_some, Option.isNone_none, nodeC]; rfl)) : P := h.symm ▸ k
theorem zs5 {P Q : Prop} (k : Q) (h : P = Q := by (simp (maxSteps := 20000000) only [go_sem, zM, ↓reduceIte, reduceCtorEq, Nat.reduceAdd, Nat.reduceMul, Nat.reduceSub, Nat.reduceLeDiff, Nat.reduceEqDiff, hP, hX]; rfl)) : P := h.symm ▸ k
theorem zs6 {P Q : Prop} (k : Q) (h : P = Q := by (simp (maxSteps := 20000000) only [go_sem, zL, ↓reduceIte, reduceCtorEq, Nat.reduceAdd, Nat.reduceMul, Nat.reduceSub, Nat.reduceLeDiff, Nat.reduceEqDiff, Nat.reduceLT, Nat.reduceBEq, Int.reduceEq, hP, hX, nodeC]; rfl)) : P := h.symm ▸ k
theorem zs7 {P Q : Prop} (k : Q) (h : P = Q := by (simp (maxSteps := 20000000) only [go_sem, zL, ↓reduceIte, reduceCtorEq, Nat.reduceAdd, Nat.reduceMul, Nat.reduceSub, Nat.reduceLeDiff, Nat.reduceEqDiff, Nat.reduceLT, Nat.reduceBEq, Int.reduceEq, hP, hX, addr_add, Nat.mul_one, Nat.zero_add, Nat.add_zero, Option.isNone_some, Option.isNone_none, nodeC, Option.isSome_some, Int.toNat_natCast]; rfl)) : P := h.symm ▸ k
theorem zs8 {P Q : Prop} (k : Q) (h : P = Q := by (simp (maxSteps := 20000000) only [go_sem, zL, ↓reduceIte, reduceCtorEq, Nat.reduceAdd, Nat.reduceMul, Nat.reduceSub, Nat.reduceLeDiff, Nat.reduceEqDiff, Nat.reduceLT, Nat.reduceBEq, Int.reduceEq, hP, hX, treeC, nodeC]; rfl)) : P := h.symm ▸ k
theorem zs9 {P Q : Prop} (k : Q) (h : P = Q := by (simp (maxSteps := 20000000) only [go_sem, zL, ↓reduceIte, reduceCtorEq, Nat.reduceAdd, Nat.reduceMul, Nat.reduceSub, Nat.reduceLeDiff, Nat.reduceEqDiff, Nat.reduceLT, Nat.reduceBEq, Int.reduceEq, hP, hX, N.cells, nodeC, N.k, N.ty, N.v, N.t, N.fl, N.c, N.kids, List.length_cons, List.length_nil]; rfl)) : P := h.symm ▸ k
theorem zs10 {P Q : Prop} (k : Q) (h : P = Q := by (simp (maxSteps := 20000000) only [go_sem, zL, ↓reduceIte, reduceCtorEq, Nat.reduceAdd, Nat.reduceMul, Nat.reduceSub, Nat.reduceLeDiff, Nat.reduceEqDiff, Nat.reduceLT, Nat.reduceBEq, Int.reduceEq, hP, hX, Bool.false_eq_true, Bool.true_beq, Int.reduceAdd]; rfl)) : P := h.symm ▸ k
theorem zs11 {P Q : Prop} (k : Q) (h : P = Q := by (simp (maxSteps := 20000000) only [go_sem, zL, ↓reduceIte, reduceCtorEq, Nat.reduceAdd, Nat.reduceMul, Nat.reduceSub, Nat.reduceLeDiff, Nat.reduceEqDiff, Nat.reduceLT, Nat.reduceBEq, Int.reduceEq, hP, hX, Int.toNat_natCast, Int.reduceToNat, tn1, asz1]; rfl)) : P := h.symm ▸ k
theorem zs12 {P Q : Prop} (k : Q) (h : P = Q := by (simp (maxSteps := 20000000) only [go_sem, zL, ↓reduceIte, reduceCtorEq, Nat.reduceAdd, Nat.reduceMul, Nat.reduceSub, Nat.reduceLeDiff, Nat.reduceEqDiff, Nat.reduceLT, Nat.reduceBEq, Int.reduceEq, hP, hX, treeC, Int.toNat_natCast]; rfl)) : P := h.symm ▸ k
theorem zs17 {P Q : Prop} (k : Q) (h : P = Q := by (simp (maxSteps := 20000000) only [go_sem, zL, ↓reduceIte, reduceCtorEq, Nat.reduceAdd, Nat.reduceMul, Nat.reduceSub, Nat.reduceLeDiff, Nat.reduceEqDiff, Nat.reduceLT, Nat.reduceBEq, Int.reduceEq, hP, hX, treeC, fitC, hkk, Int.reduceSub]; rfl)) : P := h.symm ▸ k
theorem zs18 {P Q : Prop} (k : Q) (h : P = Q := by (simp (maxSteps := 20000000) only [go_sem, zL, ↓reduceIte, reduceCtorEq, Nat.reduceAdd, Nat.reduceMul, Nat.reduceSub, Nat.reduceLeDiff, Nat.reduceEqDiff, Nat.reduceLT, Nat.reduceBEq, Int.reduceEq, hP, hX, addr_add, Nat.mul_one, Nat.zero_add]; rfl)) : P := h.symm ▸ k
theorem zs19 {P Q : Prop} (k : Q) (h : P = Q := by (simp (maxSteps := 20000000) only [go_sem, zN, ↓reduceIte, reduceCtorEq, Nat.reduceAdd, Nat.reduceMul, Nat.reduceSub, Nat.reduceLeDiff, Nat.reduceEqDiff, hP, hX, treeC]; rfl)) : P := h.symm ▸ k
theorem zs20 {P Q : Prop} (k : Q) (h : P = Q := by (simp (maxSteps := 20000000) only [go_sem, zL, ↓reduceIte, reduceCtorEq, Nat.reduceAdd, Nat.reduceMul, Nat.reduceSub, Nat.reduceLeDiff, Nat.reduceEqDiff, Nat.reduceLT, Nat.reduceBEq, Int.reduceEq, hP, hX, psC]; rfl)) : P := h.symm ▸ k
theorem zs22 {P Q : Prop} (k : Q) (h : P = Q := by (simp (maxSteps := 20000000) only [go_sem, zL, ↓reduceIte, reduceCtorEq, Nat.reduceAdd, Nat.reduceMul, Nat.reduceSub, Nat.reduceLeDiff, Nat.reduceEqDiff, Nat.reduceLT, Nat.reduceBEq, Int.reduceEq, hP, hX, addr_add, Nat.mul_one, Nat.zero_add, Nat.add_zero, Bool.false_eq_true, Int.reduceAdd]; rfl)) : P := h.symm ▸ k
theorem zs23 {P Q : Prop} (k : Q) (h : P = Q := by (simp (maxSteps := 20000000) only [go_sem, zL, ↓reduceIte, reduceCtorEq, Nat.reduceAdd, Nat.reduceMul, Nat.reduceSub, Nat.reduceLeDiff, Nat.reduceEqDiff, Nat.reduceLT, Nat.reduceBEq, Int.reduceEq, hP, hX, addr_add, Nat.mul_one, Nat.zero_add, Option.isNone_some, Option.isNone_none]; rfl)) : P := h.symm ▸ k
theorem zs24 {P Q : Prop} (k : Q) (h : P = Q := by (simp (maxSteps := 20000000) only [go_sem, zL, ↓reduceIte, reduceCtorEq, Nat.reduceAdd, Nat.reduceMul, Nat.reduceSub, Nat.reduceLeDiff, Nat.reduceEqDiff, Nat.reduceLT, Nat.reduceBEq, Int.reduceEq, hP, hX, emax]; rfl)) : P := h.symm ▸ k
theorem zs26 {P Q : Prop} (k : Q) (h : P = Q := by (simp (maxSteps := 20000000) only [go_sem, zL, ↓reduceIte, reduceCtorEq, Nat.reduceAdd, Nat.reduceMul, Nat.reduceSub, Nat.reduceLeDiff, Nat.reduceEqDiff, Nat.reduceLT, Nat.reduceBEq, Int.reduceEq, hP, hX, treeC, fitC, hkk, Int.reduceSub, Int.natCast_zero, Int.sub_zero, Int.cast_ofNat_Int, Int.le_refl]; rfl)) : P := h.symm ▸ k
theorem zs27 {P Q : Prop} (k : Q) (h : P = Q := by (simp (maxSteps := 20000000) only [go_sem, zL, ↓reduceIte, reduceCtorEq, Nat.reduceAdd, Nat.reduceMul, Nat.reduceSub, Nat.reduceLeDiff, Nat.reduceEqDiff, Nat.reduceLT, Nat.reduceBEq, Int.reduceEq, hP, hX, treeC]; rfl)) : P := h.symm ▸ k
theorem zs28 {P Q : Prop} (k : Q) (h : P = Q := by (simp (maxSteps := 20000000) only [go_sem, zL, ↓reduceIte, reduceCtorEq, Nat.reduceAdd, Nat.reduceMul, Nat.reduceSub, Nat.reduceLeDiff, Nat.reduceEqDiff, Nat.reduceLT, Nat.reduceBEq, Int.reduceEq, hP, hX, addr_add, Nat.mul_one, Nat.zero_add, Nat.add_zero, decide_eq_true_eq, decide_eq_false_iff_not, Bool.not_true, Bool.not_false]; rfl)) : P := h.symm ▸ k
theorem zs29 {P Q : Prop} (k : Q) (h : P = Q := by (simp (maxSteps := 20000000) only [go_sem, zL, ↓reduceIte, reduceCtorEq, Nat.reduceAdd, Nat.reduceMul, Nat.reduceSub, Nat.reduceLeDiff, Nat.reduceEqDiff, Nat.reduceLT, Nat.reduceBEq, Int.reduceEq, hP, hX, addr_add, Nat.mul_one, Nat.zero_add, Nat.add_zero, Int.reduceToNat, Int.reduceMul, Int.reduceSub, Nat.reduceMul, Nat.reduceAdd, Option.isSome_some, cut0]; rfl)) : P := h.symm ▸ k
theorem zs30 {P Q : Prop} (k : Q) (h : P = Q := by (simp (maxSteps := 20000000) only [go_sem, zL, ↓reduceIte, reduceCtorEq, Nat.reduceAdd, Nat.reduceMul, Nat.reduceSub, Nat.reduceLeDiff, Nat.reduceEqDiff, Nat.reduceLT, Nat.reduceBEq, Int.reduceEq, hP, hX, N.cells, nodeC, Int.toNat_natCast]; rfl)) : P := h.symm ▸ k
theorem zs31 {P Q : Prop} (k : Q) (h : P = Q := by (simp (maxSteps := 20000000) only [go_sem, zL, ↓reduceIte, reduceCtorEq, Nat.reduceAdd, Nat.reduceMul, Nat.reduceSub, Nat.reduceLeDiff, Nat.reduceEqDiff, Nat.reduceLT, Nat.reduceBEq, Int.reduceEq, hP, hX, hcat]; rfl)) : P := h.symm ▸ k
theorem zs32 {P Q : Prop} (k : Q) (h : P = Q := by (simp (maxSteps := 20000000) only [go_sem, zL, ↓reduceIte, reduceCtorEq, Nat.reduceAdd, Nat.reduceMul, Nat.reduceSub, Nat.reduceLeDiff, Nat.reduceEqDiff, Nat.reduceLT, Nat.reduceBEq, Int.reduceEq, hP, hX, N.cells, nodeC, N.k, N.ty, N.v, N.t, N.fl, N.c, N.kids]; rfl)) : P := h.symm ▸ k
theorem zs33 {P Q : Prop} (k : Q) (h : P = Q := by (simp (maxSteps := 20000000) only [go_sem, zL, ↓reduceIte, reduceCtorEq, Nat.reduceAdd, Nat.reduceMul, Nat.reduceSub, Nat.reduceLeDiff, Nat.reduceEqDiff, Nat.reduceLT, Nat.reduceBEq, Int.reduceEq, hP, hX, addr_add, Nat.mul_one, Nat.zero_add, Nat.add_zero, Option.isNone_some, Option.isNone_none, Int.toNat_natCast, Option.isSome_some, Option.getD_some]; rfl)) : P := h.symm ▸ k
theorem zs34 {P Q : Prop} (k : Q) (h : P = Q := by (simp (maxSteps := 20000000) only [go_sem, zL, ↓reduceIte, reduceCtorEq, Nat.reduceAdd, Nat.reduceMul, Nat.reduceSub, Nat.reduceLeDiff, Nat.reduceEqDiff, Nat.reduceLT, Nat.reduceBEq, Int.reduceEq, hP, hX, N.cells, nodeC, N.k, N.ty, N.v, N.t, N.fl, N.c, N.kids, List.length_cons, List.length_nil, addr_add, Nat.mul_one, Nat.add_zero]; rfl)) : P := h.symm ▸ k
theorem zs36 {P Q : Prop} (k : Q) (h : P = Q := by (simp (maxSteps := 20000000) only [go_sem, zL, ↓reduceIte, reduceCtorEq, Nat.reduceAdd, Nat.reduceMul, Nat.reduceSub, Nat.reduceLeDiff, Nat.reduceEqDiff, Nat.reduceLT, Nat.reduceBEq, Int.reduceEq, hP, hX, addr_add, Nat.mul_one, Nat.zero_add, Nat.add_zero, Int.toNat_natCast, Int.toNat_zero, e2048, hex, hmt]; rfl)) : P := h.symm ▸ k
theorem zq0 {P : Prop} (h : P := by (simp only [go_sem]); first | done | fail) : P := h
theorem zq1 {P : Prop} (h : P := by (kernel_rfl)) : P := h
theorem zq2 {P : Prop} (h : P := by (rw [hQ]; exact fun c d v a w h => bodyPost_panic h)) : P := h
theorem zq3 {P : Prop} (h : P := by (simp only [go_sem, Nat.reduceEqDiff, ↓reduceIte, true_and, and_self, Nat.reduceLT, decide_true, Bool.and_self]; try rfl); first | done | fail) : P := h
theorem zq4 {P : Prop} (h : P := by (rw [hA]; repeat' first | exact True.intro | exact List.mem_cons_self .. | refine List.mem_cons_of_mem _ ?_ | refine ⟨rfl, ?_, ?_⟩); first | done | fail) : P := h
theorem zq5 {P : Prop} (h : P := by (simp only [go_sem, Nat.reduceEqDiff, ↓reduceIte, true_and, and_self, Nat.reduceLT, decide_true, Bool.and_self, List.length_nil]; try rfl); first | done | fail) : P := h
theorem zq6 {P : Prop} (h : P := by (simp only [go_sem, addr_add, Nat.mul_one, Nat.zero_add, Nat.add_zero]; try rfl); first | done | fail) : P := h
theorem zq7 {P : Prop} (h : P := by (simp only [go_sem, Nat.reduceEqDiff, ↓reduceIte, true_and, and_self]; try first | rfl | exact svI (by omega) | exact svI (by simp only [List.length_append, List.length_cons, List.length_nil]; omega)); first | done | fail) : P := h
theorem zq8 {P : Prop} (h : P := by (exact fun h => h)) : P := h
theorem zq9 {P : Prop} (h : P := by (exact fun _ => True.intro)) : P := h
theorem zq10 {P : Prop} (h : P := by (simp only [go_sem, Nat.reduceEqDiff, ↓reduceIte, Int.ofNat_zero, Int.cast_ofNat_Int, true_and, and_self]; try rfl); first | done | fail) : P := h
theorem zq11 {P : Prop} (h : P := by (simp only [go_sem, Nat.reduceEqDiff, ↓reduceIte, true_and, and_self]; try (repeat' first | exact True.intro | with_reducible rfl | exact svI (by omega) | exact svI (by simp only [wrapU64_eq]; omega) | refine And.intro ?_ ?_)); first | done | fail) : P := h
theorem zq12 {P : Prop} (h : P := by (exact one_cell (cell_hp hgx rfl))) : P := h
theorem zq13 {P : Prop} (h : P := by (rw [hA]; exact List.mem_cons_self ..)) : P := h
theorem zq14 {P : Prop} (h : P := by (intro t' cs' hm; simp only [List.mem_cons, Prod.mk.injEq, List.not_mem_nil, or_false] at hm; omega); first | done | fail) : P := h
theorem zq15 {P : Prop} (h : P := by (exact List.mem_cons_self ..)) : P := h
theorem zq16 {P : Prop} (h : P := by (intro n js hm hn; cases hn)) : P := h
theorem zq17 {P : Prop} (h : P := by (simp only [go_sem, Nat.reduceEqDiff, ↓reduceIte, true_and, and_self]; try (repeat' first | exact True.intro | with_reducible rfl | exact svI (by omega) | refine And.intro ?_ ?_)); first | done | fail) : P := h
theorem zq18 {P : Prop} (h : P := by (exact one_cell (cell_hp htk rfl))) : P := h
theorem zq19 {P : Prop} (h : P := by (first | exact wanted_none rfl | exact wanted_of rfl rfl rfl (by simp only [go_sem])); first | done | fail) : P := h
theorem zq20 {P : Prop} (h : P := by (simp only [go_sem, addr_add, Nat.mul_one, Nat.zero_add, Nat.add_zero]; try exact ⟨rfl, rfl⟩); first | done | fail) : P := h
theorem zq21 {P : Prop} (h : P := by (exact absurd h.1 (by decide))) : P := h
theorem zq22 {P : Prop} (h : P := by (exact News_sl _ (by simp only [go_sem]; rfl) rfl rfl (fun _ _ => .inr True.intro)); first | done | fail) : P := h
theorem zq23 {P : Prop} (h : P := by (intro a w r own hSim; simp only [go_sem]; with_reducible exact c30n _); first | done | fail) : P := h
theorem zq24 {P : Prop} (h : P := by (intro _ _; rfl)) : P := h
theorem zq25 {P : Prop} (h : P := by (intro a w r own hSim; rw [hX] at hSim; exact cell_hp (Hp.of hgx hSim) rfl)) : P := h
theorem zq26 {P : Prop} (h : P := by (simp only [go_sem, Nat.reduceEqDiff, ↓reduceIte, true_and, and_self]; try rfl); first | done | fail) : P := h
theorem zq27 {P : Prop} (h : P := by (simp only [go_sem]; try rfl); first | done | fail) : P := h
theorem zq28 {P : Prop} (h : P := by (rw [hX]; exact List.mem_singleton_self _)) : P := h
theorem zq29 {P : Prop} (h : P := by (exact hFm gx hFg)) : P := h
theorem zq30 {P : Prop} (h : P := by (exact fun _ => ltL_va _ _)) : P := h
theorem zq31 {P : Prop} (h : P := by (intro n js hm hn; obtain rfl : n = 0 := (by simpa using hn); simp [roOf] at hm; subst hm; decide); first | done | fail) : P := h
theorem zq32 {P : Prop} (h : P := by (exact fun _ => ltLb_ok rfl)) : P := h
theorem zq33 {P : Prop} (h : P := by (exact fun _ t ht => by cases ht)) : P := h
theorem zq34 {P : Prop} (h : P := by (simp only [go_sem, Nat.reduceEqDiff, ↓reduceIte, true_and, and_self, Int.reduceAdd]; try (repeat' first | exact True.intro | with_reducible rfl | exact svI (by omega) | exact svBt (by omega) | exact svBf (by omega) | exact svBd (by omega) | refine And.intro ?_ ?_)); first | done | fail) : P := h
theorem zq35 {P : Prop} (h : P := by (exact fun _ => tu2lt _ _)) : P := h
theorem zq36 {P : Prop} (h : P := by (intro a w r own hSim; simp only [go_sem]; rw [hX] at hSim; have hbb := (hSim.frm.block b (hFl b hFb) (hFm b hFb)).trans hb; with_reducible exact c47 _ _ _ hbb); first | done | fail) : P := h
theorem zq37 {P : Prop} (h : P := by (intro a w r own hSim; rw [hX] at hSim; exact c225 _ b (Hp.of hb hSim))) : P := h
theorem zq38 {P : Prop} (h : P := by (intro a w r own hSim; rw [hX] at hSim; exact c224 _ b (Hp.of hb hSim))) : P := h
theorem zq39 {P : Prop} (h : P := by (intro a w r own hSim; simp only [go_sem]; rw [hX] at hSim; have hc := c76 _ tk p ty c t (Hp.of htk hSim) (Hp.of hp hSim); simp only [List.map_cons, List.map_nil] at hc; with_reducible exact hc); first | done | fail) : P := h
theorem zq40 {P : Prop} (h : P := by (simp [hit_prs, prsl, hit_nil]); first | done | fail) : P := h
theorem zq41 {P : Prop} (h : P := by (simp only [go_sem, Nat.reduceEqDiff, ↓reduceIte, true_and, and_self]); first | done | fail) : P := h
theorem zq42 {P : Prop} (h : P := by (rw [hQ]; exact fun c d v a w h => bodyPost_panic (P := Tryz.prog) (fn := Tryz.f152) h)) : P := h
theorem zq43 {P : Prop} (h : P := by (simp only [go_sem, Nat.reduceEqDiff, ↓reduceIte, Int.ofNat_zero, Int.cast_ofNat_Int, true_and, and_self]); first | done | fail) : P := h
theorem zq44 {P : Prop} (h : P := by (rw [hA]; exact List.mem_cons_of_mem _ (List.mem_cons_of_mem _ (List.mem_cons_self ..)))) : P := h
theorem zq45 {P : Prop} (h : P := by (simp only [List.length_cons, List.length_nil]; omega); first | done | fail) : P := h
theorem zq46 {P : Prop} (h : P := by (simp only [go_sem, hP, ↓reduceIte, reduceCtorEq, Nat.reduceAdd, Nat.reduceEqDiff, Nat.zero_add, Nat.add_zero, and_self]); first | done | fail) : P := h
theorem zq47 {P : Prop} (h : P := by (intro a w r own hSim; simp only [go_sem]; with_reducible exact c32 k 4 (by decide) (by decide) _); first | done | fail) : P := h
theorem zq48 {P : Prop} (h : P := by (exact Option.isSome_iff_exists.1 e2)) : P := h
theorem zq49 {P : Prop} (h : P := by (intro y hy; simp only [List.mem_cons, List.not_mem_nil, or_false] at hy; subst hy; (rw [hA]; refine ⟨by dsimp only; decide, ?_⟩; first | exact List.mem_cons_self ..)); first | done | fail) : P := h
theorem zq50 {P : Prop} (h : P := by (intro a w r own hSim; simp only [go_sem]; with_reducible exact c32 _ 4 (by decide) (by decide) _); first | done | fail) : P := h
theorem zq51 {P : Prop} (h : P := by (intro a w r own hSim; simp only [go_sem]; with_reducible exact c34 an (by omega) _); first | done | fail) : P := h
theorem zq52 {P : Prop} (h : P := by (rw [hA]; exact List.mem_cons_of_mem _ (List.mem_cons_self ..))) : P := h
theorem zq53 {P : Prop} (h : P := by (exact Option.isSome_iff_exists.1 h)) : P := h
theorem zq54 {P : Prop} (h : P := by (intro a w r own hSim; simp only [go_sem]; exact c77 _ _); first | done | fail) : P := h
theorem zq55 {P : Prop} (h : P := by (rw [hA]; exact (by simp only [Sel, List.mem_cons, true_or, or_true, and_self])); first | done | fail) : P := h
theorem zq56 {P : Prop} (h : P := by (intro a w r own hSim; simp only [go_sem]; rw [hX] at hSim; have hb := hSim.blk (n := 0) (t := 60) (cs := [.int .i64 63, .int .i64 (lf - 1), .slice sa sn sc]) (List.mem_cons_self ..); with_reducible exact c33 _ _ (lf - 1) sa sn sc _ hb (by decide)); first | done | fail) : P := h
theorem zq57 {P : Prop} (h : P := by (intro a w r own hSim; simp only [go_sem]; rw [hX] at hSim; have hb := hSim.blk (n := 0) (t := 60) (cs := [.int .i64 63, .int .i64 (lf - 1), .slice sa sn sc]) (List.mem_cons_self ..); with_reducible exact c35 tg _ (lf - 1) _ sa sn sc (by omega) _ hb); first | done | fail) : P := h
theorem zq58 {P : Prop} (h : P := by (intro a w r own hSim; simp only [go_sem]; have hc := c40 w (r 0) 1 (col) (by omega) (by omega) (hSim.blk (cs := [.int .i64 1, .int .i64 (col)]) (List.mem_cons_self ..)); simp only [placeC] at hc; (with_reducible refine hc.mono fun e w' hr => ?_); exact RetN.weak hr fun k hk => hk.elim); first | done | fail) : P := h
theorem zq59 {P : Prop} (h : P := by (simp only [go_sem, Nat.reduceEqDiff, ↓reduceIte, true_and, and_self]; try (repeat' first | exact True.intro | with_reducible rfl | exact svI (by omega) | exact svBt (by omega) | exact svBf (by omega) | exact svBd (by omega) | exact svI (by simp only [wrapU64_eq]; omega) | refine And.intro ?_ ?_)); first | done | fail) : P := h
theorem zq60 {P : Prop} (h : P := by (intro a w r own hSim; simp only [go_sem]; with_reducible exact c28 _ _); first | done | fail) : P := h
theorem zq61 {P : Prop} (h : P := by (intro a w r own hSim; simp only [go_sem]; with_reducible exact c32 st 5 (by decide) (by decide) _); first | done | fail) : P := h
theorem zq62 {P : Prop} (h : P := by (intro a w r own hSim; simp only [go_sem]; with_reducible exact c32 _ 5 (by decide) (by decide) _); first | done | fail) : P := h
theorem zq63 {P : Prop} (h : P := by (have := hfit.2.1; have := hfit.1; omega)) : P := h
theorem zq64 {P : Prop} (h : P := by (rw [hQ]; exact fun c d v a w h => PQ_panic h)) : P := h
theorem zq65 {P : Prop} (h : P := by (simp only [go_sem, addr_add, Nat.mul_one, Nat.zero_add, Int.toNat_natCast]); first | done | fail) : P := h
theorem zq66 {P : Prop} (h : P := by (intro a w r own hSim; simp only [go_sem]; with_reducible exact c141 (T.extract 0 i) 1 18 (by rw [ByteArray.size_extract]; omega) _); first | done | fail) : P := h
theorem zq67 {P : Prop} (h : P := by (intro a w r own hSim; simp only [go_sem]; with_reducible exact c141 (T.extract (i + 1) T.size) 1 6 (by rw [ByteArray.size_extract]; omega) _); first | done | fail) : P := h
theorem zq68 {P : Prop} (h : P := by (rw [hA]; exact List.mem_cons_of_mem _ (List.mem_cons_of_mem _ (List.mem_cons_of_mem _ (List.mem_cons_self ..))))) : P := h
theorem zq69 {P : Prop} (h : P := by (intro a w r own hSim; simp only [go_sem]; rw [hX] at hSim; have hb := hSim.blk (n := 0) (t := 60) (cs := [.int .i64 63, .int .i64 (lf - 1), .slice sa sn sc]) (List.mem_cons_self ..); have hc := c36 v ya yt (1 + (((st.tmod 5 + 5).tmod 5 - 1).tmod 5 + 5).tmod 5) (lf - 1) fl (r 0) sa sn sc (by omega) (by omega) w hb; simp only [treeC] at hc; (with_reducible refine hc.mono fun e w' hr => ?_); exact hr); first | done | fail) : P := h
theorem zq70 {P : Prop} (h : P := by (exact (numR_k h (by decide)).elim (fun h => absurd h (by decide)) (fun h => absurd h (by decide)))) : P := h
theorem zq71 {P : Prop} (h : P := by (exact absurd h.1 (by rcases hk with rfl | rfl <;> decide))) : P := h
theorem zq72 {P : Prop} (h : P := by (simp only [go_sem, Nat.reduceEqDiff, ↓reduceIte, true_and, and_self]; try (repeat' first | exact True.intro | with_reducible rfl | refine And.intro ?_ ?_)); first | done | fail) : P := h
theorem zq73 {P : Prop} (h : P := by (intro a w r own hSim; simp only [go_sem]; with_reducible exact c179b u ⟨#[48, 120]⟩ false hW.ux _); first | done | fail) : P := h
theorem zq74 {P : Prop} (h : P := by (intro a w r own hSim; simp only [go_sem]; with_reducible exact c179b u ⟨#[48, 111]⟩ false hW.uo _); first | done | fail) : P := h
theorem zq75 {P : Prop} (h : P := by (intro a w r own hSim; simp only [go_sem]; with_reducible exact c179b u ⟨#[48, 98]⟩ false hW.ub _); first | done | fail) : P := h
theorem zq76 {P : Prop} (h : P := by (intro a w r own hSim; simp only [go_sem]; with_reducible exact c179b u ⟨#[48]⟩ _ (hp48 u hW.u0) _); first | done | fail) : P := h
theorem zq77 {P : Prop} (h : P := by (intro a w r own hSim; simp only [go_sem]; with_reducible exact c181 u hW.u0 hW.us hW.u95 _); first | done | fail) : P := h
theorem zq78 {P : Prop} (h : P := by (exfalso; have := congrArg List.length e2; simp only [List.length_map, List.length_nil] at this; omega); first | done | fail) : P := h
theorem zq79 {P : Prop} (h : P := by (intro a w r own hSim; rw [hX] at hSim; simp only [go_sem]; have hGs := (hG.of hSim (fun k hk h => h)); have hc := hb0 _ FG hGs F ka0 kc0 (hg0.of0s hSim hF) (fun k hk => Nat.lt_of_lt_of_le (hF k hk) hSim.frm.size); simp only [N.cells, nodeC, N.k, N.ty, N.v, N.t, N.fl, N.c, N.kids, bldR] at hc; with_reducible exact hc); first | done | fail) : P := h
theorem zq80 {P : Prop} (h : P := by (intro a w r own hSim; simp only [go_sem]; with_reducible exact c153u _ _); first | done | fail) : P := h
theorem zq81 {P : Prop} (h : P := by (intro a w r own hSim; simp only [go_sem]; have hc := c40 w (r 0) 1 ((col + 1)) (by omega) (by omega) (hSim.blk (cs := [.int .i64 1, .int .i64 ((col + 1))]) (List.mem_cons_self ..)); simp only [placeC] at hc; (with_reducible refine hc.mono fun e w' hr => ?_); exact RetN.weak hr fun k hk => hk.elim); first | done | fail) : P := h
theorem zq82 {P : Prop} (h : P := by (intro a w r own hSim; simp only [go_sem]; have hb := hSim.blk (n := 0) (t := 65) (cs := [.int .i64 1, .int .i64 col0]) (List.mem_cons_self ..); rw [hX] at hSim; have hc := hN w (r 0) col0 tk ka1 kc1 F q hb (by omega) (by omega) (GS.ofG hSim hF hgs1) (FofG hSim hF) (hgood tk htm) (fun h => noPlus_kid (hq h) htm) trivial; simp only [treeC] at hc; (with_reducible refine hc.mono fun e w' hr => ?_); exact RetN.weak hr fun k hk => hk.elim); first | done | fail) : P := h
theorem zq83 {P : Prop} (h : P := by (simp only [go_sem, Nat.reduceEqDiff, ↓reduceIte, Int.ofNat_zero, Int.cast_ofNat_Int, true_and, and_self, Int.reduceAdd, Bool.false_eq_true]; try rfl); first | done | fail) : P := h
theorem zq84 {P : Prop} (h : P := by (simp only [go_sem, Nat.reduceEqDiff, ↓reduceIte, true_and, and_self, Int.reduceAdd]; try first | rfl | exact svI (by omega) | exact svI (by simp only [List.length_append, List.length_cons, List.length_nil]; omega)); first | done | fail) : P := h
theorem zq85 {P : Prop} (h : P := by (simp only [go_sem, Nat.reduceEqDiff, ↓reduceIte, Int.ofNat_zero, Int.cast_ofNat_Int, true_and, and_self, Int.reduceAdd, Int.ofNat_zero, Int.natCast_zero, Int.cast_ofNat_Int]; try (repeat' first | exact True.intro | with_reducible rfl | exact svI (by omega) | exact svBf (by omega) | refine And.intro ?_ ?_)); first | done | fail) : P := h
theorem zq86 {P : Prop} (h : P := by (simp only [go_sem, Nat.reduceEqDiff, ↓reduceIte, Int.ofNat_zero, Int.natCast_zero, Int.cast_ofNat_Int, Int.reduceAdd, true_and, and_self]; try (repeat' first | exact True.intro | with_reducible rfl | exact svI (by omega) | exact svBf (by omega) | exact svBt (by omega) | exact svBd (by omega) | refine And.intro ?_ ?_)); first | done | fail) : P := h
theorem zq87 {P : Prop} (h : P := by (simp only [go_sem, Nat.reduceEqDiff, ↓reduceIte, Int.ofNat_zero, Int.cast_ofNat_Int, true_and, and_self]; try (repeat' first | exact True.intro | with_reducible rfl | exact svI (by omega) | refine And.intro ?_ ?_)); first | done | fail) : P := h
theorem zq88 {P : Prop} (h : P := by (simp only [go_sem, addr_add, Nat.mul_one, Nat.zero_add, Nat.add_zero]); first | done | fail) : P := h
theorem zq89 {P : Prop} (h : P := by (exact fun z => ltL_va 0 [.int .i64 k1, .int .i64 ty1, .string z.1, .string t1, .string t1, .string ⟨#[]⟩, .bool fl1, .bool false, .bool false, .int .i64 1, .int .i64 c1, .int .i64 c1, .int .i64 0, .int .i64 0, .slice none 0 0, .slice none 0 0, .slice none 0 0, .slice none 0 0, .slice z.2.1 z.2.2.1 z.2.2.2])) : P := h
theorem zq90 {P : Prop} (h : P := by (simp only [hit_prs, hit_prsl1, List.length_append, Nat.add_assoc]); first | done | fail) : P := h
theorem zq91 {P : Prop} (h : P := by (simp only [go_sem, Nat.reduceEqDiff, ↓reduceIte, true_and, and_self]; try (repeat' first | exact True.intro | with_reducible rfl | exact svI (by omega) | refine And.intro ?_ ?_ | (exact rfl))); first | done | fail) : P := h
theorem zq92 {P : Prop} (h : P := by (intro a w r own hSim; simp only [go_sem]; have hc := c20 w k2 st2 v2 an2 tg2 ka2 kids2.length kc2; simp only [treeC] at hc; with_reducible exact hc); first | done | fail) : P := h
theorem zq93 {P : Prop} (h : P := by (intro y hy; simp only [List.mem_cons, List.not_mem_nil, or_false] at hy; rcases hy with rfl | rfl <;> (rw [hA]; refine ⟨by dsimp only; decide, ?_⟩; first | exact List.mem_cons_self .. | exact List.mem_cons_of_mem _ (List.mem_cons_of_mem _ (List.mem_cons_self ..)))); first | done | fail) : P := h
theorem zq94 {P : Prop} (h : P := by (intro a w r own hSim; simp only [go_sem]; have hc := c39_8 w 31 an 1 (1 + (col + 1 - 1).tmod 200) (1 + (col + 1 - 1).tmod 200) 0 0; simp only [nodeC, List.map_cons, List.map_nil] at hc; with_reducible exact hc); first | done | fail) : P := h
theorem zq95 {P : Prop} (h : P := by (intro a w r own hSim hDD; simp only [go_sem]; exact c171 _ _ _ _ _ _ _ hDD (by omega) (by omega) ⟨by omega, by omega⟩); first | done | fail) : P := h
theorem zq96 {P : Prop} (h : P := by (simp only [go_sem, Nat.reduceEqDiff, ↓reduceIte, true_and, and_self]; try first | rfl | exact svI (by omega) | exact ⟨by rw [hT1], svI (by omega)⟩ | exact svI (by simp only [List.length_append, List.length_cons, List.length_nil]; omega)); first | done | fail) : P := h
theorem zq97 {P : Prop} (h : P := by (intro a w r own hSim; rw [hX] at hSim; simp only [go_sem]; have hGs := (hG.of hSim (fun k hk h => h)); with_reducible exact h96 _ hGs); first | done | fail) : P := h
theorem zq98 {P : Prop} (h : P := by (intro a w r own hSim; simp only [go_sem]; rw [hX] at hSim; with_reducible exact c74 _ g0 b0 tk0 p0 ty0 v0 t0 (Hp.of hg0 hSim) (Hp.of htk0 hSim)); first | done | fail) : P := h
theorem zq99 {P : Prop} (h : P := by (intro a w r own hSim; simp only [go_sem]; rw [hX] at hSim; have hc := hk _ hxm _ FG (hG.of hSim (fun k hk h => h)) hf1 hf2 hf3 F d (hatx.ext (fun _ h => h) fun k hk => hSim.frm.block k (hF k hk) (fun h => h)) (fun k hk => Nat.lt_of_lt_of_le (hF k hk) hSim.frm.size); simp only [NdR, nodeC, N.k, N.ty, N.v, N.t, N.fl, N.c, List.map_cons, List.map_nil] at hc; with_reducible exact hc); first | done | fail) : P := h
theorem zq100 {P : Prop} (h : P := by (intro a w r own hSim; rw [hX] at hSim; simp only [go_sem]; have hGs := (hG.of hSim (fun k hk h => h)); have hc := hb1 _ FG hGs F ka1 kc1 (hg1.of0s hSim hF) (fun k hk => Nat.lt_of_lt_of_le (hF k hk) hSim.frm.size); simp only [N.cells, nodeC, N.k, N.ty, N.v, N.t, N.fl, N.c, N.kids, bldR] at hc; with_reducible exact hc); first | done | fail) : P := h
theorem zz {E E2 : En} {X : Cx} {A0 A : Facts} {R : Exit -> Act -> World -> Prop} {G : Prop} (k : E2.X = X -> E2.X.P = Tryz.prog -> E2.A = A -> E2.Q = R -> G) (h1 : E2.X = E.X := by exact h1) (h2 : E2.A = A0 := by exact h2) (h3 : E2.Q = E.Q := by exact h3) (hX : E.X = X := by exact hX) (hQ : E.Q = R := by exact hQ) (e : A0 = A := by (simp only [hA, go_sem, zF, Nat.reduceBEq, Nat.reduceAdd, ↓reduceIte]; rfl)) (hx : X.P = Tryz.prog := by rfl) : G :=
 k (h1.trans hX) (by rw [h1, hX]; exact hx) (h2.trans e) (h3.trans hQ)
theorem zy {E E2 : En} {X : Cx} {A0 A : Facts} {R : Exit -> Act -> World -> Prop} {G : Prop} (k : E2.X = X -> E2.X.P = Tryz.prog -> E2.A = A -> E2.Q = R -> G) (h1 : E2.X = E.X := by exact h1) (h2 : E2.A = A0 := by exact h2) (h3 : E2.Q = E.Q := by exact h3) (hX : E.X = X := by exact hX) (hQ : E.Q = R := by exact hQ) (e : A0 = A := by (simp only [hA, outF, go_sem, zF, Nat.reduceBEq, Nat.reduceAdd, ↓reduceIte]; rfl)) (hx : X.P = Tryz.prog := by rfl) : G :=
 k (h1.trans hX) (by rw [h1, hX]; exact hx) (h2.trans e) (h3.trans hQ)
theorem zl {E' : En} {X : Cx} {A : Facts} {R : Exit -> Act -> World -> Prop} {G : Prop} (k : E'.X = X -> E'.X.P = Tryz.prog -> E'.A = A -> E'.Q = R -> G) (h1 : E'.X = X := by exact hX') (h2 : E'.A = A := by first | exact hA'.trans hA | exact hA') (h3 : E'.Q = R := by exact hQ'.trans hQ) (hx : X.P = Tryz.prog := by rfl) : G :=
 k h1 (by rw [h1]; exact hx) h2 h3
structure zQ (p : Prop) : Prop where
 v : p
def zJ (p q A B : Prop) : Prop := (p -> A) /\ (q -> B)
theorem zI {p q A B : Prop} (h1 : p -> A) (h2 : q -> B) : zJ p q A B := ⟨h1, h2⟩
theorem zE1 {E : En} {n : Nat} {k : Kt} {S : St} {d : Tmp} {ops l : List Oper} {o : Oper} {want : Bool} {p A B : Prop} [Decidable p] (h1 : p -> A -> vg E n true want d ops o l k S) (h2 : ¬ p -> B -> vg E n false want d ops o l k S) : zJ p (¬ p) A B -> vg E n (decide p) want d ops o l k S := fun h => zd1 (fun x => h1 x (h.1 x)) (fun x => h2 x (h.2 x))
theorem zE2 {E : En} {n : Nat} {t e : Code} {k : Kt} {S : St} {p A B : Prop} [Decidable p] (h1 : p -> A -> vb E n true t e k S) (h2 : ¬ p -> B -> vb E n false t e k S) : zJ p (¬ p) A B -> vb E n (decide p) t e k S := fun h => zd2 (fun x => h1 x (h.1 x)) (fun x => h2 x (h.2 x))
theorem zE3 {E : En} {n : Nat} {k : Kt} {S : St} {d : Tmp} {ops l : List Oper} {o : Oper} {want : Bool} {p A B : Prop} [Decidable p] (h1 : ¬ p -> A -> vg E n true want d ops o l k S) (h2 : p -> B -> vg E n false want d ops o l k S) : zJ (¬ p) p A B -> vg E n (!decide p) want d ops o l k S := fun h => zd3 (fun x => h1 x (h.1 x)) (fun x => h2 x (h.2 x))
theorem zE4 {E : En} {n : Nat} {t e : Code} {k : Kt} {S : St} {p A B : Prop} [Decidable p] (h1 : ¬ p -> A -> vb E n true t e k S) (h2 : p -> B -> vb E n false t e k S) : zJ (¬ p) p A B -> vb E n (!decide p) t e k S := fun h => zd4 (fun x => h1 x (h.1 x)) (fun x => h2 x (h.2 x))
theorem zA {P Q : Prop} (k : Q) (h : Q -> P := by
 first
 | with_reducible exact fun k => WX_fin hX rfl hQ (.inl rfl) k
 | ((first | apply zE1 | apply zE2 | apply zE3 | apply zE4); (intro hdec; first | (rw [zt hdec]; exact fun k => k) | (rw [zf hdec]; exact fun k => k) | exact fun k => k); intro hdec; first | (rw [zt hdec]; exact fun k => k) | (rw [zf hdec]; exact fun k => k) | exact fun k => k)
 | fail) : P := h k
theorem zB {P Q : Prop} (k : Q) (h : Q -> P := by
 first
 | with_reducible exact fun k => WX_fin hX rfl hQ (.inl rfl) k
 | ((first | apply zE1 | apply zE2 | apply zE3 | apply zE4); (intro hdec; first | (refine fun _ : True => ?_; exact zqd) | (rw [zt hdec]; exact fun k => k) | (rw [zf hdec]; exact fun k => k) | exact fun k => k); intro hdec; first | (refine fun _ : True => ?_; exact zqd) | (rw [zt hdec]; exact fun k => k) | (rw [zf hdec]; exact fun k => k) | exact fun k => k)
 | fail) : P := h k
theorem zC {P Q : Prop} (k : Q) (h : Q -> P := by
 first
 | with_reducible exact fun k => WX_fin hX rfl hQ (.inl rfl) k
 | ((first | apply zE1 | apply zE2 | apply zE3 | apply zE4); (intro hdec; first | (refine fun _ : True => ?_; exfalso; omega) | (rw [zt hdec]; exact fun k => k) | (rw [zf hdec]; exact fun k => k) | exact fun k => k); intro hdec; first | (refine fun _ : True => ?_; exfalso; omega) | (rw [zt hdec]; exact fun k => k) | (rw [zf hdec]; exact fun k => k) | exact fun k => k)
 | fail) : P := h k
theorem zcS {E : En} {ops l : List Oper} {k : Kt} {S : St} {c : Call} {dst : Option Tmp} {ty : TypeId} {pos : String} {after : Array Edge} {guard : Option (Nat × Bool)} (f : FuncId) (sv : SV) (hcall : ∀ a w r own, Sim E.X S E.A a w r own -> Calls Tryz.prog f ((c.args.toList.map fun x => (ev S x).den r).toArray) w (RetS sv w)) (h : vl E 900 ops l k (S.put dst sv)) (hc : c.callee = .value (.func f) := by rfl) (hP : E.X.P = Tryz.prog := by exact hP) (hf : callable Tryz.prog f = true := by kernel_rfl) (hk : (c.args.toList.all fun x => (ev S x).known) = true := by (simp only [go_sem]); first | done | fail) (hl : sv.ltb 0 = true := by rfl) : WO E ops ⟨dst, .call c, ty, pos, after, guard⟩ l k S := WO_callS 900 sv hP hc hf hk hl hcall h
theorem zdS {E : En} {g : Rg} {i : Nat} {s : Sch} {k : Kt} {S : St} {c : Call} {dst : Option Tmp} {ty : TypeId} {pos : String} {after : Array Edge} {guard : Option (Nat × Bool)} (f : FuncId) (sv : SV) (hcall : ∀ a w r own, Sim E.X S E.A a w r own -> Calls Tryz.prog f ((c.args.toList.map fun x => (ev S x).den r).toArray) w (RetS sv w)) (h : vd E 900 g k s (S.put dst sv)) (hQ : QP E.Q := by (rw [hQ]; exact fun c d v a w h => bodyPost_panic h)) (hc : c.callee = .value (.func f) := by rfl) (hP : E.X.P = Tryz.prog := by exact hP) (hf : callable Tryz.prog f = true := by kernel_rfl) (hk : (c.args.toList.all fun x => (ev S x).known) = true := by (simp only [go_sem]); first | done | fail) (hl : sv.ltb 0 = true := by rfl) : WD E g k i ⟨dst, .call c, ty, pos, after, guard⟩ s S := WD_callS 900 sv hQ hP hc hf hk hl hcall h
theorem zc0 {E : En} {ops l : List Oper} {k : Kt} {S : St} {c : Call} {dst : Option Tmp} {ty : TypeId} {pos : String} {after : Array Edge} {guard : Option (Nat × Bool)} {α : Type} (f : FuncId) (res : α -> SV) (φ : α -> Prop) (hcall : ∀ a w r own, Sim E.X S E.A a w r own -> Calls Tryz.prog f ((c.args.toList.map fun x => (ev S x).den r).toArray) w (Ret0 res φ w)) (h : ∀ x, φ x -> vl E 900 ops l k (S.put dst (res x))) (hc : c.callee = .value (.func f) := by rfl) (hP : E.X.P = Tryz.prog := by exact hP) (hf : callable Tryz.prog f = true := by kernel_rfl) (hk : (c.args.toList.all fun x => (ev S x).known) = true := by (simp only [go_sem]); first | done | fail) (hl : ∀ x, (res x).lt 0 := by exact fun _ => True.intro) : WO E ops ⟨dst, .call c, ty, pos, after, guard⟩ l k S := WO_call0 900 res φ hP hc hf hl hk hcall h
theorem zu {E : En} {ops : Array Oper} {k : Kt} {S : St} (id : Nat) (sch : Sch) (js : List Nat) (h : vd E 900 ⟨ops.toList, js, [], roOf js [] S.h, S.n⟩ k sch S) (hP : E.X.P = Tryz.prog := by exact hP) (hQ : QP E.Q := by (rw [hQ]; exact fun c d v a w h => bodyPost_panic h)) (hs : schOk ops js [] ops.size (Array.replicate ops.size false) sch = true := by kernel_rfl) : WC E (.region id ops true) k S := WC_drawn 900 sch js [] hP zk hQ hs h
theorem zG7 {E : En} {X : Cx} {S : St} {k : Kt} {J : Act -> World -> Prop} {S' : St} {A' : Facts} (σ : List (Nat × Nat)) (hJ : ∀ a w r own, Sim X S' A' a w r own -> J a w) (hX : E.X = X := by exact hX) (ht : leT S'.t S.t := by (simp only [go_sem, Nat.reduceEqDiff, ↓reduceIte, true_and, and_self]; try first | rfl | exact svI (by omega) | exact svI (by simp only [List.length_append, List.length_cons, List.length_nil]; omega)); first | done | fail) (hh : leH S'.h S.h := by (simp only [go_sem, Nat.reduceEqDiff, ↓reduceIte, true_and, and_self, Nat.reduceLT, decide_true, Bool.and_self]; try rfl); first | done | fail) (h1 : ltTb S'.n S'.t = true := by (simp only [go_sem, Nat.reduceEqDiff, ↓reduceIte, true_and, and_self]; try first | rfl | exact svI (by omega) | exact svI (by simp only [List.length_append, List.length_cons, List.length_nil]; omega)); first | done | fail) (h2 : ltHb S'.n S'.h = true := by (simp only [go_sem, Nat.reduceEqDiff, ↓reduceIte, true_and, and_self, Nat.reduceLT, decide_true, Bool.and_self]; try rfl); first | done | fail) (hr : (X.rt.all fun x => decide (x.1 < S'.n)) = true := by rfl)
 (hs : (σ.all fun x => decide (x.2 < S'.m)) = true := by rfl) (hk : (nodupB (σ.map (·.1)) && nodupB (σ.map (·.2))) = true := by rfl) (hA : Sel σ E.A A' := by (rw [hA]; repeat' first | exact True.intro | exact List.mem_cons_self .. | refine List.mem_cons_of_mem _ ?_ | refine ⟨rfl, ?_, ?_⟩); first | done | fail) : WX E .normal (.lp J k) S := WX_lpG S' A' σ hX hJ ht hh h1 h2 hr hs hk hA
theorem zG11 {E : En} {X : Cx} {S : St} {k : Kt} {J : Act -> World -> Prop} {S' : St} {A' : Facts} (σ : List (Nat × Nat)) (hJ : ∀ a w r own, Sim X S' A' a w r own -> J a w) (hX : E.X = X := by exact hX) (ht : leT S'.t S.t := by (simp only [go_sem, Nat.reduceEqDiff, ↓reduceIte, true_and, and_self]; try (repeat' first | exact True.intro | with_reducible rfl | exact svI (by omega) | exact svI (by simp only [wrapU64_eq]; omega) | refine And.intro ?_ ?_)); first | done | fail) (hh : leH S'.h S.h := by (simp only [go_sem, Nat.reduceEqDiff, ↓reduceIte, true_and, and_self, Nat.reduceLT, decide_true, Bool.and_self]; try rfl); first | done | fail) (h1 : ltTb S'.n S'.t = true := by (simp only [go_sem, Nat.reduceEqDiff, ↓reduceIte, true_and, and_self]; try (repeat' first | exact True.intro | with_reducible rfl | exact svI (by omega) | exact svI (by simp only [wrapU64_eq]; omega) | refine And.intro ?_ ?_)); first | done | fail) (h2 : ltHb S'.n S'.h = true := by (simp only [go_sem, Nat.reduceEqDiff, ↓reduceIte, true_and, and_self, Nat.reduceLT, decide_true, Bool.and_self]; try rfl); first | done | fail) (hr : (X.rt.all fun x => decide (x.1 < S'.n)) = true := by rfl)
 (hs : (σ.all fun x => decide (x.2 < S'.m)) = true := by rfl) (hk : (nodupB (σ.map (·.1)) && nodupB (σ.map (·.2))) = true := by rfl) (hA : Sel σ E.A A' := by (rw [hA]; repeat' first | exact True.intro | exact List.mem_cons_self .. | refine List.mem_cons_of_mem _ ?_ | refine ⟨rfl, ?_, ?_⟩); first | done | fail) : WX E .normal (.lp J k) S := WX_lpG S' A' σ hX hJ ht hh h1 h2 hr hs hk hA
theorem zG17 {E : En} {X : Cx} {S : St} {k : Kt} {J : Act -> World -> Prop} {S' : St} {A' : Facts} (σ : List (Nat × Nat)) (hJ : ∀ a w r own, Sim X S' A' a w r own -> J a w) (hX : E.X = X := by exact hX) (ht : leT S'.t S.t := by (simp only [go_sem, Nat.reduceEqDiff, ↓reduceIte, true_and, and_self]; try (repeat' first | exact True.intro | with_reducible rfl | exact svI (by omega) | refine And.intro ?_ ?_)); first | done | fail) (hh : leH S'.h S.h := by (simp only [go_sem, Nat.reduceEqDiff, ↓reduceIte, true_and, and_self, Nat.reduceLT, decide_true, Bool.and_self]; try rfl); first | done | fail) (h1 : ltTb S'.n S'.t = true := by (simp only [go_sem, Nat.reduceEqDiff, ↓reduceIte, true_and, and_self, Nat.reduceLT, decide_true, Bool.and_self]; try rfl); first | done | fail) (h2 : ltHb S'.n S'.h = true := by (simp only [go_sem, Nat.reduceEqDiff, ↓reduceIte, true_and, and_self, Nat.reduceLT, decide_true, Bool.and_self]; try rfl); first | done | fail) (hr : (X.rt.all fun x => decide (x.1 < S'.n)) = true := by rfl)
 (hs : (σ.all fun x => decide (x.2 < S'.m)) = true := by rfl) (hk : (nodupB (σ.map (·.1)) && nodupB (σ.map (·.2))) = true := by rfl) (hA : Sel σ E.A A' := by (rw [hA]; repeat' first | exact True.intro | exact List.mem_cons_self .. | refine List.mem_cons_of_mem _ ?_ | refine ⟨rfl, ?_, ?_⟩); first | done | fail) : WX E .normal (.lp J k) S := WX_lpG S' A' σ hX hJ ht hh h1 h2 hr hs hk hA
theorem zr0 {P : Prop} (h : P := by
 first
 | (intro a w' r own hs'; exact retS_va _ hs'.frm)
 | fail) : P := h
theorem zr1 {P : Prop} (h : P := by
 first
 | (with_reducible show I64 _; unfold I64; omega)
 | fail) : P := h
theorem zr2 {P Q : Prop} (k : Q) (h : zQ Q -> P := by
 first
 | (intro kq; refine zdS 30 (.sc (.va (.slice none 0 0))) ?_ ?_; exact zq23; exact kq.v)
 | fail) : P := h ⟨k⟩
theorem zr3 {P Q : Prop} (k : Q) (h : zQ Q -> P := by
 first
 | (intro kq; refine zcS 30 (.sc (.va (.slice none 0 0))) ?_ ?_; exact zq23; exact kq.v)
 | fail) : P := h ⟨k⟩
theorem zr4 {P Q : Prop} (k : Q) (h : zQ Q -> P := by
 first
 | (intro kq; refine WS_rc 850 (⟨tk, 0, none⟩) ([.int .i64 ty]) false hX ?_ rfl ?_ ?_ ?_ ?_ (fun _ => rfl) ?_; exact zq2; exact zq0; exact zq18; exact zq8; exact sz83; exact kq.v)
 | fail) : P := h ⟨k⟩
theorem zr5 {P Q : Prop} (k : Q) (h : zQ Q -> P := by
 first
 | (intro kq; refine WS_rc 850 (⟨tk, 3, none⟩) ([.string t]) false hX ?_ rfl ?_ ?_ ?_ ?_ (fun _ => rfl) ?_; exact zq2; exact zq0; exact zq18; exact zq8; exact sz9; exact kq.v)
 | fail) : P := h ⟨k⟩
theorem zr6 {P Q : Prop} (k : Q) (h : zQ Q -> P := by
 first
 | (intro kq; refine WS_rc 850 (⟨tk, 4, none⟩) ([.string t]) false hX ?_ rfl ?_ ?_ ?_ ?_ (fun _ => rfl) ?_; exact zq2; exact zq0; exact zq18; exact zq8; exact sz9; exact kq.v)
 | fail) : P := h ⟨k⟩
theorem zr7 {P Q : Prop} (k : Q) (h : zQ Q -> P := by
 first
 | (intro kq; refine WO_LE 850 (LS_rc (⟨gx, 0, none⟩) [ptr b] false hX ?_ ?_ ?_ ?_ (fun _ => rfl)) ?_; exact zq0; exact zq12; exact zq29; exact sz95; exact kq.v)
 | fail) : P := h ⟨k⟩
theorem zr8 {P Q : Prop} (k : Q) (h : zQ Q -> P := by
 first
 | (intro kq; refine zdS 76 (.ag [.va (.int .i64 1), .va (.int .i64 c), .va (.int .i64 c), .va (.int .i64 0), .va (.int .i64 0)]) ?_ ?_; exact zq39; exact kq.v)
 | fail) : P := h ⟨k⟩
theorem zr9 {P Q Q2 : Prop} (k : Q) (k2 : Q2) (h : zQ Q -> zQ Q2 -> P := by
 first
 | (intro kq kr; refine WO_LS 850 (LS_sdg _ _ _ _ _ _ _ hP zw0 ?_ ?_ ?_ ?_ sz5) ?_
    exact zq0; exact zq20
    rotate_left 1
    exact zq0; exact kq.v; exact kr.v)
 | fail) : P := h ⟨k⟩ ⟨k2⟩
theorem zr10 {P Q : Prop} (k : Q) (h : zQ Q -> P := by
 first
 | (intro kq; refine WO_LS 850 (LS_snd _ _ _ _ _ _ _ hP zw0 ?_ ?_ sz3) ?_; exact zq6; exact zq0; exact kq.v)
 | fail) : P := h ⟨k⟩
theorem zr11 {P Q : Prop} (k : Q) (h : zQ Q -> P := by
 first
 | (intro kq; refine WO_LS 850 (LS_sdp _ _ _ _ _ _ _ hP zw0 ?_ ?_ sz3) ?_; exact zq6; exact zq0; exact kq.v)
 | fail) : P := h ⟨k⟩
theorem zr12 {P Q : Prop} (k : Q) (h : zQ Q -> P := by
 first
 | (intro kq; refine WO_LS 850 (LS_sng _ _ _ _ _ _ _ hP zw0 ?_ ?_ sz4) ?_; exact zq6; exact zq0; exact kq.v)
 | fail) : P := h ⟨k⟩
theorem zr13 {P Q : Prop} (k : Q) (h : zQ Q -> P := by
 first
 | (intro kq; refine WO_LS 850 (LS_str _ _ _ _ _ _ _ hP zw0 ?_ ?_ sz4) ?_; exact zq6; exact zq0; exact kq.v)
 | fail) : P := h ⟨k⟩
theorem zr14 {P Q Q2 : Prop} (k : Q) (k2 : Q2) (h : zQ Q -> zQ Q2 -> P := by
 first
 | (intro kq kr; refine WO_LE 850 (LS_ddg _ _ _ _ _ _ _ hP zw0 ?_ ?_ ?_ sz5) ?_
    exact zq0; exact zq20
    rotate_left 1; exact kq.v; exact kr.v)
 | fail) : P := h ⟨k⟩ ⟨k2⟩
theorem zr15 {P Q Q2 Q3 : Prop} (k : Q) (k2 : Q2) (k3 : Q3) (h : zQ Q -> zQ Q2 -> zQ Q3 -> P := by
 first
 | (intro kq kr kt; refine WO_LE 850 (LS_aix 800 1 hP ar268 ?_ ?_ ?_ ?_) ?_
    exact zq0; exact zq0
    rotate_left 2; exact kq.v; exact kr.v; exact kt.v)
 | fail) : P := h ⟨k⟩ ⟨k2⟩ ⟨k3⟩
theorem zr16 {P Q : Prop} (k : Q) (h : zQ Q -> P := by
 first
 | (intro kq; refine WO_LE 850 (LS_dnd _ _ _ _ _ _ _ hP zw0 ?_ sz3) ?_; exact zq6; exact kq.v)
 | fail) : P := h ⟨k⟩
theorem zr17 {P Q : Prop} (k : Q) (h : zQ Q -> P := by
 first
 | (intro kq; refine WO_LE 850 (LS_ddp _ _ _ _ _ _ _ hP zw0 ?_ sz3) ?_; exact zq6; exact kq.v)
 | fail) : P := h ⟨k⟩
theorem zr18 {P Q : Prop} (k : Q) (h : zQ Q -> P := by
 first
 | (intro kq; refine WO_LE 850 (LS_dng _ _ _ _ _ _ _ hP zw0 ?_ sz4) ?_; exact zq6; exact kq.v)
 | fail) : P := h ⟨k⟩
theorem zr19 {P Q : Prop} (k : Q) (h : zQ Q -> P := by
 first
 | (intro kq; refine WO_LE 850 (LS_dtr _ _ _ _ _ _ _ hP zw0 ?_ sz4) ?_; exact zq6; exact kq.v)
 | fail) : P := h ⟨k⟩
theorem zr20 {P : Prop} (h : P := by
 first
 | (intro a w' r own hs'; exact ⟨_, trivial, ⟨_, rfl, fun r => .inr rfl⟩, hs'.frm⟩)
 | fail) : P := h
theorem zr21 {P : Prop} (h : P := by
 first
 | (with_reducible show ¬ ((_ : Int) = _); omega)
 | fail) : P := h
theorem zr22 {P Q : Prop} (k : Q) (h : zQ Q -> P := by
 first
 | (intro kq; refine WS_rc 850 (⟨gx, 1, none⟩) ([ptr tk]) false hX ?_ rfl ?_ ?_ ?_ ?_ (fun _ => rfl) ?_; exact zq2; exact zq0; exact zq12; exact zq8; exact sz82; exact kq.v)
 | fail) : P := h ⟨k⟩
theorem zr23 {P : Prop} (h : P := by
 first
 | (apply WX_lpF _ hX (hJ (i + 1) zo zo); exact zq26; exact zq0; exact zq41; exact zq0; rfl)
 | fail) : P := h
theorem zr24 {P : Prop} (h : P := by
 first
 | (have h0 := szpos (s := s) (by assumption); omega)
 | fail) : P := h
theorem zr25 {P Q : Prop} (k : Q) (h : zQ Q -> P := by
 first
 | (intro kq; refine zcS 32 (.sc (.va (.int .i64 ((k.tmod 4 + 4).tmod 4)))) ?_ ?_; exact zq47; exact kq.v)
 | fail) : P := h ⟨k⟩
theorem zr26 {P Q : Prop} (k : Q) (h : zQ Q -> P := by
 first
 | (intro kq; refine zc0 (α := ByteArray) 34 (fun z => .sc (.va (.string z))) (fun z => z.size <= 8) ?_ ?_; exact zq51; exact kq.v)
 | fail) : P := h ⟨k⟩
theorem zr27 {P Q : Prop} (k : Q) (h : zQ Q -> P := by
 first
 | (intro kq; refine zcS 32 (.sc (.va (.int .i64 ((((k.tmod 4 + 4).tmod 4 - 1).tmod 4 + 4).tmod 4)))) ?_ ?_; exact zq50; exact kq.v)
 | fail) : P := h ⟨k⟩
theorem zr28 {P : Prop} (h : P := by
 first
 | (have h0 := szpos (s := s) (by assumption); unfold I64; omega)
 | fail) : P := h
theorem zr29 {P : Prop} (h : P := by
 first
 | (have := hfit.1; have := hfit.2.1; unfold I64; omega)
 | fail) : P := h
theorem zr30 {P Q Q2 : Prop} (k : Q) (k2 : Q2) (h : zQ Q -> zQ Q2 -> P := by
 first
 | (intro kq kr; refine WQ_ddg 850 _ _ _ _ _ _ _ hP ?_ rfl rfl ?_ zw0 ?_ ?_ ?_ sz5 ?_; exact zq2; exact zq19; exact zq0; exact zq20; exact kq.v; exact kr.v)
 | fail) : P := h ⟨k⟩ ⟨k2⟩
theorem zr31 {P Q : Prop} (k : Q) (h : zQ Q -> P := by
 first
 | (intro kq; refine zc0 (α := ByteArray) 35 (fun z => .sc (.va (.string z))) (fun _ => True) ?_ ?_; exact zq57; exact kq.v)
 | fail) : P := h ⟨k⟩
theorem zr32 {P Q Q2 Q3 : Prop} (k : Q) (k2 : Q2) (k3 : Q3) (h : zQ Q -> zQ Q2 -> zQ Q3 -> P := by
 first
 | (intro kq kr kt; refine WQ_aix 850 800 1 hP ?_ rfl rfl ?_ ar268 ?_ ?_ ?_ ?_ ?_; exact zq2; exact zq19; exact zq0; exact zq0; exact kq.v; exact kr.v; exact kt.v)
 | fail) : P := h ⟨k⟩ ⟨k2⟩ ⟨k3⟩
theorem zr33 {P Q : Prop} (k : Q) (h : zQ Q -> P := by
 first
 | (intro kq; refine WD_q (C := True) (sv := .sc (.va (.int .i64 st))) 850 ?_ ?_ True.intro ?_; exact zq2; exact zq46; exact kq.v)
 | fail) : P := h ⟨k⟩
theorem zr34 {P Q : Prop} (k : Q) (h : zQ Q -> P := by
 first
 | (intro kq; refine WQ_dnd 850 _ _ _ _ _ _ _ hP ?_ rfl rfl ?_ zw0 ?_ sz3 ?_; exact zq2; exact zq19; exact zq6; exact kq.v)
 | fail) : P := h ⟨k⟩
theorem zr35 {P Q : Prop} (k : Q) (h : zQ Q -> P := by
 first
 | (intro kq; refine WQ_ddp 850 _ _ _ _ _ _ _ hP ?_ rfl rfl ?_ zw0 ?_ sz3 ?_; exact zq2; exact zq19; exact zq6; exact kq.v)
 | fail) : P := h ⟨k⟩
theorem zr36 {P : Prop} (h : P := by
 first
 | (intro a w' r own hs'; exact ⟨_, fun h => absurd h zi, ⟨_, rfl, fun r => .inr rfl⟩, hs'.frm⟩)
 | fail) : P := h
theorem zr37 {P Q : Prop} (k : Q) (h : zQ Q -> P := by
 first
 | (intro kq; refine zcS 33 (.sc (.va (.bool true))) ?_ ?_; exact zq56; exact kq.v)
 | fail) : P := h ⟨k⟩
theorem zr38 {P Q : Prop} (k : Q) (h : zQ Q -> P := by
 first
 | (intro kq; refine WO_LE 850 (LS_rc (⟨tk, 3, none⟩) [.string t] false hX ?_ ?_ ?_ ?_ (fun _ => rfl)) ?_; exact zq0; exact one_cell (cell3 htk); exact zq8; exact sz9; exact kq.v)
 | fail) : P := h ⟨k⟩
theorem zr39 {P Q : Prop} (k : Q) (h : zQ Q -> P := by
 first
 | (intro kq; refine zdS 32 (.sc (.va (.int .i64 ((((st.tmod 5 + 5).tmod 5 - 1).tmod 5 + 5).tmod 5)))) ?_ ?_; exact zq62; exact kq.v)
 | fail) : P := h ⟨k⟩
theorem zr40 {P Q : Prop} (k : Q) (h : zQ Q -> P := by
 first
 | (intro kq; refine WO_LE 850 (LS_frombits (f := 154) hP rfl ?_ (fun n w => ext154 n w)) ?_; exact zq0; exact kq.v)
 | fail) : P := h ⟨k⟩
theorem zr41 {P Q : Prop} (k : Q) (h : zQ Q -> P := by
 first
 | (intro kq; refine zdS 32 (.sc (.va (.int .i64 ((st.tmod 5 + 5).tmod 5)))) ?_ ?_; exact zq61; exact kq.v)
 | fail) : P := h ⟨k⟩
theorem zr42 {P : Prop} (h : P := by
 first
 | (intro a w' r own hs; exact ⟨⟨_, rfl, fun r => .inr rfl⟩, hs.frm⟩)
 | fail) : P := h
theorem zr43 {P Q : Prop} (k : Q) (h : zQ Q -> P := by
 first
 | (intro kq; refine WO_LS 850 (LS_callM (α := Unit) (f := 40) (cs := [.va (.int .i64 1), .va (.int .i64 col)]) 0 65 [] (fun _ => .ag [.va (.int .i64 1), .va (.int .i64 (1 + (col - 1).tmod 200)), .va (.int .i64 (1 + (col - 1).tmod 200)), .va (.int .i64 0), .va (.int .i64 0)]) (fun _ => True) (fun _ => Asn.emp) (fun _ => [.int .i64 1, .int .i64 (col + 1)]) hP ?_ ?_ ?_ ?_ ?_ ?_ ?_) ?_; rfl; exact zq1; exact zq32; exact zq0; exact zq15; exact zq14; exact zq58; exact kq.v)
 | fail) : P := h ⟨k⟩
theorem zr44 {P : Prop} (h : P := by
 first
 | (intro a w' r own hs'
    have h1 : allD (T.extract 0 i) /\ (1 : Int) <= (T.extract 0 i).size /\ ((T.extract 0 i).size : Int) <= 18 := by assumption
    have h2 : allD (T.extract (i + 1) T.size) /\ (1 : Int) <= (T.extract (i + 1) T.size).size /\ ((T.extract (i + 1) T.size).size : Int) <= 6 := by assumption
    refine ⟨4, .inr ⟨T, hT, i, zo, h1.1, zo, zo, zo, .inr ⟨rfl, zo, zo, h2.1, zo, zo⟩⟩, ⟨_, rfl, fun r => .inr rfl⟩, hs'.frm⟩)
 | fail) : P := h
theorem zr45 {P Q : Prop} (k : Q) (h : zQ Q -> P := by
 first
 | (intro kq; apply WO_call0 (α := ByteArray × ByteArray × ByteArray × Int) (f := 36) 900 (fun x => .ag [.va (.int .i64 1), .va (.string x.1), .va (.string x.2.1), .va (.string x.2.2.1), .va (.int .i64 x.2.2.2), .va (.slice none 0 0)]) (fun x => goodS x.1 x.2.2.2) hP
    rfl; exact zq1; exact zq32; exact zq0; exact zq69; exact kq.v)
 | fail) : P := h ⟨k⟩
theorem zr46 {P : Prop} (h : P := by
 first
 | (intro a w' r own hs'
    exact retN_fin2 hs' ⟨⟨2, v', an', ⟨#[]⟩, 1 + (((st.tmod 2 + 2).tmod 2 - 1).tmod 2 + 2).tmod 2, kids⟩, ka0, kc0, lf0, sa0, sn0, sc0, xs0⟩ ⟨⟨.inr (.inr ⟨.inl rfl, hlen, fun h => absurd h zi, hall⟩), (by show lf0 <= lf + 1 - 1; omega), hfit⟩, rfl⟩ zm (fun r => ⟨_, rfl, CL_va _⟩) (j1 := 0) (j2 := 1) zw0 zw1 zi)
 | fail) : P := h
theorem zr47 {P : Prop} (h : P := by
 first
 | (intro a w' r own hs'
    exact retN_fin2 hs' ⟨⟨2, v', an', tg', 1 + (((st.tmod 2 + 2).tmod 2 - 1).tmod 2 + 2).tmod 2, kids⟩, ka0, kc0, lf0, sa0, sn0, sc0, xs0⟩ ⟨⟨.inr (.inr ⟨.inl rfl, hlen, fun h => absurd h zi, hall⟩), (by show lf0 <= lf + 1 - 1; omega), hfit⟩, rfl⟩ zm (fun r => ⟨_, rfl, CL_va _⟩) (j1 := 0) (j2 := 1) zw0 zw1 zi)
 | fail) : P := h
theorem zr48 {P : Prop} (h : P := by
 first
 | (intro a w' r own hs'
    exact retN_fin2 hs' ⟨⟨3, v', an', ⟨#[]⟩, 1 + (((st.tmod 2 + 2).tmod 2 - 1).tmod 2 + 2).tmod 2, kids⟩, ka0, kc0, lf0, sa0, sn0, sc0, xs0⟩ ⟨⟨.inr (.inr ⟨.inr rfl, hlen, fun _ => hpair, hall⟩), (by show lf0 <= lf + 1 - 1; omega), hfit⟩, rfl⟩ zm (fun r => ⟨_, rfl, CL_va _⟩) (j1 := 0) (j2 := 1) zw0 zw1 zi)
 | fail) : P := h
theorem zr49 {P : Prop} (h : P := by
 first
 | (intro a w' r own hs'
    exact retN_fin2 hs' ⟨⟨3, v', an', tg', 1 + (((st.tmod 2 + 2).tmod 2 - 1).tmod 2 + 2).tmod 2, kids⟩, ka0, kc0, lf0, sa0, sn0, sc0, xs0⟩ ⟨⟨.inr (.inr ⟨.inr rfl, hlen, fun _ => hpair, hall⟩), (by show lf0 <= lf + 1 - 1; omega), hfit⟩, rfl⟩ zm (fun r => ⟨_, rfl, CL_va _⟩) (j1 := 0) (j2 := 1) zw0 zw1 zi)
 | fail) : P := h
theorem zr50 {P Q : Prop} (k : Q) (h : zQ Q -> P := by
 first
 | (intro kq; refine WD_LS 850 ?_ (LS_append (e := 9) (size := 1) (bytes := 16) 0 (.slice sa sn sc) (sn) (xs) 1 [.string zan] hP rfl ?_ ?_ ?_ ?_ ?_ ?_ ?_) ?_ ?_; exact zq2; exact zq1; exact zq0; exact zq13; exact zq22; rfl; exact zq63; decide; exact zq16; exact kq.v)
 | fail) : P := h ⟨k⟩
theorem zr51 {P : Prop} (h : P := by
 first
 | (intro a w' r own hs'
    exact retN_fin2 hs' ⟨⟨2, v', an', ⟨#[]⟩, 2, kids⟩, ka0, kc0, lf0, sa0, sn0, sc0, xs0⟩ ⟨⟨.inr (.inr ⟨.inl rfl, hlen, fun h => absurd h zi, hall⟩), (by show lf0 <= lf + 1 - 1; omega), hfit⟩, rfl⟩ zm (fun r => ⟨_, rfl, CL_va _⟩) (j1 := 0) (j2 := 1) zw0 zw1 zi)
 | fail) : P := h
theorem zr52 {P : Prop} (h : P := by
 first
 | (intro a w' r own hs'
    exact retN_fin2 hs' ⟨⟨2, v', an', tg', 2, kids⟩, ka0, kc0, lf0, sa0, sn0, sc0, xs0⟩ ⟨⟨.inr (.inr ⟨.inl rfl, hlen, fun h => absurd h zi, hall⟩), (by show lf0 <= lf + 1 - 1; omega), hfit⟩, rfl⟩ zm (fun r => ⟨_, rfl, CL_va _⟩) (j1 := 0) (j2 := 1) zw0 zw1 zi)
 | fail) : P := h
theorem zr53 {P : Prop} (h : P := by
 first
 | (intro a w' r own hs'
    exact retN_fin2 hs' ⟨⟨3, v', an', ⟨#[]⟩, 2, kids⟩, ka0, kc0, lf0, sa0, sn0, sc0, xs0⟩ ⟨⟨.inr (.inr ⟨.inr rfl, hlen, fun _ => hpair, hall⟩), (by show lf0 <= lf + 1 - 1; omega), hfit⟩, rfl⟩ zm (fun r => ⟨_, rfl, CL_va _⟩) (j1 := 0) (j2 := 1) zw0 zw1 zi)
 | fail) : P := h
theorem zr54 {P : Prop} (h : P := by
 first
 | (intro a w' r own hs'
    exact retN_fin2 hs' ⟨⟨3, v', an', tg', 2, kids⟩, ka0, kc0, lf0, sa0, sn0, sc0, xs0⟩ ⟨⟨.inr (.inr ⟨.inr rfl, hlen, fun _ => hpair, hall⟩), (by show lf0 <= lf + 1 - 1; omega), hfit⟩, rfl⟩ zm (fun r => ⟨_, rfl, CL_va _⟩) (j1 := 0) (j2 := 1) zw0 zw1 zi)
 | fail) : P := h
theorem zr55 {P : Prop} (h : P := by
 first
 | (intro a w' r own hs'
    have h1 : allD (T.extract 0 i) /\ (1 : Int) <= (T.extract 0 i).size /\ ((T.extract 0 i).size : Int) <= 18 := by assumption
    refine ⟨3, .inr ⟨T, hT, i, zo, h1.1, zo, zo, zo, .inl ⟨rfl, zo⟩⟩, ⟨_, rfl, fun r => .inr rfl⟩, hs'.frm⟩)
 | fail) : P := h
theorem zr56 {P Q : Prop} (k : Q) (h : zQ Q -> P := by
 first
 | (intro kq; refine WS_rc 850 (A.add (kids.length * 6)) (treeC k1 v1 an1 tg1 st1 ka1 kn1 kc1) true hX ?_ rfl ?_ ?_ ?_ ?_ (fun h => by cases h) ?_; exact zq2; exact zq0; exact hcell; exact notM hIn hF1; exact sz24; exact kq.v)
 | fail) : P := h ⟨k⟩
theorem zr57 {P Q : Prop} (k : Q) (h : zQ Q -> P := by
 first
 | (intro kq; refine zcS 141 (.sc (.va (.bool (decide (allD (T.extract (i + 1) T.size) /\ (1 : Int) <= (T.extract (i + 1) T.size).size /\ ((T.extract (i + 1) T.size).size : Int) <= 6))))) ?_ ?_; exact zq67; exact kq.v)
 | fail) : P := h ⟨k⟩
theorem zr58 {P Q : Prop} (k : Q) (h : zQ Q -> P := by
 first
 | (intro kq; refine zcS 141 (.sc (.va (.bool (decide (allD (T.extract 0 i) /\ (1 : Int) <= (T.extract 0 i).size /\ ((T.extract 0 i).size : Int) <= 18))))) ?_ ?_; exact zq66; exact kq.v)
 | fail) : P := h ⟨k⟩
theorem zr59 {P : Prop} (h : P := by
 first
 | (intro a w' r own hs'; exact ⟨0, .inl rfl, ⟨_, rfl, fun r => .inr rfl⟩, hs'.frm⟩)
 | fail) : P := h
theorem zr60 {P Q : Prop} (k : Q) (h : zQ Q -> P := by
 first
 | (intro kq; refine zcS 179 (.sc (.va (.bool (decide (bt u 0 = 48))))) ?_ ?_; exact zq76; exact kq.v)
 | fail) : P := h ⟨k⟩
theorem zr61 {P : Prop} (h : P := by
 first
 | (have hus := hW.us; show 1 + u.size <= _; omega)
 | fail) : P := h
theorem zr62 {P Q : Prop} (k : Q) (h : zQ Q -> P := by
 first
 | (intro kq; refine WD_LS 850 ?_ (LS_callM (α := Unit) (f := 40) (cs := [.va (.int .i64 1), .va (.int .i64 (col + 1))]) 0 65 [] (fun _ => .ag [.va (.int .i64 1), .va (.int .i64 (1 + ((col + 1) - 1).tmod 200)), .va (.int .i64 (1 + ((col + 1) - 1).tmod 200)), .va (.int .i64 0), .va (.int .i64 0)]) (fun _ => True) (fun _ => Asn.emp) (fun _ => [.int .i64 1, .int .i64 ((col + 1) + 1)]) hP ?_ ?_ ?_ ?_ ?_ ?_ ?_) ?_ ?_; exact zq2; rfl; exact zq1; exact zq32; exact zq0; exact zq15; exact zq14; exact zq81; exact zq31; exact kq.v)
 | fail) : P := h ⟨k⟩
theorem zr63 {P : Prop} (h : P := by
 first
 | (intro a w' r own hs'
    obtain ⟨own2, hs2⟩ := hs'.addE (B := Trs 24 6 (.slice none ([] : List T).length 0) (T.gs [])) (fun w => GS.nil); exact retN_fin2 hs2 ⟨⟨1, zv, zan, ztg, zst, []⟩, none, 0, lf - 1, a', (sn + 1), cp', (xs ++ [.string zan])⟩ ⟨⟨.inr (.inl ⟨rfl, rfl, hgs⟩), Int.le_refl _, ⟨by have := hfit.1; dsimp only; omega, by have := hfit.2.1; dsimp only; omega, strs_snoc hfit.2.2⟩⟩, fun h => absurd (hkk.symm.trans (mod_one h)) zi⟩ zm (fun r => ⟨_, rfl, CL_va _⟩) (j1 := 1) (j2 := 2) zw1 zm zi)
 | fail) : P := h
theorem zr64 {P : Prop} (h : P := by
 first
 | (intro a w' r own hs'
    obtain ⟨own2, hs2⟩ := hs'.addE (B := Trs 24 6 (.slice none ([] : List T).length 0) (T.gs [])) (fun w => GS.nil); exact retN_fin2 hs2 ⟨⟨1, zv, zan, ztg, zst, []⟩, none, 0, lf - 1, sa, sn, sc, xs⟩ ⟨⟨.inr (.inl ⟨rfl, rfl, hgs⟩), Int.le_refl _, ⟨by have := hfit.1; dsimp only; omega, by have := hfit.2.1; dsimp only; omega, hfit.2.2⟩⟩, fun h => absurd (hkk.symm.trans (mod_one h)) zi⟩ zm (fun r => ⟨_, rfl, CL_va _⟩) (j1 := 0) (j2 := 1) zw1 zm zi)
 | fail) : P := h
theorem zr65 {P Q : Prop} (k : Q) (h : zQ Q -> P := by
 first
 | (intro kq; refine WO_LS 850 (LS_call1 (α := Nat) (f := 16) (fun g : Nat => .sc (.va (.iface (kpT k0) (ptr g)))) (fun _ => True) (fun g => AstA (.mk k0 ty0 v0 t0 fl0 c0 l0) (.iface (kpT k0) (ptr g))) hP ?_ ?_ ?_ ?_ ?_) ?_; rfl; exact zq1; exact zq9; exact zq0; exact zq79; exact kq.v)
 | fail) : P := h ⟨k⟩
theorem zr66 {P Q : Prop} (k : Q) (h : zQ Q -> P := by
 first
 | (intro kq; refine WO_LS 850 (LS_makeB (u := 9) (e := 5) 24 hP ?_ ?_ ?_ zi) ?_
    exact zq1; exact zq0
    · simp only [go_sem, emax, i24]
    exact kq.v)
 | fail) : P := h ⟨k⟩
theorem zr67 {P Q : Prop} (k : Q) (h : zQ Q -> P := by
 first
 | (intro kq; refine WD_LS 850 ?_ (LS_convW .i64 .u64 hP un224 un3 ?_) ?_ ?_; exact zq2; exact zq0; exact zq16; exact kq.v)
 | fail) : P := h ⟨k⟩
theorem zr68 {P Q : Prop} (k : Q) (h : zQ Q -> P := by
 first
 | (intro kq; with_reducible refine WD_callS (f := 28) 900 (.sc (.va (.pointer none))) ?_ hP ?_ ?_ ?_ ?_ ?_ ?_
    exact zq2; rfl; exact zq1; exact zq0; rfl; exact zq60; exact kq.v)
 | fail) : P := h ⟨k⟩
theorem zr69 {P Q : Prop} (k : Q) (h : zQ Q -> P := by
 first
 | (intro kq; refine WO_LE 850 (LS_rc (⟨gx, 1, none⟩) [ptr tk] false hX ?_ ?_ ?_ ?_ (fun _ => rfl)) ?_; exact zq0; exact zq12; exact zq8; exact sz82; exact kq.v)
 | fail) : P := h ⟨k⟩
theorem zr70 {P : Prop} (h : P := by
 first
 | (intro a w' r own hs'; exact ⟨_, (by simp only [wrapU64_eq]; unfold U64; omega), ⟨_, rfl, fun r => .inr rfl⟩, hs'.frm⟩)
 | fail) : P := h
theorem zr71 {P : Prop} (h : P := by
 first
 | (intro a w' r own hs'; exact ⟨(_, _, _, _, _, _, _), rfl, ⟨_, rfl, fun r => tuv [_, _, _, _, _, _, _]⟩, hs'.frm⟩)
 | fail) : P := h
theorem zr72 {P : Prop} (h : P := by
 first
 | (apply WX_lpF _ hX (hJ (i + 1) zo zo); exact zq7; exact zq3; exact zq3; exact zq3; rfl)
 | fail) : P := h
theorem zr73 {P : Prop} (h : P := by
 first
 | (intro a w' r' own hs'
    exact retD_fin hs' zw0 x hx (fun r => tu0) (fun h => h))
 | fail) : P := h
theorem zr74 {P : Prop} (h : P := by
 first
 | (intro a w' r own hs'
    exact ret1_fin1 hs' gs trivial (fun r => .inr rfl) zw0)
 | fail) : P := h
theorem zr75 {P : Prop} (h : P := by
 first
 | (exact retN_fin1 hs' ⟨n2, ka2, kc2, col2⟩ hx zm (fun r => ⟨_, rfl, CL_va _⟩) zw0)
 | fail) : P := h
theorem zr76 {P : Prop} (h : P := by
 first
 | (intro a w' r own hs'
    rw [hA] at hs'; have h2 := hs'.conc (n := 1) (t := 99) (vals := [ptr gb, ptr tk, .pointer none, .bool fl, .slice ad l.length cp1, .slice ad2 l.length cp2, .slice none 0 0, .pointer none]) zp; have b1 := h2.bk (j := 7) (g := r 1) (t := 99) (cs := [ptr gb, ptr tk, .pointer none, .bool fl, .slice ad l.length cp1, .slice ad2 l.length cp2, .slice none 0 0, .pointer none]) zp; have b2 := h2.bk (j := 0) (g := gb) (t := 230) (cs := baseC) zp; have a1 := (h2.fact 1 (Row 54 1 (.slice ad l.length cp1) l.length vs) zp).2; have a2 := (h2.fact 2 (Row 88 1 (.slice ad2 l.length cp2) l.length (List.replicate l.length (.pointer none))) zp).2; have a3 := (h2.fact 3 (AstsA l vs) zp).2; exact ret1_finU h2 [0, 1, 2, 3, 7] (r 1) trivial (fun r => .inr rfl) ⟨r 1, gb, vs, _, rfl, ⟨7, zp, b1.1⟩, ⟨0, zp, b2.1⟩, b2.2, b1.2, .seq vs _ _ (rowSlC a1 fun k hk => ⟨1, zp, hk⟩) (by rw [hvs]; exact rowSlC a2 fun k hk => ⟨2, zp, hk⟩), ATs.ext (fun k hk => ⟨3, zp, hk⟩) (fun _ _ => rfl) a3⟩)
 | fail) : P := h
theorem zr77 {P Q : Prop} (k : Q) (h : zQ Q -> P := by
 first
 | (intro kq; refine WD_LS 850 ?_ (LS_callM (α := Unit) (f := 40) (cs := [.va (.int .i64 1), .va (.int .i64 col)]) 0 65 [] (fun _ => .ag [.va (.int .i64 1), .va (.int .i64 (1 + (col - 1).tmod 200)), .va (.int .i64 (1 + (col - 1).tmod 200)), .va (.int .i64 0), .va (.int .i64 0)]) (fun _ => True) (fun _ => Asn.emp) (fun _ => [.int .i64 1, .int .i64 (col + 1)]) hP ?_ ?_ ?_ ?_ ?_ ?_ ?_) ?_ ?_; exact zq2; rfl; exact zq1; exact zq32; exact zq0; exact zq15; exact zq14; exact zq58; exact zq31; exact kq.v)
 | fail) : P := h ⟨k⟩
theorem zr78 {P Q : Prop} (k : Q) (h : zQ Q -> P := by
 first
 | (intro kq; refine WD_LS 850 ?_ (LS_callM (α := NO) (f := 21) (cs := [.va (.int .i64 1), .va (.int .i64 col0)]) 0 65 [] NO.res (fun x => x.n.ok q /\ (tk.k = 1 -> keyK x.n.k) /\ x.n.k ≠ 13 /\ col0 + x.n.cnt <= x.col /\ x.col <= col0 + bd d - 0) NO.trs NO.cs hP ?_ ?_ ?_ ?_ ?_ ?_ ?_) ?_ ?_
    exact zq2; rfl; exact zq1; exact zq30; exact zq0; exact zq15; exact zq14; exact zq82; exact zq31; exact kq.v)
 | fail) : P := h ⟨k⟩
theorem zr79 {P : Prop} (h : P := by
 first
 | (exact zG7 [(6, 0), (8, 1)] (hJ (⟨kids ++ [T.mk k2 v2 an2 tg2 st2 kids2, T.mk k3 v3 an3 tg3 st3 kids3], a', cp', lf3, sa3, sn3, sc3, xs3⟩) ⟨(by simp only [List.length_append, List.length_cons, List.length_nil]; omega), (fun t ht => (List.mem_append.1 ht).elim (hall t) (fun h => (List.mem_cons.1 h).elim (fun e => e ▸ hgood) (fun h => (List.mem_singleton.1 h) ▸ hgood3))), (by simp only; omega), hfit3, pair_next hpair (T.k_mk.trans hk2)⟩ (by simp only [List.length_append, List.length_cons, List.length_nil]; omega)))
 | fail) : P := h
theorem zr80 {P Q : Prop} (k : Q) (h : zQ Q -> P := by
 first
 | (intro kq; refine zdS 39 (.ag [.va (.int .i64 8), .va (.int .i64 31), .va (.string an), .va (.string an), .va (.string an), .va (.string ⟨#[]⟩), .va (.bool false), .va (.bool false), .va (.bool false), .va (.int .i64 1), .va (.int .i64 (1 + (col + 1 - 1).tmod 200)), .va (.int .i64 (1 + (col + 1 - 1).tmod 200)), .va (.int .i64 0), .va (.int .i64 0), .va (.slice none 0 0), .va (.slice none 0 0), .va (.slice none 0 0), .va (.slice none 0 0), .va (.slice none 0 0)]) ?_ ?_; exact zq94; exact kq.v)
 | fail) : P := h ⟨k⟩
theorem zr81 {P : Prop} (h : P := by
 first
 | (exact zG7 [(3, 1)] (hJ (⟨kids ++ [n2], a', cp', col2⟩) ⟨(by simp only [List.length_append, List.length_cons, List.length_nil]; omega), oks_snoc hoks hok2, (fun y hy => (List.mem_append.1 hy).elim (hk13 y) (fun h => (List.mem_singleton.1 h) ▸ hne2)), (by simp only [cntl_snoc, N.cnt, N.cntl]; omega), (by simp only [List.length_append, List.length_cons, List.length_nil]; rw [hlm]; omega)⟩ (by simp only [List.length_append, List.length_cons, List.length_nil]; omega)))
 | fail) : P := h
theorem zr82 {P Q : Prop} (k : Q) (h : zQ Q -> P := by
 first
 | (intro kq; with_reducible refine WO_LE 850 (LS_rc (A1.add (n * 19)) ([.int .i64 k1, .int .i64 ty1, .string v1, .string t1, .string t1, .string ⟨#[]⟩, .bool fl1, .bool false, .bool false, .int .i64 1, .int .i64 c1, .int .i64 c1, .int .i64 0, .int .i64 0, .slice none 0 0, .slice none 0 0, .slice none 0 0, .slice none 0 0, .slice ka1 l1.length kc1]) true hX ?_ ?_ ?_ ?_ (fun h => by cases h)) ?_
    exact zq0; exact hcell; exact (fun h => h); exact sz31; exact kq.v)
 | fail) : P := h ⟨k⟩
theorem zr83 {P : Prop} (h : P := by
 first
 | (intro a w' r own hs'
    exact retN_fin1 hs' ⟨.mk 11 10 ⟨#[]⟩ ⟨#[123]⟩ (decide (st = 2)) (1 + (col - 1).tmod 200) kids, ka0, kc0, col0⟩ ⟨⟨zo, zo, hoks, .inr (.inr (.inr (.inr (.inr (.inr (.inr (.inr (.inr (.inr (.inr (.inr (.inl ⟨rfl, rfl, hk13⟩)))))))))))), fun h => absurd rfl h.1⟩, (by decide : (11 : Int) ≠ 13), (by (try simp only [N.cnt, N.cntl]); omega), (by (try simp only [N.cnt, N.cntl]); omega)⟩ zm (fun r => ⟨_, rfl, CL_va _⟩) (j := 1) zw0)
 | fail) : P := h
theorem zr84 {P : Prop} (h : P := by
 first
 | (intro a w' r own hs'
    exact retN_fin1 hs' ⟨.mk 14 3 ⟨#[]⟩ ⟨#[45]⟩ false (1 + (col - 1).tmod 200) kids, ka0, kc0, col0⟩ ⟨⟨zo, zo, hoks, .inr (.inr (.inr (.inr (.inr (.inr (.inr (.inr (.inr (.inr (.inr (.inl ⟨rfl, rfl, hk13⟩))))))))))), fun h => absurd rfl h.2.2⟩, (by decide : (14 : Int) ≠ 13), (by (try simp only [N.cnt, N.cntl]); omega), (by (try simp only [N.cnt, N.cntl]); omega)⟩ zm (fun r => ⟨_, rfl, CL_va _⟩) (j := 1) zw0)
 | fail) : P := h
theorem zr85 {P : Prop} (h : P := by
 first
 | (exact zG7 [(3, 0), (5, 1)] (hJ (⟨kids ++ [T.mk k2 v2 an2 tg2 2 kids2], a', cp', lf2, sa2, sn2, sc2, xs2⟩) ⟨(by simp only [List.length_append, List.length_cons, List.length_nil]; omega), (fun t ht => (List.mem_append.1 ht).elim (hall t) (fun h => (List.mem_singleton.1 h) ▸ (good_void hgood hdec.1.1 hdec.1.2.2))), (by simp only; omega), hfit2, trivial⟩ (by simp only [List.length_append, List.length_cons, List.length_nil]; omega)))
 | fail) : P := h
theorem zr86 {P : Prop} (h : P := by
 first
 | (intro a w' r own hs'
    exact retN_fin1 hs' ⟨.mk 14 8 ⟨#[]⟩ ⟨#[91]⟩ true (1 + (col - 1).tmod 200) kids, ka0, kc0, col0⟩ ⟨⟨zo, zo, hoks, .inr (.inr (.inr (.inr (.inr (.inr (.inr (.inr (.inr (.inr (.inr (.inl ⟨rfl, rfl, hk13⟩))))))))))), fun h => absurd rfl h.2.2⟩, (by decide : (14 : Int) ≠ 13), (by (try simp only [N.cnt, N.cntl]); omega), (by (try simp only [N.cnt, N.cntl]); omega)⟩ zm (fun r => ⟨_, rfl, CL_va _⟩) (j := 1) zw0)
 | fail) : P := h
theorem zr87 {P Q : Prop} (k : Q) (h : zQ Q -> P := by
 first
 | (intro kq; with_reducible refine WD_LS 850 ?_ (LS_call1 (α := Nat) (f := 26) (fun g : Nat => .sc (.va (.pointer (some ⟨g, 0, none⟩)))) (fun _ => True) (posA c1) hP ?_ ?_ ?_ ?_ ?_) ?_ ?_
    exact zq2; rfl; exact zq1; exact zq9; exact zq0
    · (intro a w r own hSim; rw [hX] at hSim; simp only [go_sem]; with_reducible exact c26 _ c1 hx1 hx2)
    exact zq16; exact kq.v)
 | fail) : P := h ⟨k⟩
theorem zr88 {P : Prop} (h : P := by
 first
 | (exact zG7 [(3, 0), (5, 1)] (hJ (⟨kids ++ [T.mk k2 v2 an2 tg2 st2 kids2], a', cp', lf2, sa2, sn2, sc2, xs2⟩) ⟨(by simp only [List.length_append, List.length_cons, List.length_nil]; omega), (fun t ht => (List.mem_append.1 ht).elim (hall t) (fun h => (List.mem_singleton.1 h) ▸ hgood)), (by simp only; omega), hfit2, trivial⟩ (by simp only [List.length_append, List.length_cons, List.length_nil]; omega)))
 | fail) : P := h
theorem zr89 {P Q : Prop} (k : Q) (h : zQ Q -> P := by
 first
 | (intro kq; with_reducible show WO _ _ _ _ _ _
    apply WO_tr [0] (Row 157 1 (.slice (some ⟨g1, 0, none⟩) 0 0) 0 [])
    · (intro a w r own hSim
       have hb := (hSim.fact 0 (Blk g1 157 []) zw0).2; have hb2 := Blk.row (e := 157) (size := 1) (n := 0) (cap := 0) hb (Nat.le_refl _) zi rfl; exact Row.wkI (xs := []) hb2 (fun k => by simp))
    exact kq.v)
 | fail) : P := h ⟨k⟩
theorem zr90 {P Q : Prop} (k : Q) (h : zQ Q -> P := by
 first
 | (intro kq; refine WD_LS 850 ?_ (LS_append (e := 9) (size := 1) (bytes := 16) 2 (.slice sa2 sn2 sc2) (sn2) (xs2) 1 [.string an2] hP rfl ?_ ?_ ?_ ?_ ?_ ?_ ?_) ?_ ?_
    exact zq2; exact zq1; exact zq0; exact zq52; exact zq22; rfl
    · (have := hfit2.2.1; have := hfit2.1; omega)
    decide; exact zq16; exact kq.v)
 | fail) : P := h ⟨k⟩
theorem zr91 {P : Prop} (h : P := by
 first
 | (intro a w' r own hs'
    exact retN_fin2 hs' ⟨⟨k2, v2, an2, tg2, st2, kids2⟩, ka2, kc2, lf2, a', (sn2 + 1), cp', (xs2 ++ [.string an2])⟩ ⟨⟨hgood, zj, ⟨hfit2.1, by have := hfit2.2.1; have := hfit.2.1; dsimp only; omega, strs_snoc hfit2.2.2⟩⟩, fun h => absurd (hkk.symm.trans (mod_one h)) zi⟩ zm (fun r => ⟨_, rfl, CL_va _⟩) (j1 := 4) (j2 := 3) zw0 zw1 zi)
 | fail) : P := h
theorem zr92 {P Q : Prop} (k : Q) (h : zQ Q -> P := by
 first
 | (intro kq; refine WD_LS 850 ?_ (LS_call1 (α := Nat) (f := 16) (fun g : Nat => .sc (.va (.iface (kpT k1) (ptr g)))) (fun _ => True) (fun g => AstA (.mk k1 ty1 v1 t1 fl1 c1 l1) (.iface (kpT k1) (ptr g))) hP ?_ ?_ ?_ ?_ ?_) ?_ ?_; exact zq2; rfl; exact zq1; exact zq9; exact zq0; exact zq100; exact zq16; exact kq.v)
 | fail) : P := h ⟨k⟩
theorem zr93 {P Q : Prop} (k : Q) (h : zQ Q -> P := by
 first
 | (intro kq; refine WD_LS 850 ?_ (LS_appendT 1 ka0 kc0 kids [⟨4, T.mk k2 v2 an2 tg2 st2 kids2, ka2, kc2⟩, ⟨7, T.mk k3 v3 an3 tg3 st3 kids3, ka3, kc3⟩] hP rfl ?_ ?_ ?_ ?_ ?_ ?_) ?_ ?_; exact zq2; exact zq1; exact zq27; exact zq68; exact zq22; exact zq93; exact zq45; exact zq16; exact kq.v)
 | fail) : P := h ⟨k⟩
theorem zr94 {P : Prop} (h : P := by
 first
 | (intro a w' r own hs'
    exact retN_fin2 hs' ⟨⟨k2, v2, an2, tg2, st2, kids2⟩, ka2, kc2, lf2, sa2, sn2, sc2, xs2⟩ ⟨⟨hgood, zj, ⟨hfit2.1, by have := hfit2.2.1; have := hfit.2.1; dsimp only; omega, hfit2.2.2⟩⟩, fun h => absurd (hkk.symm.trans (mod_one h)) zi⟩ zm (fun r => ⟨_, rfl, CL_va _⟩) (j1 := 2) (j2 := 3) zw1 zw0 zi)
 | fail) : P := h
theorem zr95 {P : Prop} (h : P := by
 first
 | (apply WX_lpG _ _ [(1, 0)] hX (hJ (i + 1, n + 1, a', cp', xs ++ [.int .u8 (bt s i)]) ⟨by simp only; omega, by simp only; omega, fun u hu => (List.mem_append.1 hu).elim (hxs u) (fun h => ⟨_, List.mem_singleton.1 h⟩)⟩ (by simp only; omega)); exact zq26; exact zq27; exact zq26; exact zq27; rfl; rfl; rfl; exact zq55)
 | fail) : P := h
theorem zr96 {P : Prop} (h : P := by
 first
 | (intro a w' r own hs'
    rw [hA] at hs'; exact ret1_fin2 (B1 := fun x : List Nat × Option Addr × Nat => Row 157 1 (.slice x.2.1 x.1.length x.2.2) x.1.length (x.1.map ptr)) (B2 := fun x : List Nat × Option Addr × Nat => AstsA _ (psV x.1)) hs' (ps, ad, cp2) hpe (fun r => .inr rfl) (j1 := 0) (j2 := 1) zm zmb zi)
 | fail) : P := h
theorem zr97 {P Q : Prop} (k : Q) (h : zQ Q -> P := by
 first
 | (intro kq; refine WO_LS 850 (LS_appendS (e := 5) (u := 9) 0 (.slice (some A0) 0 24) 0 [] ⟨#[45, 73, 110, 102]⟩ hP rfl ?_ ?_ ?_ ?_ zi zi) ?_; exact zq1; exact zq0; exact zq0; exact zq13; exact kq.v)
 | fail) : P := h ⟨k⟩
theorem zr98 {P Q : Prop} (k : Q) (h : zQ Q -> P := by
 first
 | (intro kq; refine WO_LS 850 (LS_appendS (e := 5) (u := 9) 0 (.slice (some A0) 0 24) 0 [] ⟨#[43, 73, 110, 102]⟩ hP rfl ?_ ?_ ?_ ?_ zi zi) ?_; exact zq1; exact zq0; exact zq0; exact zq13; exact kq.v)
 | fail) : P := h ⟨k⟩
theorem zr99 {P Q : Prop} (k : Q) (h : zQ Q -> P := by
 first
 | (intro kq; refine WO_LS 850 (LS_append (e := 5) (size := 1) (bytes := 1) 0 (.slice ad n cp) (n) (xs) 1 [.int .u8 (bt s i)] hP rfl ?_ ?_ ?_ ?_ ?_ ?_ ?_) ?_
    exact zq1; exact zq0; exact zq13; exact zq22; rfl; omega; decide; exact kq.v)
 | fail) : P := h ⟨k⟩
theorem zr100 {P : Prop} (h : P := by
 first
 | (apply WX_lpF _ hX (hJ (i + 1, nd + 1, ndm + 1, dp, IntKind.u64.wrap (IntKind.u64.wrap (mm * 10) + IntKind.u64.wrap (IntKind.u8.wrap (bt s i - 48))), tr) ⟨zj, wrapU64_rng _, fun h => by have := hi.2.2 h; dsimp only at *; omega⟩ zj); exact zq34; exact zq3; exact zq3; exact zq3; rfl)
 | fail) : P := h
theorem zr101 {P Q : Prop} (k : Q) (h : zQ Q -> P := by
 first
 | (intro kq; refine WD_LS 850 ?_ (LS_appendN 1 ka0 kc0 kids [⟨2, n2, ka2, kc2⟩] hP rfl ?_ ?_ ?_ ?_ ?_ ?_) ?_ ?_; exact zq2; exact zq1; exact zq27; exact zq52; exact zq22; exact zq49; exact zq45; exact zq16; exact kq.v)
 | fail) : P := h ⟨k⟩
theorem zr102 {P Q : Prop} (k : Q) (h : zQ Q -> P := by
 first
 | (intro kq; refine WO_LS 850 (LS_appendT 1 ka0 kc0 kids [⟨4, T.mk k2 v2 an2 tg2 st2 kids2, ka2, kc2⟩] hP rfl ?_ ?_ ?_ ?_ ?_ ?_) ?_; exact zq1; exact zq27; exact zq44; exact zq22; exact zq49; exact zq45; exact kq.v)
 | fail) : P := h ⟨k⟩
theorem zr103 {P Q : Prop} (k : Q) (h : zQ Q -> P := by
 first
 | (intro kq; refine WO_LS 850 (LS_appendT 1 ka0 kc0 kids [⟨4, T.mk k2 v2 an2 tg2 2 kids2, ka2, kc2⟩] hP rfl ?_ ?_ ?_ ?_ ?_ ?_) ?_; exact zq1; exact zq27; exact zq44; exact zq22; exact zq49; exact zq45; exact kq.v)
 | fail) : P := h ⟨k⟩
theorem zr104 {P : Prop} (h : P := by
 first
 | (apply WX_lpF _ hX (hJ (i + 1) ⟨zo, fun j t hj ht => (Nat.lt_or_eq_of_le (Nat.le_of_lt_succ hj)).elim (fun h => hpl j t h ht) (fun h => by subst h; rw [hget] at ht; cases ht; exact hb2 rfl)⟩ zo); exact zq7; exact zq3; exact zq3; exact zq3; rfl)
 | fail) : P := h
theorem zr105 {P : Prop} (h : P := by
 first
 | (exact zG7 [(2, 0)] (hJ (⟨n + 1, a3, q3, m2 + (hit K (prs x d)).length, xs2 ++ hit K (prs x d)⟩) ⟨zj, by dsimp only; rw [htk, hit_append, List.length_append, hm2]; omega, by dsimp only; rw [htk, hit_append, hxs2, <- List.append_assoc]⟩ zj))
 | fail) : P := h
theorem zr106 {P Q : Prop} (k : Q) (h : zQ Q -> P := by
 first
 | (intro kq; refine WO_LE 850 (LS_rc (A.add (kids.length * 6)) (treeC tk.k tk.v tk.an tk.tg tk.st ka1 tk.kids.length kc1) true hX ?_ ?_ ?_ ?_ (fun h => by cases h)) ?_; exact zq0; exact hcell; exact notG hF hF1; exact sz24; exact kq.v)
 | fail) : P := h ⟨k⟩
theorem zr107 {P Q : Prop} (k : Q) (h : zQ Q -> P := by
 first
 | (intro kq; refine WS_rc 850 (A.add ((kids.length + 1) * 6)) (treeC k4 v4 an4 tg4 st4 ka4 kn4 kc4) true hX ?_ rfl ?_ ?_ ?_ ?_ (fun h => by cases h) ?_; exact zq2; exact zq0; exact hcell4; exact notM hIn hF4; exact sz24; exact kq.v)
 | fail) : P := h ⟨k⟩
theorem zr108 {P Q : Prop} (k : Q) (h : zQ Q -> P := by
 first
 | (intro kq; refine WO_LE 850 (LS_rc (A.add (i * 6)) (treeC tk.k tk.v tk.an tk.tg tk.st ka1 tk.kids.length kc1) true hX ?_ ?_ ?_ ?_ (fun h => by cases h)) ?_; exact zq0; exact hcell; exact zq8; exact sz24; exact kq.v)
 | fail) : P := h ⟨k⟩
theorem zr109 {P Q : Prop} (k : Q) (h : zQ Q -> P := by
 first
 | (intro kq; refine zc0 (α := Int) 134 (fun x : Int => .sc (.va (.int .i64 x))) (fun x => 0 <= x /\ x <= 1) ?_ ?_
    · (intro a w r own hSim; simp only [go_sem]; with_reducible exact c134u _ _)
    exact kq.v)
 | fail) : P := h ⟨k⟩
theorem zr110 {P : Prop} (h : P := by
 first
 | (apply WX_lpG _ _ [(0, 0)] hX (hJ (i + 1, n, ad, cp, xs) ⟨by simp only; omega, hn, hxs⟩ (by simp only; omega)); exact zq26; exact zq27; exact zq26; exact zq27; rfl; rfl; rfl; exact zq55)
 | fail) : P := h
theorem zr111 {P Q : Prop} (k : Q) (h : zQ Q -> P := by
 first
 | (intro kq; refine WO_LE 850 (LS_rc (⟨11, 0, none⟩) [.slice (some ⟨bq, oq, none⟩) 61 cq] false hX ?_ ?_ ?_ ?_ (fun _ => rfl)) ?_; exact zq0; exact one_cell hq2; exact hM11; exact sz342; exact kq.v)
 | fail) : P := h ⟨k⟩
theorem zr112 {P Q : Prop} (k : Q) (h : zQ Q -> P := by
 first
 | (intro kq; refine zcS 32 (.sc (.va (.int .i64 ((((st.tmod 2 + 2).tmod 2 - 1).tmod 2 + 2).tmod 2)))) ?_ ?_
    · (intro a w r own hSim; simp only [go_sem]; with_reducible exact c32 _ 2 zi zi _)
    exact kq.v)
 | fail) : P := h ⟨k⟩
theorem zr113 {P : Prop} (h : P := by
 first
 | (apply WX_lpF _ hX (hJ (i + 1, nd, ndm, dp - 1, mm, tr) ⟨zj, hi.2.1, fun h => by have := hi.2.2 h; dsimp only at *; omega⟩ zj); exact zq34; exact zq3; exact zq3; exact zq3; rfl)
 | fail) : P := h
theorem zr114 {P : Prop} (h : P := by
 first
 | (apply WX_lpF _ hX (hJ (i + 1, nd + 1, ndm, dp, mm, tr) ⟨zj, hi.2.1, fun h => by have := hi.2.2 h; dsimp only at *; omega⟩ zj); exact zq34; exact zq3; exact zq3; exact zq3; rfl)
 | fail) : P := h
theorem zr115 {P : Prop} (h : P := by
 first
 | (intro a w' r own hs'; exact ⟨_, fun _ => ⟨hroot, pls_of fun j t ht => hpl j t (by have := (List.getElem?_eq_some_iff.1 ht).1; omega) ht⟩, ⟨_, rfl, fun r => .inr rfl⟩, hs'.frm⟩)
 | fail) : P := h
theorem zr116 {P : Prop} (h : P := by
 first
 | (apply WX_lpF _ hX (hJ (i + 1, nd, ndm, nd, mm, tr) ⟨zj, hi.2.1, fun h => by have := hi.2.2 h; dsimp only at *; omega⟩ zj); exact zq34; exact zq3; exact zq3; exact zq3; rfl)
 | fail) : P := h
theorem zr117 {P : Prop} (h : P := by
 first
 | (apply WX_lpF _ hX (hJ (i + 1, nd + 1, ndm, dp, mm, true) ⟨zj, hi.2.1, fun _ => by dsimp only at *; omega⟩ zj); exact zq34; exact zq3; exact zq3; exact zq3; rfl)
 | fail) : P := h
theorem zr118 {P : Prop} (h : P := by
 first
 | (intro a w' r own hs'; exact ⟨true, fun _ => ⟨szpos (by assumption), by assumption⟩, ⟨_, rfl, fun r => .inr rfl⟩, hs'.frm⟩)
 | fail) : P := h
theorem zr119 {P : Prop} (h : P := by
 first
 | (with_reducible apply WX_lpF _ hX (hJ (true) (fun _ => by omega) zi)
    exact zq84; exact zq3; exact zq3; exact zq3; rfl)
 | fail) : P := h
