/- Lemmas for FnFilterTree; each condition stands in its statement. -/
import Derived.Test.YtbfenkhnfflpnaaGreatDoorGaa
import Derived.KernelRfl
import Derived.LoopN
import Derived.Laws.AppendOwn
import Derived.OwnWalk
import Derived.ArgAppend
namespace Go.Proofs.YtbfenkhnfflpnaaGreatDoor.Sx
open Go Go.RowKit
set_option maxRecDepth 100000
set_option maxHeartbeats 40000000
set_option linter.all false
def qop (P : Program) (S : St) (o : Oper) : Option (Prop × SV) :=
 match o.op with
 | .move x => some (True, ev S x)
 | .assign x => some (True, ev S x)
 | .pick c x y => qpick (ev S c) (ev S x) (ev S y)
 | .nilCheck x => qnil (ev S x)
 | .binOp op t x y _ => qbin P op t y (ev S x) (ev S y)
 | .unOp op _ x => qun op (ev S x)
 | .convert s d x => match P.underlying s with
   | some _ => qconv P d (ev S x)
   | none => none
 | .load t x => qload P S t (ev S x)
 | .fieldAddr s x i => qfaddr P s (ev S x) i
 | .field s x i => qfield P s (ev S x) i
 | .indexAddr t x i => qiaddr P t (ev S x) (ev S i)
 | .index t x i => qindex P t (ev S x) (ev S i)
 | .slice t x lo hi none => qslice P t (ev S x) (lo.map (ev S)) (hi.map (ev S))
 | .extract x i => qext (ev S x) i
 | .makeInterface t x => qmk P t (ev S x)
 | .typeAssert x _ at_ ok => qassert P at_ ok (ev S x)
 | .build t parts => qbuild P S t parts
 | .call c => qcall P S c
 | _ => none
section
variable {S : St} {a : Act} {w : World} {r : Nat -> Nat} {o : Oper} {P : Program}
theorem qop_ok {C : Prop} {sv : SV} (h : SimR S a w r) (hq : qop P S o = some (C, sv)) (hC : C) : Yl P r S.n o a w sv := by
 unfold qop at hq
 split at hq
 · rename_i x ho
   obtain ⟨_, rfl⟩ : True = C /\ ev S x = sv := by simpa using hq
   exact yl_pure h (.inl ho)
 · rename_i x ho
   obtain ⟨_, rfl⟩ : True = C /\ ev S x = sv := by simpa using hq
   exact yl_pure h (.inr ho)
 · rename_i ho; exact qpick_ok h ho hq
 · rename_i ho; exact qnil_ok h ho hq
 · rename_i ho; exact qbin_ok h ho hq hC
 · rename_i ho; exact qun_ok h ho hq hC
 · rename_i ho
   split at hq
   · rename_i hs; exact qconv_ok h ho hs hq hC
   · cases hq
 · rename_i ho; exact qload_ok h ho hq
 · rename_i ho; exact qfaddr_ok h ho hq
 · rename_i ho; exact qfield_ok h ho hq
 · rename_i ho; exact qiaddr_ok h ho hq hC
 · rename_i ho; exact qindex_ok h ho hq hC
 · rename_i ho; exact qslice_ok h ho hq hC
 · rename_i ho; exact qext_ok h ho hq
 · rename_i ho; exact qmk_ok h ho hq
 · rename_i x xt at_ ok ho
   obtain ⟨hx, hl⟩ := ev_ok h x
   unfold qassert at hq
   split at hq
   · rename_i t n q he
     rw [he] at hx hl
     exact qassert1_ok (c := .pt n q) (whole := .ic t n q) ho (ic_of hx) (.inr rfl) (.inr rfl) hl hl hq
   · rename_i t u he
     rw [he] at hx hl
     exact qassert1_ok (c := .va u) (whole := .va (.iface t u)) ho (va_of hx) (.inr rfl) (.inr rfl) trivial trivial hq
   · cases hq
 · rename_i ho; exact qbuild_ok h ho hq
 · rename_i ho; exact qcall_ok h ho hq
 · cases hq
end
inductive Kt where
 | nil
 | sq (c : Code) (k : Kt)
 | bl (id : Nat) (k : Kt)
 | lp (I : Act -> World -> Prop) (k : Kt)
structure En where
 X : Cx
 A : Facts
 Q : Exit -> Act -> World -> Prop
def kq (E : En) : Kt -> Exit -> Act -> World -> Prop
 | .nil => E.Q
 | .sq c k => Exit.then (c.wp E.X.P (kq E k)) (kq E k)
 | .bl id k => Exit.inBlock id (kq E k)
 | .lp I k => Exit.then I (kq E k)
def WC (E : En) (c : Code) (k : Kt) (S : St) : Prop := ∀ a w r own, Sim E.X S E.A a w r own -> c.wp E.X.P (kq E k) a w
def WL (E : En) (ops l : List Oper) (k : Kt) (S : St) : Prop := ∀ a w r own, Sim E.X S E.A a w r own -> wpList E.X.P ops.toArray (kq E k) l a w
def WX (E : En) (e : Exit) (k : Kt) (S : St) : Prop := ∀ a w r own, Sim E.X S E.A a w r own -> kq E k e a w
def WO (E : En) (ops : List Oper) (o : Oper) (l : List Oper) (k : Kt) (S : St) : Prop := ∀ a w r own, Sim E.X S E.A a w r own -> o.wp E.X.P a w (wpList E.X.P ops.toArray (kq E k) l) (kq E k)
def nthO : List Oper -> Nat -> Option Oper
 | [], _ => none
 | t :: _, 0 => some t
 | _ :: l, n + 1 => nthO l n
theorem nthO_eq : ∀ (l : List Oper) (n : Nat), nthO l n = l[n]?
 | [], n => by simp [nthO]
 | t :: l, 0 => by simp [nthO]
 | t :: l, n + 1 => by simp [nthO, nthO_eq l n]
def asB : SV -> Option (Option Bool)
 | .sc (.va u) => match u with
   | .bool b => some (some b)
   | _ => some none
 | _ => none
theorem asB_undef : asB (.sc (.va undef)) = some none := rfl
theorem asB_bool (b : Bool) : asB (.sc (.va (.bool b))) = some (some b) := rfl
theorem asB_some {s : SV} {b : Bool} (h : asB s = some (some b)) : s = .sc (.va (.bool b)) := by
 unfold asB at h
 split at h
 · split at h
   · simp only [Option.some.injEq] at h
     subst h
     rfl
   · cases h
 · cases h
theorem asB_none {s : SV} (h : asB s = some none) : ∃ u, s = .sc (.va u) /\ ∀ b, u ≠ .bool b := by
 unfold asB at h
 split at h
 · split at h
   · cases h
   · rename_i u hu
     exact ⟨_, rfl, hu⟩
 · cases h
mutual
def vc (E : En) : Nat -> Code -> Kt -> St -> Prop
 | 0, c, k, S => WC E c k S
 | n + 1, .skip, k, S => vx E n .normal k S
 | n + 1, .seq a b, k, S => vc E n a (.sq b k) S
 | n + 1, .block id b, k, S => vc E n b (.bl id k) S
 | n + 1, .ret, k, S => vx E n .ret k S
 | n + 1, .exit id, k, S => vx E n (.exit id) k S
 | n + 1, .cond c t e, k, S => match ev S c with
   | .sc (.va (.bool b)) => vb E n b t e k S
   | _ => WC E (.cond c t e) k S
 | n + 1, .region id ops d, k, S => match d with
   | false => vl E n ops.toList ops.toList k S
   | true => WC E (.region id ops true) k S
 | _ + 1, .loop b, k, S => WC E (.loop b) k S
 | _ + 1, .rangeFunc f p x b, k, S => WC E (.rangeFunc f p x b) k S
 | _ + 1, .scope b, k, S => WC E (.scope b) k S
 | n + 1, .label _, k, S => vx E n .normal k S
 | _ + 1, .goto l, k, S => WC E (.goto l) k S
 | _ + 1, .refuse s, k, S => WC E (.refuse s) k S
def vx (E : En) : Nat -> Exit -> Kt -> St -> Prop
 | 0, e, k, S => WX E e k S
 | _ + 1, e, .nil, S => WX E e .nil S
 | n + 1, .normal, .sq c k, S => vc E n c k S
 | n + 1, .exit i, .sq _ k, S => vx E n (.exit i) k S
 | n + 1, .ret, .sq _ k, S => vx E n .ret k S
 | n + 1, .normal, .bl _ k, S => vx E n .normal k S
 | n + 1, .exit i, .bl id k, S => if i = id then vx E n .normal k S else vx E n (.exit i) k S
 | n + 1, .ret, .bl _ k, S => vx E n .ret k S
 | _ + 1, .normal, .lp I k, S => WX E .normal (.lp I k) S
 | n + 1, .exit i, .lp _ k, S => vx E n (.exit i) k S
 | n + 1, .ret, .lp _ k, S => vx E n .ret k S
 | _ + 1, .goto l, k, S => WX E (.goto l) k S
 | _ + 1, .panic c, k, S => WX E (.panic c) k S
 | _ + 1, .outgrown, k, S => WX E .outgrown k S
def vb (E : En) : Nat -> Bool -> Code -> Code -> Kt -> St -> Prop
 | 0, true, t, _, k, S => WC E t k S
 | 0, false, _, e, k, S => WC E e k S
 | n + 1, true, t, _, k, S => vc E n t k S
 | n + 1, false, _, e, k, S => vc E n e k S
def vl (E : En) : Nat -> List Oper -> List Oper -> Kt -> St -> Prop
 | 0, ops, l, k, S => WL E ops l k S
 | n + 1, _, [], k, S => vx E n .normal k S
 | n + 1, ops, o :: l, k, S => match o.guard with
   | none => vo E n ops o l k S
   | some (j, want) => match nthO ops j with
     | some oj => match oj.dst with
       | some d => match asB (look S.t d) with
         | some (some b) => vg E n b want d ops o l k S
         | some none => vl E n ops l k (S.put o.dst undefSV)
         | none => WL E ops (o :: l) k S
       | none => WL E ops (o :: l) k S
     | none => WL E ops (o :: l) k S
def vg (E : En) : Nat -> Bool -> Bool -> Tmp -> List Oper -> Oper -> List Oper -> Kt -> St -> Prop
 | 0, true, want, d, ops, o, l, k, S => if want then WO E ops o l k (S.put (some d) (.sc (.va (.bool true)))) else WL E ops l k ((S.put (some d) (.sc (.va (.bool true)))).put o.dst undefSV)
 | 0, false, want, d, ops, o, l, k, S => if want then WL E ops l k ((S.put (some d) (.sc (.va (.bool false)))).put o.dst undefSV) else WO E ops o l k (S.put (some d) (.sc (.va (.bool false))))
 | n + 1, true, true, d, ops, o, l, k, S => vo E n ops o l k (S.put (some d) (.sc (.va (.bool true))))
 | n + 1, true, false, d, ops, o, l, k, S => vl E n ops l k ((S.put (some d) (.sc (.va (.bool true)))).put o.dst undefSV)
 | n + 1, false, true, d, ops, o, l, k, S => vl E n ops l k ((S.put (some d) (.sc (.va (.bool false)))).put o.dst undefSV)
 | n + 1, false, false, d, ops, o, l, k, S => vo E n ops o l k (S.put (some d) (.sc (.va (.bool false))))
def vo (E : En) : Nat -> List Oper -> Oper -> List Oper -> Kt -> St -> Prop
 | 0, ops, o, l, k, S => WO E ops o l k S
 | n + 1, ops, o, l, k, S => match qop E.X.P S o with
   | some (C, sv) => C /\ vl E n ops l k (S.put o.dst sv)
   | none => match qmem E.X.P S o with
     | some S' => vl E n ops l k S'
     | none => WO E ops o l k S
end
section
variable {E : En}
theorem WL_of_WO {ops l : List Oper} {o : Oper} {k : Kt} {S : St} (hw : ∀ a w r own, Sim E.X S E.A a w r own -> Region.wanted o (yielded ops.toArray a.tmps) = true) (h : WO E ops o l k S) : WL E ops (o :: l) k S := by
 intro a w r own hs
 unfold wpList
 rw [if_pos (hw a w r own hs)]
 exact .inl (h a w r own hs)
theorem WL_skip {ops l : List Oper} {o : Oper} {k : Kt} {S : St} (hw : ∀ a w r own, Sim E.X S E.A a w r own -> Region.wanted o (yielded ops.toArray a.tmps) = false) (h : WL E ops l k (S.put o.dst undefSV)) : WL E ops (o :: l) k S := by
 intro a w r own hs
 unfold wpList
 rw [if_neg (by rw [hw a w r own hs]; simp)]
 exact h _ w r own (hs.put o.dst (ok_va r undef) trivial)
theorem upd_look : ∀ (l : List SV) (n : Nat), upd l n (look l n) = l
 | [], _ => rfl
 | _ :: _, 0 => rfl
 | h :: t, n + 1 => by simp [upd, look, upd_look t n]
theorem put_look (S : St) (d : Tmp) {sv : SV} (h : look S.t d = sv) : S.put (some d) sv = S := by
 subst h
 simp [St.put, upd_look]
theorem yielded_of {X : Cx} {S : St} {A : Facts} {a : Act} {w : World} {r : Nat -> Nat} {own : Nat -> Option Ent} (hs : Sim X S A a w r own) {ops : List Oper} {j : Nat} {oj : Oper} {d : Tmp} {b : Bool}
 (h1 : nthO ops j = some oj) (h2 : oj.dst = some d) (h3 : look S.t d = .sc (.va (.bool b))) : yielded ops.toArray a.tmps j = some b := by
 rw [nthO_eq] at h1
 have hd : d < S.t.length := by
  rcases Nat.lt_or_ge d S.t.length with h | h
  · exact h
  · rw [(look_spec S.t d).2 h] at h3
    injection h3 with h3
    injection h3 with h3
    cases h3
 have hv := va_of (h3 ▸ hs.slot d _ ((look_spec S.t d).1 hd))
 have hd' : d < a.tmps.size := hs.sz ▸ hd
 have hg : a.tmps[d]? = some (.bool b) := by
  rw [<- hv]
  simp [hd']
 simp [yielded, h1, h2, hg]
mutual
theorem vc_ok : ∀ (n : Nat) (c : Code) (k : Kt) (S : St), vc E n c k S -> WC E c k S
 | 0, c, k, S, h => by simpa only [vc] using h
 | n + 1, .skip, k, S, h => fun a w r own hs => wp_skip (vx_ok n _ k S (by simpa only [vc] using h) a w r own hs)
 | n + 1, .seq x y, k, S, h => fun a w r own hs => wp_seq (vc_ok n x (.sq y k) S (by simpa only [vc] using h) a w r own hs)
 | n + 1, .block id b, k, S, h => fun a w r own hs => wp_block (vc_ok n b (.bl id k) S (by simpa only [vc] using h) a w r own hs)
 | n + 1, .ret, k, S, h => fun a w r own hs => wp_ret (vx_ok n _ k S (by simpa only [vc] using h) a w r own hs)
 | n + 1, .exit id, k, S, h => fun a w r own hs => wp_exit (vx_ok n _ k S (by simpa only [vc] using h) a w r own hs)
 | n + 1, .cond c t e, k, S, h => by
   simp only [vc] at h
   split at h
   · rename_i b hb
     intro a w r own hs
     have he := (ev_ok hs.toR c).1
     rw [hb] at he
     have h' := vb_ok n b t e k S h
     cases b
     · exact wp_cond_false (va_of he) (h' a w r own hs)
     · exact wp_cond_true (va_of he) (h' a w r own hs)
   · exact h
 | n + 1, .region id ops d, k, S, h => by
   simp only [vc] at h
   cases d with
   | false =>
     intro a w r own hs
     have := vl_ok n ops.toList ops.toList k S h a w r own hs
     exact wp_region_list (by simpa using this)
   | true => exact h
 | _ + 1, .loop b, k, S, h => by simpa only [vc] using h
 | _ + 1, .rangeFunc f p x b, k, S, h => by simpa only [vc] using h
 | _ + 1, .scope b, k, S, h => by simpa only [vc] using h
 | n + 1, .label _, k, S, h => fun a w r own hs => wp_label (vx_ok n _ k S (by simpa only [vc] using h) a w r own hs)
 | _ + 1, .goto l, k, S, h => by simpa only [vc] using h
 | _ + 1, .refuse s, k, S, h => by simpa only [vc] using h
theorem vx_ok : ∀ (n : Nat) (e : Exit) (k : Kt) (S : St), vx E n e k S -> WX E e k S
 | 0, e, k, S, h => by cases e <;> cases k <;> simpa only [vx] using h
 | _ + 1, e, .nil, S, h => by cases e <;> simpa only [vx] using h
 | n + 1, .normal, .sq c k, S, h => fun a w r own hs => vc_ok n c k S (by simpa only [vx] using h) a w r own hs
 | n + 1, .exit i, .sq _ k, S, h => fun a w r own hs => vx_ok n (.exit i) k S (by simpa only [vx] using h) a w r own hs
 | n + 1, .ret, .sq _ k, S, h => fun a w r own hs => vx_ok n .ret k S (by simpa only [vx] using h) a w r own hs
 | n + 1, .normal, .bl _ k, S, h => fun a w r own hs => vx_ok n .normal k S (by simpa only [vx] using h) a w r own hs
 | n + 1, .exit i, .bl id k, S, h => fun a w r own hs => by
   simp only [vx] at h
   show Exit.inBlock id (kq E k) (.exit i) a w
   simp only [Exit.inBlock]
   split at h
   · rename_i hi
     rw [if_pos hi]
     exact vx_ok n .normal k S h a w r own hs
   · rename_i hi
     rw [if_neg hi]
     exact vx_ok n (.exit i) k S h a w r own hs
 | n + 1, .ret, .bl _ k, S, h => fun a w r own hs => vx_ok n .ret k S (by simpa only [vx] using h) a w r own hs
 | _ + 1, .normal, .lp I k, S, h => by simpa only [vx] using h
 | n + 1, .exit i, .lp _ k, S, h => fun a w r own hs => vx_ok n (.exit i) k S (by simpa only [vx] using h) a w r own hs
 | n + 1, .ret, .lp _ k, S, h => fun a w r own hs => vx_ok n .ret k S (by simpa only [vx] using h) a w r own hs
 | _ + 1, .goto l, .sq _ _, S, h => by simpa only [vx] using h
 | _ + 1, .goto l, .bl _ _, S, h => by simpa only [vx] using h
 | _ + 1, .goto l, .lp _ _, S, h => by simpa only [vx] using h
 | _ + 1, .panic c, .sq _ _, S, h => by simpa only [vx] using h
 | _ + 1, .panic c, .bl _ _, S, h => by simpa only [vx] using h
 | _ + 1, .panic c, .lp _ _, S, h => by simpa only [vx] using h
 | _ + 1, .outgrown, .sq _ _, S, h => by simpa only [vx] using h
 | _ + 1, .outgrown, .bl _ _, S, h => by simpa only [vx] using h
 | _ + 1, .outgrown, .lp _ _, S, h => by simpa only [vx] using h
theorem vb_ok : ∀ (n : Nat) (b : Bool) (t e : Code) (k : Kt) (S : St), vb E n b t e k S -> WC E (if b then t else e) k S
 | 0, true, t, e, k, S, h => by simp only [vb] at h; exact h
 | 0, false, t, e, k, S, h => by simp only [vb] at h; exact h
 | n + 1, true, t, e, k, S, h => vc_ok n t k S (by simpa only [vb] using h)
 | n + 1, false, t, e, k, S, h => vc_ok n e k S (by simpa only [vb] using h)
theorem vl_ok : ∀ (n : Nat) (ops l : List Oper) (k : Kt) (S : St), vl E n ops l k S -> WL E ops l k S
 | 0, ops, l, k, S, h => by cases l <;> simpa only [vl] using h
 | n + 1, ops, [], k, S, h => fun a w r own hs => vx_ok n .normal k S (by simpa only [vl] using h) a w r own hs
 | n + 1, ops, o :: l, k, S, h => by
   simp only [vl] at h
   split at h
   · rename_i hg
     exact WL_of_WO (fun a w r own _ => by simp [Region.wanted, hg]) (vo_ok n ops o l k S h)
   · rename_i j want hg
     split at h
     · rename_i oj hj
       split at h
       · rename_i d hd
         split at h
         · rename_i b hb
           have hb := asB_some hb
           have hy : ∀ a w r own, Sim E.X S E.A a w r own -> Region.wanted o (yielded ops.toArray a.tmps) = (b == want) := fun a w r own hs => by
            rw [Region.wanted, hg]
            simp only [yielded_of hs hj hd hb]
            rfl
           have h' := vg_ok n b want d ops o l k S h
           rw [put_look S d hb] at h'
           cases hbw : (b == want)
           · rw [hbw] at hy
             simp only [hbw, Bool.false_eq_true, if_false] at h'
             exact WL_skip hy h'
           · rw [hbw] at hy
             simp only [hbw, if_true] at h'
             exact WL_of_WO hy h'
         · rename_i hb
           obtain ⟨u, hu, hub⟩ := asB_none hb
           refine WL_skip (fun a w r own hs => ?_) (vl_ok n ops l k _ h)
           have hga : ∀ v, a.tmps[d]? = some v -> ∀ b, v ≠ .bool b := by
            intro v hv
            have hda := (Array.getElem?_eq_some_iff.1 hv).1
            have hd' : d < S.t.length := hs.sz ▸ hda
            have hvu := va_of (hu ▸ hs.slot d _ ((look_spec S.t d).1 hd'))
            have hvv : v = u := by
             rw [<- hvu]
             simp [hv]
            rw [hvv]
            exact hub
           rw [nthO_eq] at hj
           have hyy : yielded ops.toArray a.tmps j = none := by
            unfold yielded
            simp only [List.getElem?_toArray, hj, Option.bind_some, hd]
            split
            · rename_i b hb'
              exact absurd rfl (hga _ hb' b)
            · rfl
           unfold Region.wanted
           rw [hg]
           simp only [hyy]
           rfl
         · exact h
       · exact h
     · exact h
theorem vg_ok : ∀ (n : Nat) (b want : Bool) (d : Tmp) (ops : List Oper) (o : Oper) (l : List Oper) (k : Kt) (S : St), vg E n b want d ops o l k S ->
 if (b == want) = true then WO E ops o l k (S.put (some d) (.sc (.va (.bool b)))) else WL E ops l k ((S.put (some d) (.sc (.va (.bool b)))).put o.dst undefSV)
 | 0, true, true, d, ops, o, l, k, S, h => by simpa [vg] using h
 | 0, true, false, d, ops, o, l, k, S, h => by simpa [vg] using h
 | 0, false, true, d, ops, o, l, k, S, h => by simpa [vg] using h
 | 0, false, false, d, ops, o, l, k, S, h => by simpa [vg] using h
 | n + 1, true, true, d, ops, o, l, k, S, h => by simpa using vo_ok n ops o l k _ (by simpa only [vg] using h)
 | n + 1, true, false, d, ops, o, l, k, S, h => by simpa using vl_ok n ops l k _ (by simpa only [vg] using h)
 | n + 1, false, true, d, ops, o, l, k, S, h => by simpa using vl_ok n ops l k _ (by simpa only [vg] using h)
 | n + 1, false, false, d, ops, o, l, k, S, h => by simpa using vo_ok n ops o l k _ (by simpa only [vg] using h)
theorem vo_ok : ∀ (n : Nat) (ops : List Oper) (o : Oper) (l : List Oper) (k : Kt) (S : St), vo E n ops o l k S -> WO E ops o l k S
 | 0, ops, o, l, k, S, h => by simpa only [vo] using h
 | n + 1, ops, o, l, k, S, h => by
   simp only [vo] at h
   split at h
   · rename_i C sv hq
     intro a w r own hs
     obtain ⟨a', hr, hs'⟩ := (qop_ok hs.toR hq h.1).res hs
     exact hr.wp (vl_ok n ops l k _ h.2 a' w r own hs')
   · split at h
     · rename_i S' hq
       intro a w r own hs
       obtain ⟨a', w', r', own', hr, hs', _⟩ := qmem_ok hs hq
       exact hr.wp (vl_ok n ops l k _ h a' w' r' own' hs')
     · exact h
end
end
attribute [irreducible] vc vx vb vl vg vo
def Cl.known : Cl -> Bool
 | .un => false
 | _ => true
def TV.known : TV -> Bool
 | .sc c => c.known
 | .ag l => l.all Cl.known
def TV.den (r : Nat -> Nat) : TV -> Value
 | .sc c => c.den r
 | .ag l => .agg (l.map (Cl.den r)).toArray
theorem CL_den {r : Nat -> Nat} : ∀ {l : List Cl} {vs : List Value}, l.all Cl.known = true -> CL r l vs -> vs = l.map (Cl.den r) := by
 intro l vs hk h
 apply List.ext_getElem?
 intro i
 have h1 := h.1
 rw [List.getElem?_map]
 cases hl : l[i]? with
 | none =>
   have : vs.length <= i := by rw [<- h1]; exact List.getElem?_eq_none_iff.1 hl
   simp [List.getElem?_eq_none this]
 | some c =>
   have hi : i < vs.length := by rw [<- h1]; exact (List.getElem?_eq_some_iff.1 hl).1
   have hok := h.2 i c hl
   have hkc : c.known = true := List.all_eq_true.1 hk c (List.mem_of_getElem? hl)
   have he : vs.getD i undef = c.den r := by
    rcases hok with rfl | hok
    · cases hkc
    · exact hok
   rw [List.getElem?_eq_getElem hi]
   rw [List.getD_eq_getElem?_getD, List.getElem?_eq_getElem hi] at he
   simpa using he
theorem TV_den {r : Nat -> Nat} {t : TV} {u : Value} (hk : t.known = true) (h : t.ok r u) : u = t.den r := by
 cases t with
 | sc c =>
   rcases h with rfl | h
   · cases hk
   · exact h
 | ag l =>
   obtain ⟨vs, rfl, hc⟩ := h
   rw [CL_den hk hc]
   rfl
def retV : List Value -> Value
 | [v] => v
 | vs => .tuple vs.toArray
def resT (P : Program) (S : St) : ResultVar -> Option TV
 | .tmp t => match look S.t t with
   | .sc c => some (.sc c)
   | .ag l => some (.ag l)
   | .tu _ => none
 | .cell d t => match qload P S t (look S.t d) with
   | some (_, .sc c) => some (.sc c)
   | some (_, .ag l) => some (.ag l)
   | _ => none
def resL (P : Program) (S : St) : List ResultVar -> Option (List TV)
 | [] => some []
 | x :: l => match resT P S x, resL P S l with
   | some t, some ts => some (t :: ts)
   | _, _ => none
section
variable {X : Cx} {S : St} {A : Facts} {a : Act} {w : World} {r : Nat -> Nat} {own : Nat -> Option Ent} {P : Program}
def resRun (P : Program) (tmps : Array Value) : ResultVar -> Sem Value
 | .tmp t => pure (tmps.getD t undef)
 | .cell a t => do loadVar t (<- asAddr (tmps.getD a undef))
theorem resT_ok (h : SimR S a w r) {x : ResultVar} {t : TV} (ht : resT P S x = some t) : ∃ u, (resRun P a.tmps x).run P w = .ok u w /\ t.ok r u := by
 cases x with
 | tmp d =>
   have he := (ev_ok h (.tmp d)).1
   simp only [ev, Act.eval] at he
   simp only [resT] at ht
   refine ⟨_, rfl, ?_⟩
   split at ht
   · rename_i c hc
     rw [hc] at he
     obtain rfl : TV.sc c = t := by simpa using ht
     exact he
   · rename_i l hc
     rw [hc] at he
     obtain rfl : TV.ag l = t := by simpa using ht
     exact he
   · cases ht
 | cell d ty =>
   have he := (ev_ok h (.tmp d)).1
   have hq : ∀ C sv, qload P S ty (look S.t d) = some (C, sv) -> ∃ u, (resRun P a.tmps (.cell d ty)).run P w = .ok u w /\ sv.ok r u := by
    intro C sv hq
    have hpt : ∃ n q, look S.t d = .sc (.pt n q) := by
     unfold qload at hq
     split at hq
     · rename_i n q hn; exact ⟨n, q, hn⟩
     · cases hq
    obtain ⟨n, q, hn⟩ := hpt
    obtain ⟨u, h1, _, h3⟩ := qload_ok (P := P) (o := { dst := none, op := .load ty (.tmp d), type := 0, pos := "", after := #[], guard := none }) h rfl hq
    simp only [ev, hn] at he
    have hp := pt_of he
    refine ⟨u, ?_, h1⟩
    simp only [execOp, Instr.loadAt, Instr.sureAddr, hp, Sem.run_bind, Sem.run_pure, Result.andThen_ok] at h3
    simp only [Act.eval] at hp
    simp only [resRun, hp, asAddr, Sem.run_bind, Sem.run_pure, Result.andThen_ok]
    cases hr : (loadVar ty ⟨r n, q, none⟩).run P w with
    | ok v w' =>
      rw [hr] at h3
      simp only [Result.andThen_ok, Result.ok.injEq, Next.value.injEq] at h3
      obtain ⟨rfl, rfl⟩ := h3
      rfl
    | halt x w' =>
      rw [hr] at h3
      cases h3
   simp only [resT] at ht
   split at ht
   · rename_i C c hc
     obtain rfl : TV.sc c = t := by simpa using ht
     exact hq _ _ hc
   · rename_i C l hc
     obtain rfl : TV.ag l = t := by simpa using ht
     exact hq _ _ hc
   · cases ht
theorem resL_ok (h : SimR S a w r) : ∀ {xs : List ResultVar} {ts : List TV}, resL P S xs = some ts -> ts.all TV.known = true -> (xs.mapM (resRun P a.tmps)).run P w = .ok (ts.map (TV.den r)) w
 | [], ts, ht, _ => by
   obtain rfl : [] = ts := by simpa [resL] using ht
   rfl
 | x :: xs, ts, ht, hk => by
   simp only [resL] at ht
   split at ht
   · rename_i t ts' h1 h2
     obtain rfl : t :: ts' = ts := by simpa using ht
     simp only [List.all_cons, Bool.and_eq_true] at hk
     obtain ⟨u, hu, hok⟩ := resT_ok h h1
     have := TV_den hk.1 hok
     subst this
     simp [List.mapM_cons, hu, resL_ok h h2 hk.2]
   · cases ht
theorem results_run {fn : Func} (h : SimR S a w r) {ts : List TV} (ht : resL P S fn.results.toList = some ts) (hk : ts.all TV.known = true) : (results fn a.tmps).run P w = .ok (retV (ts.map (TV.den r))) w := by
 have hf : results fn a.tmps = (do
  let vs <- fn.results.mapM (resRun P a.tmps)
  pure (if h : vs.size = 1 then vs[0] else .tuple vs)) := rfl
 rw [hf, Array.mapM_eq_mapM_toList]
 simp only [bind_map_left, Sem.run_bind, resL_ok h ht hk, Result.andThen_ok, Sem.run_pure]
 congr 1
 generalize ts.map (TV.den r) = vs
 match vs with
 | [] => rfl
 | [v] => rfl
 | v :: v' :: l => simp [retV]
end
def Fin (E : En) (fn : Func) (R : Ending -> World -> Prop) (S : St) : Prop :=
 match resL E.X.P S fn.results.toList with
 | some ts => ts.all TV.known = true /\ ∀ a w r own, Sim E.X S E.A a w r own -> R (.returned (retV (ts.map (TV.den r)))) w
 | none => False
theorem WX_fin {E : En} {X : Cx} {fn : Func} {R : Ending -> World -> Prop} {e : Exit} {S : St} (hX : E.X = X) (hd : X.d = []) (hQ : E.Q = bodyPost X.P fn R) (he : e = .ret \/ e = .normal) (h : Fin E fn R S) : WX E e .nil S := by
 intro a w r own hs
 show E.Q e a w
 rw [hQ]
 unfold Fin at h
 split at h
 · rename_i ts ht
   have hres := results_run hs.toR ht h.1
   rw [hX] at hres
   have hdf : a.defers = [] := by rw [hs.dfr, hX, hd]
   rcases he with rfl | rfl
   · exact ⟨hdf, _, hres, h.2 a w r own hs⟩
   · exact ⟨hdf, _, hres, h.2 a w r own hs⟩
 · exact h.elim
def argSV : Value -> SV
 | .agg cs => .ag (cs.toList.map .va)
 | v => .sc (.va v)
def start (args : List Value) (k : Nat) : St := ⟨args.map argSV ++ List.replicate k undefSV, [], 0, 0⟩
theorem argSV_ok (r : Nat -> Nat) (v : Value) : (argSV v).ok r v /\ (argSV v).lt 0 := by
 unfold argSV
 split
 · rename_i cs
   refine ⟨⟨cs.toList, by simp, CL_va _⟩, ltL_va _ _⟩
 · exact ⟨ok_va r _, trivial⟩
theorem frame_ok {vs : List Value} {svs : List SV} {r : Nat -> Nat} {b k : Nat} (hl : svs.length = vs.length) (h : ∀ (i : Nat) (s : SV), svs[i]? = some s -> s.ok r (vs.getD i undef) /\ s.lt b) :
 (vs.toArray ++ Array.replicate k undef).size = (svs ++ List.replicate k undefSV).length /\
 (∀ (j : Nat) (s : SV), (svs ++ List.replicate k undefSV)[j]? = some s -> s.ok r ((vs.toArray ++ Array.replicate k undef).getD j undef)) /\ ∀ s : SV, s ∈ svs ++ List.replicate k undefSV -> s.lt b := by
 refine ⟨by simp [hl], fun j s hj => ?_, fun s hs => ?_⟩
 · have hg : (vs.toArray ++ Array.replicate k undef).getD j undef = (vs ++ List.replicate k undef).getD j undef := by
    rw [show vs.toArray ++ Array.replicate k undef = (vs ++ List.replicate k undef).toArray by simp]
    simp [List.getD_eq_getElem?_getD]
   rw [hg, List.getD_eq_getElem?_getD]
   rcases Nat.lt_or_ge j svs.length with hlt | hge
   · rw [List.getElem?_append_left hlt] at hj
     rw [List.getElem?_append_left (by omega), <- List.getD_eq_getElem?_getD]
     exact (h j s hj).1
   · rw [List.getElem?_append_right hge, List.getElem?_replicate] at hj
     split at hj
     · obtain rfl : undefSV = s := by simpa using hj
       rw [List.getElem?_append_right (by omega), List.getElem?_replicate]
       split <;> exact ok_va r undef
     · cases hj
 · rcases List.mem_append.1 hs with hs | hs
   · obtain ⟨i, hi⟩ := List.getElem?_of_mem hs
     exact (h i s hi).2
   · obtain ⟨_, rfl⟩ := List.mem_replicate.1 hs
     trivial
theorem calls_start {P : Program} {f : FuncId} {fn : Func} {c : Code} {args : List Value} {w : World} {R : Ending -> World -> Prop} (n : Nat)
 (hf : P.funcs[f]? = some fn) (hb : fn.body = some c) (h : ∀ E : En, E.X = ⟨P, w, fun _ => False, [], []⟩ -> E.X.P = P -> E.A = [] -> E.Q = bodyPost P fn R -> vc E n c .nil (start args (fn.ntmps - args.length))) : Calls P f args.toArray w R := by
 refine calls_of_wp hf hb ?_
 replace h := h ⟨⟨P, w, fun _ => False, [], []⟩, [], bodyPost P fn R⟩ rfl rfl rfl rfl
 have hfr := frame_ok (vs := args) (svs := args.map argSV) (r := fun _ => 0) (b := 0) (k := fn.ntmps - args.length) (by simp) (fun i s hi => by
  rw [List.getElem?_map] at hi
  cases hv : args[i]? with
  | none => simp [hv] at hi
  | some v =>
    simp only [hv, Option.map_some, Option.some.injEq] at hi
    subst hi
    rw [List.getD_eq_getElem?_getD, hv]
    exact argSV_ok _ v)
 have := vc_ok n c .nil _ h { tmps := args.toArray ++ Array.replicate (fn.ntmps - args.length) undef, defers := [] } w (fun _ => 0) (fun _ => none)
  ⟨rfl, hfr.1, hfr.2.1, hfr.2.2, fun _ _ _ hm => (by cases hm), fun _ _ hm => (by cases hm), fun _ _ hk => (by cases hk), fun _ _ hk => (by cases hk), fun _ _ hk => (by cases hk), Frm.refl _ _, fun _ _ hm => (by cases hm)⟩
 simpa [kq] using this
def start1 (t : TypeId) (cs : List Value) (args : List Value) (k : Nat) : St := ⟨.sc (.pt 0 0) :: args.map argSV ++ List.replicate k undefSV, [(0, t, cs.map .va)], 1, 0⟩
section
variable {E : En} (n : Nat) (t e : Code) (k : Kt) (S : St) (d : Tmp) (ops l : List Oper) (o : Oper)
theorem vb_dec {p : Prop} [Decidable p] (h1 : p -> vb E n true t e k S) (h2 : ¬ p -> vb E n false t e k S) : vb E n (decide p) t e k S := by
 by_cases h : p
 · simpa [h] using h1 h
 · simpa [h] using h2 h
theorem vb_ndec {p : Prop} [Decidable p] (h1 : ¬ p -> vb E n true t e k S) (h2 : p -> vb E n false t e k S) : vb E n (!decide p) t e k S := by
 by_cases h : p
 · simpa [h] using h2 h
 · simpa [h] using h1 h
theorem vg_dec {want : Bool} {p : Prop} [Decidable p] (h1 : p -> vg E n true want d ops o l k S) (h2 : ¬ p -> vg E n false want d ops o l k S) : vg E n (decide p) want d ops o l k S := by
 by_cases h : p
 · simpa [h] using h1 h
 · simpa [h] using h2 h
theorem vg_ndec {want : Bool} {p : Prop} [Decidable p] (h1 : ¬ p -> vg E n true want d ops o l k S) (h2 : p -> vg E n false want d ops o l k S) : vg E n (!decide p) want d ops o l k S := by
 by_cases h : p
 · simpa [h] using h2 h
 · simpa [h] using h1 h
theorem vb_t : vb E (n + 1) true t e k S = vc E n t k S := by simp only [vb]
theorem vb_f : vb E (n + 1) false t e k S = vc E n e k S := by simp only [vb]
theorem vg_tt : vg E (n + 1) true true d ops o l k S = vo E n ops o l k (S.put (some d) (.sc (.va (.bool true)))) := by simp only [vg]
theorem vg_tf : vg E (n + 1) true false d ops o l k S = vl E n ops l k ((S.put (some d) (.sc (.va (.bool true)))).put o.dst undefSV) := by simp only [vg]
theorem vg_ft : vg E (n + 1) false true d ops o l k S = vl E n ops l k ((S.put (some d) (.sc (.va (.bool false)))).put o.dst undefSV) := by simp only [vg]
theorem vg_ff : vg E (n + 1) false false d ops o l k S = vo E n ops o l k (S.put (some d) (.sc (.va (.bool false)))) := by simp only [vg]
end
attribute [go_sem] look upd St.put ev St.new setC setH findH takeN getN qpick qnil isConstO eqV arith bopI bop qbin qload qfaddr qfield qun qconv nthT TV.sv qext qmk qindex qiaddr bound qslice qlen qcall cellsOf Cl.one Value.oneCell'
 fillB nthP qbuild asserted qassert1 qassert undefSV qmem qop nthO vc vx vb_t vb_f asB_undef asB_bool vl vg_tt vg_tf vg_ft vg_ff vo retV resT resL TV.known Cl.known TV.den Cl.den Fin argSV start start1
 List.map_cons List.map_nil List.cons_append List.nil_append List.replicate List.length_cons List.length_nil true_and and_true List.all_cons List.all_nil Bool.and_true Bool.true_and
def SV.known : SV -> Bool
 | .sc c => c.known
 | .ag l => l.all Cl.known
 | .tu l => l.all TV.known
def SV.den (r : Nat -> Nat) : SV -> Value
 | .sc c => c.den r
 | .ag l => .agg (l.map (Cl.den r)).toArray
 | .tu l => .tuple (l.map (TV.den r)).toArray
theorem SV_den {r : Nat -> Nat} {t : SV} {u : Value} (hk : t.known = true) (h : t.ok r u) : u = t.den r := by
 cases t with
 | sc c => exact TV_den (t := .sc c) hk h
 | ag l => exact TV_den (t := .ag l) hk h
 | tu l =>
   obtain ⟨vs, rfl, h1, h2⟩ := h
   congr 2
   apply List.ext_getElem?
   intro i
   rw [List.getElem?_map]
   cases hl : l[i]? with
   | none =>
     have : vs.length <= i := by rw [<- h1]; exact List.getElem?_eq_none_iff.1 hl
     simp [List.getElem?_eq_none this]
   | some c =>
     have hi : i < vs.length := by rw [<- h1]; exact (List.getElem?_eq_some_iff.1 hl).1
     have hok := TV_den (List.all_eq_true.1 hk c (List.mem_of_getElem? hl)) (h2 i c hl)
     rw [List.getElem?_eq_getElem hi]
     rw [List.getD_eq_getElem?_getD, List.getElem?_eq_getElem hi] at hok
     simpa using hok
def New (B : Asn) (w w' : World) : Prop := ∃ F : Nat -> Prop, (∀ k, F k -> w.heap.size <= k /\ k < w'.heap.size) /\ B.P w' F
def Ret0 {α : Type} (res : α -> SV) (φ : α -> Prop) (w : World) (e : Ending) (w' : World) : Prop :=
 ∃ x, φ x /\ (∃ u, e = .returned u /\ ∀ r, (res x).ok r u) /\ Frm (fun _ => False) w w'
def Ret1 {α : Type} (res : α -> SV) (φ : α -> Prop) (B : α -> Asn) (w : World) (e : Ending) (w' : World) : Prop :=
 ∃ x, φ x /\ (∃ u, e = .returned u /\ ∀ r, (res x).ok r u) /\ Frm (fun _ => False) w w' /\ New (B x) w w'
def Asn.emp : Asn := ⟨fun _ F => ∀ k, ¬ F k, fun _ h => h⟩
section
variable {X : Cx} {S : St} {A : Facts} {a : Act} {w w' : World} {r : Nat -> Nat} {own : Nat -> Option Ent}
theorem Frm.trans {M M' : Nat -> Prop} {w w1 w2 : World} (h : Frm M w w1) (h' : Frm M' w1 w2) (hM : ∀ k, k < w.heap.size -> M' k -> M k) : Frm M w w2 :=
 ⟨h'.os.trans h.os, h'.tape.trans h.tape, h'.output.trans h.output, Nat.le_trans h.size h'.size, fun k hk hn => (h'.block k (Nat.lt_of_lt_of_le hk h.size) (fun hm => hn (hM k hk hm))).trans (h.block k hk hn)⟩
theorem Sim.ext (h : Sim X S A a w r own) (hf : Frm (fun _ => False) w w') : Sim X S A a w' r own := by
 have hb : ∀ k, k < w.heap.size -> w'.heap[k]? = w.heap[k]? := fun k hk => hf.block k hk (fun x => x)
 refine ⟨h.dfr, h.sz, h.slot, h.slt, ?_, ?_, ?_, h.nms, h.fas, h.frm.trans hf (fun _ _ x => x.elim), h.rts⟩
 · intro n t cs hm
   obtain ⟨e1, e2, e3, vs, e4, e5, e6⟩ := h.heap n t cs hm
   exact ⟨e1, e2, e3, vs, by rw [hb _ (h.bnd _ _ e3).1]; exact e4, e5, e6⟩
 · intro j B hm
   obtain ⟨e1, e2⟩ := h.fact j B hm
   exact ⟨e1, B.loc (fun k hk => hb k (h.bnd k _ hk).1) e2⟩
 · intro k e hk
   obtain ⟨e1, e2⟩ := h.bnd k e hk
   exact ⟨Nat.lt_of_lt_of_le e1 hf.size, e2⟩
open Classical in
theorem Sim.addF (h : Sim X S A a w r own) {B : Asn} {F : Nat -> Prop} (hB : B.P w F) (hF : ∀ k, F k -> own k = none /\ k < w.heap.size /\ (X.w0.heap.size <= k \/ X.M k)) :
 Sim X { S with m := S.m + 1 } ((S.m, B) :: A) a w r (fun k => if F k then some (.fa S.m) else own k) := by
 have hold : ∀ k e, own k = some e -> (if F k then some (Ent.fa S.m) else own k) = some e := fun k e hk => by
  have : ¬ F k := fun hf => by rw [(hF k hf).1] at hk; cases hk
  simp [this, hk]
 refine ⟨h.dfr, h.sz, h.slot, h.slt, ?_, ?_, ?_, ?_, ?_, h.frm, h.rts⟩
 · intro n t cs hm
   obtain ⟨e1, e2, e3, e4⟩ := h.heap n t cs hm
   exact ⟨e1, e2, hold _ _ e3, e4⟩
 · intro j B' hm
   rcases List.mem_cons.1 hm with he | hm
   · simp only [Prod.mk.injEq] at he
     obtain ⟨rfl, rfl⟩ := he
     refine ⟨Nat.lt_succ_self _, ?_⟩
     have : (fun k => (if F k then some (Ent.fa S.m) else own k) = some (.fa S.m)) = F := by
      funext k
      apply propext
      by_cases hf : F k
      · simp [hf]
      · simp only [hf, if_false, iff_false]
        exact fun hk => absurd (h.fas k _ hk) (Nat.lt_irrefl _)
     rw [this]
     exact hB
   · obtain ⟨e1, e2⟩ := h.fact j B' hm
     refine ⟨Nat.lt_succ_of_lt e1, ?_⟩
     have : (fun k => (if F k then some (Ent.fa S.m) else own k) = some (.fa j)) = (fun k => own k = some (.fa j)) := by
      funext k
      apply propext
      by_cases hf : F k
      · simp only [hf, if_true, (hF k hf).1, Option.some.injEq, Ent.fa.injEq, reduceCtorEq, iff_false]
        omega
      · simp [hf]
     rw [this]
     exact e2
 · intro k e hk
   by_cases hf : F k
   · exact (hF k hf).2
   · simp only [hf, if_false] at hk
     exact h.bnd k e hk
 · intro k n hk
   by_cases hf : F k
   · simp [hf] at hk
   · simp only [hf, if_false] at hk
     exact h.nms k n hk
 · intro k j hk
   by_cases hf : F k
   · simp only [hf, if_true, Option.some.injEq, Ent.fa.injEq] at hk
     show j < S.m + 1
     omega
   · simp only [hf, if_false] at hk
     exact Nat.lt_succ_of_lt (h.fas k j hk)
end
section
variable {E : En} {ops l : List Oper} {k : Kt} {S : St} {c : Call} {dst : Option Tmp} {ty : TypeId} {pos : String} {after : Array Edge} {guard : Option (Nat × Bool)}
theorem args_den {a : Act} {w : World} {r : Nat -> Nat} (h : SimR S a w r) {xs : List Operand} (hk : (xs.all fun x => (ev S x).known) = true) : xs.map a.eval = xs.map fun x => (ev S x).den r :=
 List.map_congr_left fun x hx => SV_den (List.all_eq_true.1 hk x hx) (ev_ok h x).1
def callable (P : Program) (f : FuncId) : Bool :=
 match P.funcs[f]? with
 | some fn => fn.body.isSome && !(fn.name == "runtime.NumGoroutine")
 | none => false
theorem exec_call {a : Act} {P : Program} {w : World} {f : FuncId} (hc : c.callee = .value (.func f)) (hf : callable P f = true) (o : Oper) (ho : o.op = .call c) :
 (execOp a.eval o).run P w = .ok (.enter f (c.args.map a.eval)) w := by
 unfold callable at hf
 split at hf
 · rename_i fn hfn
   simp only [Bool.and_eq_true, Bool.not_eq_true', beq_eq_false_iff_ne, ne_eq] at hf
   obtain ⟨b, hb⟩ := Option.isSome_iff_exists.1 hf.1
   have hn := hf.2
   simp [execOp, ho, resolve, hc, Act.eval, Deferred.ofValue, invoke, callFunc, hfn, hb, hn]
 · cases hf
theorem wp_of_calls {o : Oper} {a : Act} {P : Program} {w : World} {f : FuncId} {K : Act -> World -> Prop} {Q : Exit -> Act -> World -> Prop} (hc : c.callee = .value (.func f)) (hf : callable P f = true) (ho : o.op = .call c)
 (h : Calls P f (c.args.map a.eval) w fun e w' => ∃ v, e = .returned v /\ K (a.put o.dst v) w') : o.wp P a w K Q := by
 unfold Oper.wp
 rw [exec_call hc hf o ho]
 exact Calls.mono h fun e w' ⟨v, he, hK⟩ => by subst he; exact hK
theorem WO_call0 {α : Type} {f : FuncId} {P : Program} (n : Nat) (res : α -> SV) (φ : α -> Prop) (hP : E.X.P = P) (hc : c.callee = .value (.func f)) (hf : callable P f = true) (hl : ∀ x, (res x).lt 0)
 (hk : (c.args.toList.all fun x => (ev S x).known) = true)
 (hcall : ∀ a w r own, Sim E.X S E.A a w r own -> Calls P f ((c.args.toList.map fun x => (ev S x).den r).toArray) w (Ret0 res φ w))
 (h : ∀ x, φ x -> vl E n ops l k (S.put dst (res x))) : WO E ops ⟨dst, .call c, ty, pos, after, guard⟩ l k S := by
 intro a w r own hs
 subst hP
 refine wp_of_calls hc hf rfl ?_
 have hargs : c.args.map a.eval = (c.args.toList.map fun x => (ev S x).den r).toArray := by
  rw [<- args_den hs.toR hk]
  apply Array.ext'
  simp
 rw [hargs]
 refine (hcall a w r own hs).mono fun e w' hr => ?_
 obtain ⟨x, hx, ⟨u, he, hu⟩, hfr⟩ := hr
 exact ⟨u, he, vl_ok n ops l k _ (h x hx) _ w' r own ((hs.ext hfr).put dst (hu r) (SV.lt_mono (Nat.zero_le _) (hl x)))⟩
end
attribute [go_sem] SV.known SV.den
section
variable {P : Program} {ops : Array Oper} {Q : Exit -> Act -> World -> Prop} {md : Region.Mode} {C : Array Bool -> World -> Prop}
def wpAnyL (P : Program) (md : Region.Mode) (ops : Array Oper) (Q : Exit -> Act -> World -> Prop) (C : Array Bool -> World -> Prop) : Nat -> Array Bool -> Act -> World -> Prop
 | 0, listed, a, w => Region.ready md ops listed = [] /\ Q .normal a w
 | fuel + 1, listed, a, w =>
   (Region.ready md ops listed = [] -> Q .normal a w) /\
   ∀ i ∈ Region.ready md ops listed, wpOp P ops Q i (fun a' w' => C (listed.setIfInBounds i true) w' /\ wpAnyL P md ops Q C fuel (listed.setIfInBounds i true) a' w') a w
theorem wpAny_of_L : ∀ (fuel : Nat) (listed : Array Bool) (a : Act) (w : World), wpAnyL P md ops Q C fuel listed a w -> wpAny P md ops Q fuel listed a w
 | 0, _, _, _, h => h
 | fuel + 1, _, _, _, h => ⟨h.1, fun i hi => wpOp_mono (fun a' w' h' => wpAny_of_L fuel _ a' w' h'.2) (h.2 i hi)⟩
theorem ready_un {listed : Array Bool} {j : Nat} (h : j ∈ Region.ready md ops listed) : listed.getD j true = false := (mem_ready.1 h).1
def waitsFor (md : Region.Mode) (ops : Array Oper) (i j : Nat) : Prop := ∃ oj, ops[j]? = some oj /\ ∃ e ∈ oj.after, Region.binds md e = true /\ e.on = i
theorem not_ready_of_waits {listed : Array Bool} {i j : Nat} (hi : listed.getD i true = false) (hw : waitsFor md ops i j) : j ∉ Region.ready md ops listed := by
 intro hj
 obtain ⟨oj, ho, e, he, hb, rfl⟩ := hw
 obtain ⟨_, o', ho', hall⟩ := mem_ready.1 hj
 rw [ho] at ho'
 obtain rfl : oj = o' := by simpa using ho'
 have h1 := hall e he hb
 rcases Nat.lt_or_ge e.on listed.size with h' | h'
 · simp [h'] at h1 hi
   rw [h1] at hi
   cases hi
 · simp [Array.getElem?_eq_none h'] at h1
theorem wpAnyL_first {i : Nat} {oi : Oper} {v : Value} {js : List Nat} {C0 : World -> Prop} (hi : ops[i]? = some oi) (hsel : ∀ (j : Nat) (o : Oper) cs b, ops[j]? = some o -> o.op ≠ .select cs b)
 (hQ : ∀ c a w, Q (.panic c) (a.put oi.dst v) w -> Q (.panic c) a w)
 (hCi : ∀ listed w, C (listed.setIfInBounds i true) w -> C listed w) (hC0 : ∀ listed w, C listed w -> (∀ j ∈ js, listed.getD j true = false) -> C0 w) (hjs : ∀ j ∈ js, j ≠ i /\ waitsFor md ops i j) :
 ∀ (fuel : Nat) (listed : Array Bool) (a : Act) (w : World),
  (∀ j oj, ops[j]? = some oj -> j ≠ i -> listed.getD j true = false -> (∀ e ∈ oj.after, Region.binds md e = true -> e.on ≠ i) -> oi.apart ops oj = true) ->
  i ∈ Region.ready md ops listed -> (∀ j ∈ js, listed.getD j true = false) -> YieldsIf P ops C0 oi v a -> C listed w -> C (listed.setIfInBounds i true) w ->
  wpAnyL P md ops Q C fuel (listed.setIfInBounds i true) (a.put oi.dst v) w -> wpAnyL P md ops Q C (fuel + 1) listed a w := by
 intro fuel
 induction fuel with
 | zero =>
   intro listed a w _ hr hju hy hC hC' H
   refine ⟨fun h => (by rw [h] at hr; cases hr), fun j hj => ?_⟩
   by_cases hji : j = i
   · subst hji; exact hy.wpOp hi (hC0 _ _ hC hju) ⟨hC', H⟩
   · have := ready_mono hj hji
     rw [H.1] at this
     cases this
 | succ fuel ih =>
   intro listed a w hfree hr hju hy hC hC' H
   refine ⟨fun h => (by rw [h] at hr; cases hr), fun j hj => ?_⟩
   by_cases hji : j = i
   · subst hji; exact hy.wpOp hi (hC0 _ _ hC hju) ⟨hC', H⟩
   · have h1 := H.2 j (ready_mono hj hji)
     obtain ⟨hjun, oj, hoj, hall⟩ := mem_ready.1 hj
     have hnot : ∀ e ∈ oj.after, Region.binds md e = true -> e.on ≠ i := fun e he hb heq => not_ready_of_waits (ready_un hr) ⟨oj, hoj, e, he, hb, heq⟩ hj
     have h2 := wpOp_putIf hoj (hfree j oj hoj hji hjun hnot) (fun cs b => hsel i oi cs b hi) (fun cs b => hsel j oj cs b hoj) hQ hy h1
     have hfree' : ∀ k ok, ops[k]? = some ok -> k ≠ i -> (listed.setIfInBounds j true).getD k true = false ->
      (∀ e ∈ ok.after, Region.binds md e = true -> e.on ≠ i) -> oi.apart ops ok = true := fun k ok hk hki hun hno => by
      refine hfree k ok hk hki ?_ hno
      by_cases hjk : j = k
      · subst hjk; exact hjun
      · rw [getD_set_ne true hjk] at hun; exact hun
     have hjnot : j ∉ js := fun hm => not_ready_of_waits (ready_un hr) (hjs j hm).2 hj
     have hju' : ∀ k ∈ js, (listed.setIfInBounds j true).getD k true = false := fun k hk => by
      rw [getD_set_ne true (show j ≠ k from fun e => by subst e; exact hjnot hk)]
      exact hju k hk
     have hcm : (listed.setIfInBounds i true).setIfInBounds j true = (listed.setIfInBounds j true).setIfInBounds i true := Array.setIfInBounds_comm _ _ (Ne.symm hji)
     refine wpOp_mono (fun a' w' h3 => ?_) h2
     obtain ⟨h3, h4, h5⟩ := h3
     rw [hcm] at h4 h5
     exact ⟨hCi _ _ h4, ih (listed.setIfInBounds j true) a' w' hfree' (ready_mono hr (Ne.symm hji)) hju' h3 (hCi _ _ h4) h4 h5⟩
theorem wpAnyL_all {rs : List Nat} {fuel : Nat} {listed : Array Bool} {a : Act} {w : World} (hr : Region.ready md ops listed = rs) (hne : rs ≠ [])
 (h : ∀ i ∈ rs, wpOp P ops Q i (fun a' w' => C (listed.setIfInBounds i true) w' /\ wpAnyL P md ops Q C fuel (listed.setIfInBounds i true) a' w') a w) : wpAnyL P md ops Q C (fuel + 1) listed a w :=
 ⟨fun h0 => absurd (hr ▸ h0) hne, hr ▸ h⟩
theorem wpAnyL_done {listed : Array Bool} {a : Act} {w : World} (hr : Region.ready md ops listed = []) (h : Q .normal a w) : ∀ fuel, wpAnyL P md ops Q C fuel listed a w
 | 0 => ⟨hr, h⟩
 | _ + 1 => ⟨fun _ => h, by rw [hr]; simp⟩
theorem wp_region_L {id : Nat} {a : Act} {w : World} (hm : P.follows .mixedOrders = true)
 (h : wpAnyL P .any ops Q C ops.size (Array.replicate ops.size false) a { w with drawn := w.drawn + 1 }) : (Code.region id ops true).wp P Q a w :=
 wp_region_any hm (wpAny_of_L _ _ _ _ h)
end
theorem bodyPost_panic {P : Program} {fn : Func} {R : Ending -> World -> Prop} {c : List PanicEntry} {d : Option Tmp} {v : Value} {a : Act} {w : World} (h : bodyPost P fn R (.panic c) (a.put d v) w) : bodyPost P fn R (.panic c) a w := by
 cases d <;> exact h
structure Rg where
 ops : List Oper
 js : List Nat
 mu : List (Nat × List Nat)
 ro : List (Nat × List Nat)
 n0 : Nat
def Cw (X : Cx) (ro : List (Nat × List Nat)) (r0 : Nat -> Nat) (ws : World) (listed : Array Bool) (w : World) : Prop :=
 Frm X.M X.w0 w /\ ws.heap.size <= w.heap.size /\ ∀ n js, (n, js) ∈ ro -> (∀ j, j ∈ js -> listed.getD j true = false) -> w.heap[r0 n]? = ws.heap[r0 n]?
structure Dc (E : En) (g : Rg) (S : St) (listed : Array Bool) (a : Act) (w : World) (r : Nat -> Nat) (own : Nat -> Option Ent) (r0 : Nat -> Nat) (ws : World) : Prop where
 sim : Sim E.X S E.A a w r own
 rr : ∀ n, n < g.n0 -> r n = r0 n
 le : g.n0 <= S.n
 rb : ∀ n js, (n, js) ∈ g.ro -> n < g.n0 /\ r0 n < ws.heap.size
 nm : ∀ x, x ∈ S.h -> x.1 < g.n0 -> ∃ js, (x.1, js) ∈ g.ro
 sb : ∀ n js, (n, js) ∈ g.ro -> ∃ x ∈ S.h, x.1 = n
 rj : ∀ n js, (n, js) ∈ g.ro -> (js = g.js \/ (n, js) ∈ g.mu)
 cw : Cw E.X g.ro r0 ws listed w
inductive Sch where
 | done
 | take (i : Nat) (lv : Option (List Nat)) (s : Sch)
 | one (i : Nat) (s : Sch)
 | two (i : Nat) (s : Sch) (j : Nat) (t : Sch)
 | three (i : Nat) (s : Sch) (j : Nat) (t : Sch) (l : Nat) (u : Sch)
def waitB (ops : Array Oper) (i j : Nat) : Bool := j != i && (match ops[j]? with | some oj => oj.after.toList.any fun e => Region.binds .any e && e.on == i | none => false)
def waitAll (ops : Array Oper) (listed : Array Bool) (i : Nat) (js : List Nat) : Bool := js.all fun j => waitB ops i j && !listed.getD j true
def calm (ops : Array Oper) (i : Nat) : Bool := match ops[i]? with | some o => o.guard.isNone | none => false
def storesIn (ops : Array Oper) (js : List Nat) (mu : List (Nat × List Nat)) (i : Nat) : Bool := match ops[i]? with
 | some o => match o.op with
   | .store .. => js.contains i && mu.all fun x => x.2.contains i
   | _ => true
 | none => false
def schOk (ops : Array Oper) (js : List Nat) (mu : List (Nat × List Nat)) : Nat -> Array Bool -> Sch -> Bool
 | _, listed, .done => (Region.ready .any ops listed).isEmpty
 | 0, _, _ => false
 | fuel + 1, listed, .take i lv s => Region.noSelect ops && Region.free .any ops listed i && (Region.ready .any ops listed).contains i && calm ops i && !js.contains i && mu.all (fun x => !x.2.contains i) &&
   (match lv with | none => true | some bad => waitAll ops listed i js && mu.all fun x => bad.contains x.1 || waitAll ops listed i x.2) && schOk ops js mu fuel (listed.setIfInBounds i true) s
 | fuel + 1, listed, .one i s => (Region.ready .any ops listed == [i]) && calm ops i && storesIn ops js mu i && schOk ops js mu fuel (listed.setIfInBounds i true) s
 | fuel + 1, listed, .two i s j t => (Region.ready .any ops listed == [i, j]) && calm ops i && storesIn ops js mu i && schOk ops js mu fuel (listed.setIfInBounds i true) s &&
   calm ops j && storesIn ops js mu j && schOk ops js mu fuel (listed.setIfInBounds j true) t
 | fuel + 1, listed, .three i s j t l u => (Region.ready .any ops listed == [i, j, l]) && calm ops i && storesIn ops js mu i && schOk ops js mu fuel (listed.setIfInBounds i true) s &&
   calm ops j && storesIn ops js mu j && schOk ops js mu fuel (listed.setIfInBounds j true) t && calm ops l && storesIn ops js mu l && schOk ops js mu fuel (listed.setIfInBounds l true) u
def St.live (S : St) (n0 : Nat) (lv : Option (List Nat)) : St :=
 { S with h := match lv with
  | none => []
  | some bad => S.h.filter fun x => decide (x.1 < n0) && !bad.contains x.1 }
def WS (E : En) (g : Rg) (k : Kt) (s : Sch) (S : St) : Prop :=
 ∀ fuel listed, schOk g.ops.toArray g.js g.mu fuel listed s = true -> ∀ a w r own r0 ws, Dc E g S listed a w r own r0 ws -> wpAnyL E.X.P .any g.ops.toArray (kq E k) (Cw E.X g.ro r0 ws) fuel listed a w
def WD (E : En) (g : Rg) (k : Kt) (i : Nat) (o : Oper) (s : Sch) (S : St) : Prop :=
 ∀ fuel listed, schOk g.ops.toArray g.js g.mu fuel (listed.setIfInBounds i true) s = true -> storesIn g.ops.toArray g.js g.mu i = true -> ∀ a w r own r0 ws, Dc E g S listed a w r own r0 ws ->
  o.wp E.X.P a w (fun a' w' => Cw E.X g.ro r0 ws (listed.setIfInBounds i true) w' /\ wpAnyL E.X.P .any g.ops.toArray (kq E k) (Cw E.X g.ro r0 ws) fuel (listed.setIfInBounds i true) a' w') (kq E k)
def QP (Q : Exit -> Act -> World -> Prop) : Prop := ∀ c d v a w, Q (.panic c) (Act.put a d v) w -> Q (.panic c) a w
theorem kq_panic {E : En} (h : QP E.Q) : ∀ k, QP (kq E k)
 | .nil => h
 | .sq _ k => fun c d v a w hq => kq_panic h k c d v a w hq
 | .bl _ k => fun c d v a w hq => kq_panic h k c d v a w hq
 | .lp _ k => fun c d v a w hq => kq_panic h k c d v a w hq
theorem nthO_arr {l : List Oper} {i : Nat} {o : Oper} (h : nthO l i = some o) : l.toArray[i]? = some o := by
 rw [nthO_eq] at h
 simpa using h
theorem waitB_spec {ops : Array Oper} {i j : Nat} (h : waitB ops i j = true) : j ≠ i /\ waitsFor .any ops i j := by
 unfold waitB at h
 simp only [Bool.and_eq_true, bne_iff_ne, ne_eq] at h
 refine ⟨h.1, ?_⟩
 have h2 := h.2
 split at h2
 · rename_i oj ho
   simp only [List.any_eq_true, Bool.and_eq_true, beq_iff_eq] at h2
   obtain ⟨e, he, hb, ho'⟩ := h2
   exact ⟨oj, ho, e, by simpa using he, hb, ho'⟩
 · cases h2
section
variable {E : En} {g : Rg} {k : Kt} {S : St}
theorem Cw.set_of {X : Cx} {ro : List (Nat × List Nat)} {r0 : Nat -> Nat} {ws w : World} {listed : Array Bool} {i : Nat} (hi : ∀ n js, (n, js) ∈ ro -> i ∉ js) (h : Cw X ro r0 ws (listed.setIfInBounds i true) w) : Cw X ro r0 ws listed w :=
 ⟨h.1, h.2.1, fun n js hm hj => h.2.2 n js hm fun j hjm => by rw [getD_set_ne true (show i ≠ j from fun e => by subst e; exact hi n js hm hjm)]; exact hj j hjm⟩
theorem Cw.of_set {X : Cx} {ro : List (Nat × List Nat)} {r0 : Nat -> Nat} {ws w : World} {listed : Array Bool} {i : Nat} (h : Cw X ro r0 ws listed w) : Cw X ro r0 ws (listed.setIfInBounds i true) w :=
 ⟨h.1, h.2.1, fun n js hm hj => h.2.2 n js hm fun j hjm => by
  have := hj j hjm
  by_cases hji : i = j
  · subst hji
    rcases Nat.lt_or_ge i listed.size with h' | h'
    · simp [h'] at this
    · simp [Array.getElem?_eq_none h'] at this
  · rwa [getD_set_ne true hji] at this⟩
theorem WS_done (h : WX E .normal k S) : WS E g k .done S := by
 intro fuel listed hs a w r own r0 ws hc
 unfold schOk at hs
 exact wpAnyL_done (by simpa using hs) (h a w r own hc.sim) fuel
theorem WS_take {i : Nat} {lv : Option (List Nat)} {s : Sch} {o : Oper} {sv : SV} (hQ : QP E.Q) (ho : nthO g.ops i = some o)
 (hy : ∀ a w r, SimR (S.live g.n0 lv) a w r -> Frm E.X.M E.X.w0 w -> Yl E.X.P r S.n o a w sv) (hk : sv.known = true) (h : WS E g k s (S.put o.dst sv)) : WS E g k (.take i lv s) S := by
 intro fuel listed hs a w r own r0 ws hc
 cases fuel with
 | zero => simp [schOk] at hs
 | succ fuel =>
 simp only [schOk, Bool.and_eq_true, Bool.not_eq_true'] at hs
 obtain ⟨⟨⟨⟨⟨⟨⟨h1, h2⟩, h3⟩, h4⟩, h5⟩, h6⟩, h7⟩, h8⟩ := hs
 have hi := nthO_arr ho
 have hg : o.guard = none := by
  unfold calm at h4
  rw [hi] at h4
  simpa using h4
 have hir : ∀ n js, (n, js) ∈ g.ro -> i ∉ js := fun n js hm hin => by
  rcases hc.rj n js hm with rfl | hmu
  · simp [hin] at h5
  · have := List.all_eq_true.1 h6 _ hmu
    simp [hin] at this
 let jl : List Nat := match lv with
  | none => []
  | some bad => (g.ro.filter fun x => !bad.contains x.1).flatMap fun x => x.2
 have hjl : ∀ j ∈ jl, waitB g.ops.toArray i j = true /\ listed.getD j true = false := by
  intro j hj
  cases lv with
  | none => simp [jl] at hj
  | some bad =>
    simp only [jl, List.mem_flatMap, List.mem_filter, Bool.not_eq_true'] at hj
    obtain ⟨⟨n, js⟩, ⟨hm, hb⟩, hjm⟩ := hj
    simp only [Bool.and_eq_true] at h7
    have hw : waitAll g.ops.toArray listed i js = true := by
     rcases hc.rj n js hm with rfl | hmu
     · exact h7.1
     · have := List.all_eq_true.1 h7.2 _ hmu
       simp only [Bool.or_eq_true] at this
       rcases this with this | this
       · simp only at hb; rw [hb] at this; cases this
       · exact this
    have := List.all_eq_true.1 hw j hjm
    simpa using this
 have hlive : ∀ x, x ∈ (S.live g.n0 lv).h -> x ∈ S.h /\ x.1 < g.n0 /\ ∃ js, (x.1, js) ∈ g.ro /\ ∀ j ∈ js, j ∈ jl := by
  intro x hx
  cases lv with
  | none => cases hx
  | some bad =>
    simp only [St.live, List.mem_filter, Bool.and_eq_true, decide_eq_true_eq, Bool.not_eq_true'] at hx
    obtain ⟨js, hjs⟩ := hc.nm x hx.1 hx.2.1
    refine ⟨hx.1, hx.2.1, js, hjs, fun j hj => ?_⟩
    simp only [jl, List.mem_flatMap, List.mem_filter, Bool.not_eq_true']
    exact ⟨(x.1, js), ⟨hjs, hx.2.2⟩, hj⟩
 have hkeep : ∀ listed' w', Cw E.X g.ro r0 ws listed' w' -> (∀ j ∈ jl, listed'.getD j true = false) -> ∀ x, x ∈ (S.live g.n0 lv).h -> w'.heap[r x.1]? = ws.heap[r0 x.1]? := by
  intro listed' w' hcw hun x hx
  obtain ⟨hx1, hx2, js, hjs, hsub⟩ := hlive x hx
  rw [hc.rr _ hx2]
  exact hcw.2.2 x.1 js hjs fun j hj => hun j (hsub j hj)
 have hR : ∀ w', (∀ x, x ∈ (S.live g.n0 lv).h -> w'.heap[r x.1]? = ws.heap[r0 x.1]?) -> SimR (S.live g.n0 lv) a w' r := by
  intro w' hw'
  refine ⟨hc.sim.sz, hc.sim.slot, hc.sim.slt, fun n t cs hm => ?_⟩
  obtain ⟨e1, e2⟩ := hc.sim.toR.heap n t cs (hlive _ hm).1
  have ha := hw' _ hm
  have hb := hkeep listed w hc.cw (fun j hj => (hjl j hj).2) _ hm
  simp only at ha hb
  rw [ha, <- hb]
  exact ⟨e1, e2⟩
 have hy' : YieldsIf E.X.P g.ops.toArray (fun w' => Frm E.X.M E.X.w0 w' /\ ∀ x, x ∈ (S.live g.n0 lv).h -> w'.heap[r x.1]? = ws.heap[r0 x.1]?) o (sv.den r) a := by
  refine .inl ⟨by simp [Region.wanted, hg], fun w' hw' => ?_⟩
  obtain ⟨u, hu, _, hrun⟩ := hy a w' r (hR w' hw'.2) hw'.1
  rw [<- SV_den hk hu]
  exact hrun
 obtain ⟨u, hu, hul, _⟩ := hy a w r (hR w (hkeep listed w hc.cw fun j hj => (hjl j hj).2)) hc.sim.frm
 have huv := SV_den hk hu
 subst huv
 refine wpAnyL_first hi (Region.noSelect_spec h1) (fun c a w hq => kq_panic hQ k c _ _ a w hq) (js := jl) (C := Cw E.X g.ro r0 ws) (fun listed w hcw => Cw.set_of hir hcw) (fun listed' w' hcw hun => ⟨hcw.1, hkeep listed' w' hcw hun⟩)
  (fun j hj => waitB_spec (hjl j hj).1) fuel listed a w (Region.free_spec hi h2) (by simpa using h3) (fun j hj => (hjl j hj).2) hy' hc.cw hc.cw.of_set ?_
 refine h fuel _ h8 _ w r own r0 ws ⟨hc.sim.put o.dst hu hul, hc.rr, ?_, hc.rb, ?_, ?_, hc.rj, hc.cw.of_set⟩
 · have := hc.le
   cases o.dst <;> exact this
 · intro x hx
   have hx : x ∈ S.h := by cases hd : o.dst <;> simpa [St.put, hd] using hx
   exact hc.nm x hx
 · intro n js hm
   obtain ⟨x, hx, e⟩ := hc.sb n js hm
   exact ⟨x, (by cases hd : o.dst <;> simpa [St.put, hd] using hx), e⟩
theorem WD_mem {i : Nat} {s : Sch} {o : Oper} {S' : St} (ho : nthO g.ops i = some o) (hq : qmem E.X.P S o = some S') (h : WS E g k s S') : WD E g k i o s S := by
 intro fuel listed hs hst a w r own r0 ws hc
 obtain ⟨a', w', r', own', hr, hs', hk1, hk2, hk3, hk4, hk5, hk6⟩ := qmem_ok hc.sim hq
 have hcw : Cw E.X g.ro r0 ws (listed.setIfInBounds i true) w' := by
  refine ⟨hs'.frm, Nat.le_trans hc.cw.2.1 hk3, fun n js hm hj => ?_⟩
  by_cases hsto : ∃ t x v, o.op = .store t x v
  · obtain ⟨t, x, v, hop⟩ := hsto
    unfold storesIn at hst
    rw [nthO_arr ho] at hst
    simp only [hop, Bool.and_eq_true] at hst
    have hin : i ∈ js := by
     rcases hc.rj n js hm with rfl | hmu
     · simpa using hst.1
     · simpa using List.all_eq_true.1 hst.2 _ hmu
    have := hj i hin
    rcases Nat.lt_or_ge i listed.size with h' | h'
    · simp [h'] at this
    · simp [Array.getElem?_eq_none h'] at this
  · have hb := hc.rb n js hm
    rw [hk2 (fun t x v hop => hsto ⟨t, x, v, hop⟩) _ (Nat.lt_of_lt_of_le hb.2 hc.cw.2.1)]
    exact (hc.cw.of_set).2.2 n js hm hj
 refine hr.wp ⟨hcw, h fuel _ hs a' w' r' own' r0 ws ⟨hs', fun n hn => (hk1 n (Nat.lt_of_lt_of_le hn hc.le)).trans (hc.rr n hn), Nat.le_trans hc.le hk4, hc.rb, fun x hx hlt => ?_, fun n js hm => ?_, hc.rj, hcw⟩⟩
 · rcases hk5 x hx with ⟨y, hy, hyx⟩ | hge
   · rw [<- hyx] at hlt ⊢
     exact hc.nm y hy hlt
   · exact absurd hlt (Nat.not_lt.2 (Nat.le_trans hc.le hge))
 · obtain ⟨x, hx, e⟩ := hc.sb n js hm
   obtain ⟨y, hy, e'⟩ := hk6 x hx
   exact ⟨y, hy, e'.trans e⟩
theorem wpOp_of {P : Program} {ops : Array Oper} {Q : Exit -> Act -> World -> Prop} {i : Nat} {o : Oper} {K : Act -> World -> Prop} {a : Act} {w : World} (hi : ops[i]? = some o) (hg : calm ops i = true) (h : o.wp P a w K Q) : wpOp P ops Q i K a w := by
 unfold calm at hg
 rw [hi] at hg
 have hg : o.guard = none := by simpa using hg
 unfold wpOp
 simp only [hi]
 rw [if_pos (by simp [Region.wanted, hg])]
 exact .inl h
theorem WS_one {i : Nat} {s : Sch} {o : Oper} (ho : nthO g.ops i = some o) (h : WD E g k i o s S) : WS E g k (.one i s) S := by
 intro fuel listed hs a w r own r0 ws hc
 cases fuel with
 | zero => simp [schOk] at hs
 | succ fuel =>
 simp only [schOk, Bool.and_eq_true, beq_iff_eq] at hs
 obtain ⟨⟨⟨h1, h2⟩, h3⟩, h4⟩ := hs
 refine wpAnyL_all h1 (by simp) fun j hj => ?_
 obtain rfl : j = i := by simpa using hj
 exact wpOp_of (nthO_arr ho) h2 (h fuel listed h4 h3 a w r own r0 ws hc)
theorem WS_two {i j : Nat} {s t : Sch} {o p : Oper} (ho : nthO g.ops i = some o) (hp : nthO g.ops j = some p) (h : WD E g k i o s S) (h' : WD E g k j p t S) : WS E g k (.two i s j t) S := by
 intro fuel listed hs a w r own r0 ws hc
 cases fuel with
 | zero => simp [schOk] at hs
 | succ fuel =>
 simp only [schOk, Bool.and_eq_true, beq_iff_eq] at hs
 obtain ⟨⟨⟨⟨⟨⟨h1, h2⟩, h3⟩, h4⟩, h5⟩, h6⟩, h7⟩ := hs
 refine wpAnyL_all h1 (by simp) fun l hl => ?_
 simp only [List.mem_cons, List.not_mem_nil, or_false] at hl
 rcases hl with rfl | rfl
 · exact wpOp_of (nthO_arr ho) h2 (h fuel listed h4 h3 a w r own r0 ws hc)
 · exact wpOp_of (nthO_arr hp) h5 (h' fuel listed h7 h6 a w r own r0 ws hc)
theorem WS_three {i j l : Nat} {s t u : Sch} {o p q : Oper} (ho : nthO g.ops i = some o) (hp : nthO g.ops j = some p) (hq : nthO g.ops l = some q) (h : WD E g k i o s S) (h' : WD E g k j p t S) (h'' : WD E g k l q u S) : WS E g k (.three i s j t l u) S := by
 intro fuel listed hs a w r own r0 ws hc
 cases fuel with
 | zero => simp [schOk] at hs
 | succ fuel =>
 simp only [schOk, Bool.and_eq_true, beq_iff_eq] at hs
 obtain ⟨⟨⟨⟨⟨⟨⟨⟨⟨h1, h2⟩, h3⟩, h4⟩, h5⟩, h6⟩, h7⟩, h8⟩, h9⟩, h10⟩ := hs
 refine wpAnyL_all h1 (by simp) fun m hm => ?_
 simp only [List.mem_cons, List.not_mem_nil, or_false] at hm
 rcases hm with rfl | rfl | rfl
 · exact wpOp_of (nthO_arr ho) h2 (h fuel listed h4 h3 a w r own r0 ws hc)
 · exact wpOp_of (nthO_arr hp) h5 (h' fuel listed h7 h6 a w r own r0 ws hc)
 · exact wpOp_of (nthO_arr hq) h8 (h'' fuel listed h10 h9 a w r own r0 ws hc)
end
def vd (E : En) (n : Nat) (g : Rg) (k : Kt) : Sch -> St -> Prop
 | .done, S => vx E n .normal k S
 | .take i lv s, S => match nthO g.ops i with
   | some o => match qop E.X.P (S.live g.n0 lv) o with
     | some (C, sv) => match sv.known with
       | true => C /\ vd E n g k s (S.put o.dst sv)
       | false => WS E g k (.take i lv s) S
     | none => WS E g k (.take i lv s) S
   | none => False
 | .one i s, S => match nthO g.ops i with
   | some o => match qmem E.X.P S o with
     | some S' => vd E n g k s S'
     | none => WD E g k i o s S
   | none => False
 | .two i s j t, S => match nthO g.ops i, nthO g.ops j with
   | some o, some p =>
     (match qmem E.X.P S o with
     | some S' => vd E n g k s S'
     | none => WD E g k i o s S) /\
     (match qmem E.X.P S p with
     | some S' => vd E n g k t S'
     | none => WD E g k j p t S)
   | _, _ => False
 | .three i s j t l u, S => match nthO g.ops i, nthO g.ops j, nthO g.ops l with
   | some o, some p, some q =>
     (match qmem E.X.P S o with
     | some S' => vd E n g k s S'
     | none => WD E g k i o s S) /\
     (match qmem E.X.P S p with
     | some S' => vd E n g k t S'
     | none => WD E g k j p t S) /\
     (match qmem E.X.P S q with
     | some S' => vd E n g k u S'
     | none => WD E g k l q u S)
   | _, _, _ => False
section
variable {E : En} {g : Rg} {k : Kt} {S : St}
theorem vd_ok (hQ : QP E.Q) (n : Nat) : ∀ (s : Sch) (S : St), vd E n g k s S -> WS E g k s S
 | .done, S, h => WS_done (vx_ok n .normal k S h)
 | .take i lv s, S, h => by
   unfold vd at h
   split at h
   · rename_i o ho
     split at h
     · rename_i C sv hq
       split at h
       · rename_i hk
         exact WS_take hQ ho (fun a w r hr _ => qop_ok (S := S.live g.n0 lv) hr hq h.1) hk (vd_ok hQ n s _ h.2)
       · exact h
     · exact h
   · exact h.elim
 | .one i s, S, h => by
   unfold vd at h
   split at h
   · rename_i o ho
     split at h
     · rename_i S' hq
       exact WS_one ho (WD_mem ho hq (vd_ok hQ n s _ h))
     · exact WS_one ho h
   · exact h.elim
 | .two i s j t, S, h => by
   unfold vd at h
   split at h
   · rename_i o p ho hp
     refine WS_two ho hp ?_ ?_
     · have h := h.1
       split at h
       · rename_i S' hq
         exact WD_mem ho hq (vd_ok hQ n s _ h)
       · exact h
     · have h := h.2
       split at h
       · rename_i S' hq
         exact WD_mem hp hq (vd_ok hQ n t _ h)
       · exact h
   · exact h.elim
 | .three i s j t l u, S, h => by
   unfold vd at h
   split at h
   · rename_i o p q ho hp hqq
     refine WS_three ho hp hqq ?_ ?_ ?_
     · have h := h.1
       split at h
       · rename_i S' hq
         exact WD_mem ho hq (vd_ok hQ n s _ h)
       · exact h
     · have h := h.2.1
       split at h
       · rename_i S' hq
         exact WD_mem hp hq (vd_ok hQ n t _ h)
       · exact h
     · have h := h.2.2
       split at h
       · rename_i S' hq
         exact WD_mem hqq hq (vd_ok hQ n u _ h)
       · exact h
   · exact h.elim
def roOf (js : List Nat) (mu : List (Nat × List Nat)) : Heap -> List (Nat × List Nat)
 | [] => []
 | x :: l => (x.1, (mu.lookup x.1).getD js) :: roOf js mu l
theorem roOf_mem {js : List Nat} {mu : List (Nat × List Nat)} : ∀ {h : Heap} {n : Nat} {l : List Nat}, (n, l) ∈ roOf js mu h -> (∃ t cs, (n, t, cs) ∈ h) /\ (l = js \/ (n, l) ∈ mu)
 | [], _, _, hm => by cases hm
 | x :: h, n, l, hm => by
   rcases List.mem_cons.1 hm with he | hm
   · simp only [Prod.mk.injEq] at he
     obtain ⟨rfl, rfl⟩ := he
     refine ⟨⟨x.2.1, x.2.2, by simp⟩, ?_⟩
     cases hl : mu.lookup x.1 with
     | none => exact .inl rfl
     | some l => exact .inr (List.lookup_eq_some_iff.1 hl |> fun ⟨l1, l2, e, _⟩ => by rw [e]; simp)
   · obtain ⟨⟨t, cs, h1⟩, h2⟩ := roOf_mem hm
     exact ⟨⟨t, cs, List.mem_cons_of_mem _ h1⟩, h2⟩
theorem mem_roOf {js : List Nat} {mu : List (Nat × List Nat)} : ∀ {h : Heap} {x : Nat × Nat × List Cl}, x ∈ h -> ∃ l, (x.1, l) ∈ roOf js mu h
 | _ :: _, x, hm => by
   rcases List.mem_cons.1 hm with rfl | hm
   · exact ⟨_, List.mem_cons_self ..⟩
   · obtain ⟨l, hl⟩ := mem_roOf (js := js) (mu := mu) hm
     exact ⟨l, List.mem_cons_of_mem _ hl⟩
theorem WC_drawn {id : Nat} {ops : Array Oper} (n : Nat) (sch : Sch) (js : List Nat) (mu : List (Nat × List Nat)) {P : Program} (hP : E.X.P = P) (hm : P.follows .mixedOrders = true) (hQ : QP E.Q)
 (hs : schOk ops js mu ops.size (Array.replicate ops.size false) sch = true) (h : vd E n ⟨ops.toList, js, mu, roOf js mu S.h, S.n⟩ k sch S) : WC E (.region id ops true) k S := by
 intro a w r own hsim
 subst hP
 have hW := vd_ok hQ n sch S h ops.size (Array.replicate ops.size false) (by simpa using hs) a { w with drawn := w.drawn + 1 } r own r { w with drawn := w.drawn + 1 }
  ⟨hsim.drew, fun _ _ => rfl, Nat.le_refl _, ?_, fun x hx _ => mem_roOf hx, fun n l hl => (by obtain ⟨⟨t, cs, hm⟩, _⟩ := roOf_mem hl; exact ⟨_, hm, rfl⟩), fun n l hl => (roOf_mem hl).2, ⟨hsim.drew.frm, Nat.le_refl _, fun _ _ _ _ => rfl⟩⟩
 · exact wp_region_L hm (by simpa using hW)
 · intro n l hl
   obtain ⟨⟨t, cs, hmem⟩, _⟩ := roOf_mem hl
   obtain ⟨e1, _, e3, _⟩ := hsim.heap n t cs hmem
   exact ⟨e1, (hsim.bnd _ _ e3).1⟩
theorem Cw.ext {X : Cx} {ro : List (Nat × List Nat)} {r0 : Nat -> Nat} {ws w w' : World} {listed : Array Bool} {i : Nat} (hrb : ∀ n js, (n, js) ∈ ro -> r0 n < ws.heap.size) (hf : Frm X.M X.w0 w') (hb : w.heap.size <= w'.heap.size) (hk : ∀ k, k < w.heap.size -> w'.heap[k]? = w.heap[k]?) (h : Cw X ro r0 ws listed w) : Cw X ro r0 ws (listed.setIfInBounds i true) w' :=
 ⟨hf, Nat.le_trans h.2.1 hb, fun n js hm hj => by
  rw [hk _ (Nat.lt_of_lt_of_le (hrb n js hm) h.2.1)]
  exact (h.of_set).2.2 n js hm hj⟩
theorem kq_congr {E E' : En} (hX : E'.X = E.X) (hQ : E'.Q = E.Q) : ∀ k : Kt, kq E' k = kq E k
 | .nil => hQ
 | .sq c k => by simp only [kq, kq_congr hX hQ k, hX]
 | .bl id k => by simp only [kq, kq_congr hX hQ k]
 | .lp I k => by simp only [kq, kq_congr hX hQ k]
variable {c : Call} {dst : Option Tmp} {ty : TypeId} {pos : String} {after : Array Edge} {guard : Option (Nat × Bool)}
theorem args_eval {a : Act} {w : World} {r : Nat -> Nat} (h : SimR S a w r) (hk : (c.args.toList.all fun x => (ev S x).known) = true) : c.args.map a.eval = (c.args.toList.map fun x => (ev S x).den r).toArray := by
 rw [<- args_den h hk]
 apply Array.ext'
 simp
end
attribute [go_sem] vd roOf St.live List.filter List.lookup List.contains List.elem Option.getD
def leC : Cl -> Cl -> Prop
 | .un, _ => True
 | c, d => c = d
def leL : List Cl -> List Cl -> Prop
 | [], [] => True
 | c :: cs, d :: ds => leC c d /\ leL cs ds
 | _, _ => False
def leS : SV -> SV -> Prop
 | .sc c, s => match c with
   | .un => True
   | _ => SV.sc c = s
 | .ag l, .ag m => leL l m
 | .tu l, s => SV.tu l = s
 | .ag _, _ => False
def leT : List SV -> List SV -> Prop
 | [], [] => True
 | x :: xs, y :: ys => leS x y /\ leT xs ys
 | _, _ => False
def leH : Heap -> Heap -> Prop
 | [], _ => True
 | x :: l, h' => (match findH h' x.1 with
   | some (t', cs') => x.2.1 = t' /\ leL x.2.2 cs'
   | none => False) /\ leH l h'
def Cl.ltb (b : Nat) : Cl -> Bool
 | .pt n _ | .ic _ n _ | .sl n _ _ _ => decide (n < b)
 | _ => true
def TV.ltb (b : Nat) : TV -> Bool
 | .sc x => x.ltb b
 | .ag l => l.all (Cl.ltb b)
def SV.ltb (b : Nat) : SV -> Bool
 | .sc x => x.ltb b
 | .ag l => l.all (Cl.ltb b)
 | .tu l => l.all (TV.ltb b)
def ltTb (b : Nat) (l : List SV) : Bool := l.all (SV.ltb b)
def ltHb (b : Nat) (h : Heap) : Bool := h.all fun x => decide (x.1 < b) && x.2.2.all (Cl.ltb b)
theorem Cl.ltb_ok {b : Nat} {c : Cl} (h : c.ltb b = true) : c.lt b := by cases c <;> simp_all [Cl.ltb, Cl.lt]
theorem ltLb_ok {b : Nat} {l : List Cl} (h : l.all (Cl.ltb b) = true) : ltL b l := fun c hc => Cl.ltb_ok (List.all_eq_true.1 h c hc)
theorem SV.ltb_ok {b : Nat} {s : SV} (h : s.ltb b = true) : s.lt b := by
 cases s with
 | sc x => exact Cl.ltb_ok h
 | ag l => exact ltLb_ok h
 | tu l =>
   intro t ht
   have := List.all_eq_true.1 h t ht
   cases t with
   | sc x => exact Cl.ltb_ok this
   | ag l => exact ltLb_ok this
theorem leC_ok {r : Nat -> Nat} {c d : Cl} {u : Value} (h : leC c d) (hd : d.ok r u) : c.ok r u := by
 cases c <;> first | exact .inl rfl | (simp only [leC] at h; subst h; exact hd)
theorem leL_ok {r : Nat -> Nat} : ∀ {cs ds : List Cl} {vs : List Value}, leL cs ds -> CL r ds vs -> CL r cs vs := by
 intro cs ds vs h hd
 have hl : ∀ (cs ds : List Cl), leL cs ds -> cs.length = ds.length /\ ∀ (i : Nat) (c : Cl), cs[i]? = some c -> ∃ d, ds[i]? = some d /\ leC c d := by
  intro cs
  induction cs with
  | nil =>
    intro ds h
    cases ds with
    | nil => exact ⟨rfl, fun i c hc => by simp at hc⟩
    | cons => exact h.elim
  | cons c cs ih =>
    intro ds h
    cases ds with
    | nil => exact h.elim
    | cons d ds =>
      obtain ⟨h1, h2⟩ := h
      obtain ⟨i1, i2⟩ := ih ds h2
      refine ⟨by simp [i1], fun i x hx => ?_⟩
      cases i with
      | zero =>
        obtain rfl : c = x := by simpa using hx
        exact ⟨d, rfl, h1⟩
      | succ i => exact i2 i x (by simpa using hx)
 obtain ⟨h1, h2⟩ := hl cs ds h
 refine ⟨h1.trans hd.1, fun i c hc => ?_⟩
 obtain ⟨d, hd1, hd2⟩ := h2 i c hc
 exact leC_ok hd2 (hd.2 i d hd1)
theorem leS_ok {r : Nat -> Nat} {s s' : SV} {u : Value} (h : leS s s') (hs : s'.ok r u) : s.ok r u := by
 cases s with
 | sc c =>
   cases c <;> first | exact .inl rfl | (simp only [leS] at h; subst h; exact hs)
 | ag l =>
   cases s' with
   | ag m =>
     obtain ⟨vs, rfl, hc⟩ := hs
     exact ⟨vs, rfl, leL_ok h hc⟩
   | sc _ => exact h.elim
   | tu _ => exact h.elim
 | tu l =>
   simp only [leS] at h
   subst h
   exact hs
theorem leT_ok : ∀ {l m : List SV}, leT l m -> l.length = m.length /\ ∀ (j : Nat) (s : SV), l[j]? = some s -> ∃ s', m[j]? = some s' /\ leS s s'
 | [], [], _ => ⟨rfl, fun j s hs => by simp at hs⟩
 | [], _ :: _, h => h.elim
 | _ :: _, [], h => h.elim
 | x :: xs, y :: ys, h => by
   obtain ⟨i1, i2⟩ := leT_ok h.2
   refine ⟨by simp [i1], fun j s hs => ?_⟩
   cases j with
   | zero =>
     obtain rfl : x = s := by simpa using hs
     exact ⟨y, rfl, h.1⟩
   | succ j => exact i2 j s (by simpa using hs)
theorem leH_ok : ∀ {l h' : Heap}, leH l h' -> ∀ n t cs, (n, t, cs) ∈ l -> ∃ cs', (n, t, cs') ∈ h' /\ leL cs cs'
 | [], _, _, _, _, _, hm => by cases hm
 | x :: l, h', h, n, t, cs, hm => by
   obtain ⟨h1, h2⟩ := h
   rcases List.mem_cons.1 hm with rfl | hm
   · simp only at h1
     split at h1
     · rename_i t' cs' hf
       obtain ⟨rfl, h1⟩ := h1
       exact ⟨cs', findH_mem hf, h1⟩
     · exact h1.elim
   · exact leH_ok h2 n t cs hm
section
variable {X : Cx} {S S' : St} {A A' : Facts} {a : Act} {w w' : World} {r : Nat -> Nat} {own : Nat -> Option Ent}
theorem Sim.weak (h : Sim X S A a w r own) (S' : St) (A' : Facts) (σ : List (Nat × Nat)) (ht : leT S'.t S.t) (hh : leH S'.h S.h) (h1 : ltTb S'.n S'.t = true) (h2 : ltHb S'.n S'.h = true)
 (hr : (X.rt.all fun x => decide (x.1 < S'.n)) = true) (hs : (σ.all fun x => decide (x.2 < S'.m)) = true) (hu : ∀ j j' l, σ.lookup j = some l -> σ.lookup j' = some l -> j = j')
 (hf : ∀ l B, (l, B) ∈ A' -> ∃ j B', σ.lookup j = some l /\ (j, B') ∈ A /\ ∀ w F, B'.P w F -> B.P w F) : ∃ own', Sim X S' A' a w r own' := by
 refine ⟨fun k => match own k with
  | some (.nm n) => if n < S'.n then some (.nm n) else none
  | some (.fa j) => (σ.lookup j).map .fa
  | none => none, h.dfr, ?_, ?_, ?_, ?_, ?_, ?_, ?_, ?_, h.frm, fun n g hm => ⟨by simpa using List.all_eq_true.1 hr _ hm, (h.rts n g hm).2⟩⟩
 · rw [(leT_ok ht).1]; exact h.sz
 · intro j sv hj
   obtain ⟨s', e1, e2⟩ := (leT_ok ht).2 j sv hj
   exact leS_ok e2 (h.slot j s' e1)
 · exact fun sv hm => SV.ltb_ok (List.all_eq_true.1 h1 sv hm)
 · intro n t cs hm
   obtain ⟨cs', e1, e2⟩ := leH_ok hh n t cs hm
   have hb := List.all_eq_true.1 h2 _ hm
   simp only [Bool.and_eq_true, decide_eq_true_eq] at hb
   obtain ⟨_, _, e3, vs, e4, e5, e6⟩ := h.heap n t cs' e1
   refine ⟨hb.1, ltLb_ok hb.2, ?_, vs, e4, leL_ok e2 e5, e6⟩
   simp only [e3, if_pos hb.1]
 · intro l B hm
   obtain ⟨j, B', e1, e2, e3⟩ := hf l B hm
   obtain ⟨e4, e5⟩ := h.fact j B' e2
   obtain ⟨l1, l2, el, _⟩ := List.lookup_eq_some_iff.1 e1
   refine ⟨?_, ?_⟩
   · have := List.all_eq_true.1 hs (j, l) (by rw [el]; simp)
     simpa using this
   · refine e3 _ _ ?_
     have he : (fun k => own k = some (Ent.fa j)) = (fun k => (match own k with
      | some (.nm n) => if n < S'.n then some (Ent.nm n) else none
      | some (.fa j) => (σ.lookup j).map Ent.fa
      | none => none) = some (Ent.fa l)) := by
      funext k
      apply propext
      cases ho : own k with
      | none => simp
      | some e =>
        cases e with
        | nm n =>
          simp only [Option.some.injEq, reduceCtorEq, false_iff]
          split <;> simp
        | fa j' =>
          simp only [Option.some.injEq, Ent.fa.injEq, Option.map_eq_some_iff, exists_eq_right]
          exact ⟨fun hj => hj ▸ e1, fun hj => hu _ _ _ hj e1⟩
     rw [<- he]
     exact e5
 · intro k e hk
   cases ho : own k with
   | none => simp [ho] at hk
   | some e' => exact h.bnd k e' ho
 · intro k n hk
   cases ho : own k with
   | none => simp [ho] at hk
   | some e' =>
     rw [ho] at hk
     cases e' with
     | nm m =>
       simp only at hk
       split at hk
       · simp only [Option.some.injEq, Ent.nm.injEq] at hk
         omega
       · cases hk
     | fa j => simp at hk
 · intro k l hk
   cases ho : own k with
   | none => simp [ho] at hk
   | some e' =>
     rw [ho] at hk
     cases e' with
     | nm m =>
       simp only at hk
       split at hk <;> cases hk
     | fa j =>
       simp only [Option.map_eq_some_iff, Ent.fa.injEq, exists_eq_right] at hk
       obtain ⟨l1, l2, el, _⟩ := List.lookup_eq_some_iff.1 hk
       have := List.all_eq_true.1 hs (j, l) (by rw [el]; simp)
       simpa using this
end
section
variable {E : En} {k : Kt} {S : St}
theorem WC_loop {ι : Type} {b : Code} (φ : ι -> Prop) (SI : ι -> St) (AI : ι -> Facts) (μ : ι -> Nat)
 (round : ∀ i, φ i -> ∀ E' : En, E'.X = E.X -> E'.A = AI i -> E'.Q = E.Q -> ∀ J : Act -> World -> Prop, (∀ j, φ j -> μ j < μ i -> ∀ a w r own, Sim E.X (SI j) (AI j) a w r own -> J a w) -> WC E' b (.lp J k) (SI i)) :
 ∀ i, φ i -> ∀ a w r own, Sim E.X (SI i) (AI i) a w r own -> (Code.loop b).wp E.X.P (kq E k) a w := by
 have key : ∀ n i, φ i -> μ i < n -> ∀ a w r own, Sim E.X (SI i) (AI i) a w r own -> Code.rounds E.X.P b (kq E k) n a w := by
  intro n
  induction n with
  | zero => intro i _ h; omega
  | succ n ih =>
    intro i hi hn a w r own hs
    have := round i hi ⟨E.X, AI i, E.Q⟩ rfl rfl rfl (Code.rounds E.X.P b (kq E k) n) (fun j hj hlt a w r own hs => ih j hj (by omega) a w r own hs) a w r own hs
    have hk : kq (⟨E.X, AI i, E.Q⟩ : En) k = kq E k := kq_congr (E := E) (E' := ⟨E.X, AI i, E.Q⟩) rfl rfl k
    simp only [kq, hk] at this
    exact this
 intro i hi a w r own hs
 exact wp_loop_rounds (μ i + 1) (key _ i hi (Nat.lt_succ_self _) a w r own hs)
theorem WC_loop_in {ι : Type} {b : Code} (φ : ι -> Prop) (SI : ι -> St) (AI : ι -> Facts) (μ : ι -> Nat) (i0 : ι) (h0 : φ i0)
 (hin : ∀ a w r own, Sim E.X S E.A a w r own -> ∃ own', Sim E.X (SI i0) (AI i0) a w r own')
 (round : ∀ i, φ i -> ∀ E' : En, E'.X = E.X -> E'.A = AI i -> E'.Q = E.Q -> ∀ J : Act -> World -> Prop, (∀ j, φ j -> μ j < μ i -> ∀ a w r own, Sim E.X (SI j) (AI j) a w r own -> J a w) -> WC E' b (.lp J k) (SI i)) : WC E (.loop b) k S := by
 intro a w r own hs
 obtain ⟨own', hs'⟩ := hin a w r own hs
 exact WC_loop φ SI AI μ round i0 h0 a w r own' hs'
theorem WX_lp {J : Act -> World -> Prop} {X : Cx} (S' : St) (A' : Facts) (hX : E.X = X) (hJ : ∀ a w r own, Sim X S' A' a w r own -> J a w)
 (hw : ∀ a w r own, Sim X S E.A a w r own -> ∃ own', Sim X S' A' a w r own') : WX E .normal (.lp J k) S := by
 intro a w r own hs
 subst hX
 obtain ⟨own', hs'⟩ := hw a w r own hs
 exact hJ a w r own' hs'
theorem WC_weak {c : Code} (S' : St) (A' : Facts) (hw : ∀ a w r own, Sim E.X S E.A a w r own -> ∃ own', Sim E.X S' A' a w r own') (h : ∀ E' : En, E'.X = E.X -> E'.A = A' -> E'.Q = E.Q -> WC E' c k S') : WC E c k S := by
 intro a w r own hs
 obtain ⟨own', hs'⟩ := hw a w r own hs
 have := h ⟨E.X, A', E.Q⟩ rfl rfl rfl a w r own' hs'
 rwa [kq_congr (E := E) (E' := ⟨E.X, A', E.Q⟩) rfl rfl] at this
end
attribute [go_sem] leC leL leS leT leH Cl.ltb TV.ltb SV.ltb ltTb ltHb
structure Kp (wr : List Nat) (S S' : St) (w w' : World) (r r' : Nat -> Nat) : Prop where
 nam : ∀ n, n < S.n -> r' n = r n
 blk : ∀ n t cs, (n, t, cs) ∈ S.h -> n ∉ wr -> w'.heap[r n]? = w.heap[r n]?
 siz : w.heap.size <= w'.heap.size
 bnd : S.n <= S'.n
 dwn : ∀ x, x ∈ S'.h -> (∃ y ∈ S.h, y.1 = x.1) \/ S.n <= x.1
 up : ∀ x, x ∈ S.h -> ∃ y ∈ S'.h, y.1 = x.1
def LS (E : En) (S : St) (o : Oper) (wr : List Nat) {α : Type} (φ : α -> Prop) (S' : α -> St) (A' : α -> Facts) : Prop :=
 ∀ a w r own, Sim E.X S E.A a w r own -> ∀ (K : Act -> World -> Prop) (Q : Exit -> Act -> World -> Prop),
  (∀ x, φ x -> ∀ a' w' r' own', Sim E.X (S' x) (A' x) a' w' r' own' -> Kp wr S (S' x) w w' r r' -> K a' w') -> o.wp E.X.P a w K Q
section
variable {E : En} {S : St} {k : Kt} {α : Type} {φ : α -> Prop} {S' : α -> St} {A' : α -> Facts} {o : Oper} {wr : List Nat}
theorem WO_LS (n : Nat) {ops l : List Oper} (hl : LS E S o wr φ S' A') (h : ∀ x, φ x -> ∀ E' : En, E'.X = E.X -> E'.A = A' x -> E'.Q = E.Q -> vl E' n ops l k (S' x)) : WO E ops o l k S := by
 intro a w r own hs
 refine hl a w r own hs _ _ fun x hx a' w' r' own' hs' _ => ?_
 have h1 := vl_ok n ops l k _ (h x hx ⟨E.X, A' x, E.Q⟩ rfl rfl rfl) a' w' r' own' hs'
 rwa [kq_congr (E := E) (E' := ⟨E.X, A' x, E.Q⟩) rfl rfl] at h1
theorem WD_LS (n : Nat) {g : Rg} {i : Nat} {s : Sch} (hQ : QP E.Q) (hl : LS E S o wr φ S' A') (hwr : ∀ n js, (n, js) ∈ g.ro -> n ∈ wr -> i ∈ js)
 (h : ∀ x, φ x -> ∀ E' : En, E'.X = E.X -> E'.A = A' x -> E'.Q = E.Q -> vd E' n g k s (S' x)) : WD E g k i o s S := by
 intro fuel listed hs hst a w r own r0 ws hd
 refine hl a w r own hd.sim _ _ fun x hx a' w' r' own' hs' hk => ?_
 have hcw : Cw E.X g.ro r0 ws (listed.setIfInBounds i true) w' := by
  refine ⟨hs'.frm, Nat.le_trans hd.cw.2.1 hk.siz, fun n js hm hj => ?_⟩
  by_cases hn : n ∈ wr
  · have := hj i (hwr n js hm hn)
    rcases Nat.lt_or_ge i listed.size with h' | h'
    · simp [h'] at this
    · simp [Array.getElem?_eq_none h'] at this
  · obtain ⟨y, hy, rfl⟩ := hd.sb n js hm
    have hb := hk.blk y.1 y.2.1 y.2.2 hy hn
    rw [hd.rr _ (hd.rb _ js hm).1] at hb
    rw [hb]
    exact (hd.cw.of_set).2.2 y.1 js hm hj
 have hdc : Dc (⟨E.X, A' x, E.Q⟩ : En) g (S' x) (listed.setIfInBounds i true) a' w' r' own' r0 ws := by
  refine ⟨hs', fun n hn => (hk.nam n (Nat.lt_of_lt_of_le hn hd.le)).trans (hd.rr n hn), Nat.le_trans hd.le hk.bnd, hd.rb, fun x hx hlt => ?_, fun n js hm => ?_, hd.rj, hcw⟩
  · rcases hk.dwn x hx with ⟨y, hy, hyx⟩ | hge
    · rw [<- hyx] at hlt ⊢
      exact hd.nm y hy hlt
    · exact absurd hlt (Nat.not_lt.2 (Nat.le_trans hd.le hge))
  · obtain ⟨y, hy, e⟩ := hd.sb n js hm
    obtain ⟨z, hz, e'⟩ := hk.up y hy
    exact ⟨z, hz, e'.trans e⟩
 have h3 := vd_ok (E := ⟨E.X, A' x, E.Q⟩) hQ n s _ (h x hx ⟨E.X, A' x, E.Q⟩ rfl rfl rfl) fuel _ hs a' w' r' own' r0 ws hdc
 rw [kq_congr (E := E) (E' := ⟨E.X, A' x, E.Q⟩) rfl rfl] at h3
 exact ⟨hcw, h3⟩
end
section
variable {X : Cx} {S : St} {A : Facts} {a : Act} {w w' : World} {r : Nat -> Nat} {own : Nat -> Option Ent}
open Classical in
theorem Sim.trade (h : Sim X S A a w r own) (J : List Nat) {B : Asn} {F : Nat -> Prop} (hf : Frm (fun k => ∃ j ∈ J, own k = some (.fa j)) w w') (hB : B.P w' F)
 (hF : ∀ k, F k -> (∃ j ∈ J, own k = some (.fa j)) \/ (w.heap.size <= k /\ k < w'.heap.size)) :
 Sim X { S with m := S.m + 1 } ((S.m, B) :: A.filter fun x => !J.contains x.1) a w' r (fun k => if F k then some (.fa S.m) else if ∃ j ∈ J, own k = some (.fa j) then none else own k) := by
 have hnm : ∀ k n, own k = some (.nm n) -> ¬ F k /\ ¬ ∃ j ∈ J, own k = some (.fa j) := fun k n hk => by
  have h2 : ¬ ∃ j ∈ J, own k = some (.fa j) := fun ⟨j, _, hj⟩ => by rw [hk] at hj; cases hj
  refine ⟨fun hFk => ?_, h2⟩
  rcases hF k hFk with h3 | h3
  · exact h2 h3
  · exact absurd (h.bnd k _ hk).1 (Nat.not_lt.2 h3.1)
 have hfa : ∀ k j, own k = some (.fa j) -> j ∉ J -> ¬ F k /\ ¬ ∃ j ∈ J, own k = some (.fa j) := fun k j hk hj => by
  have h2 : ¬ ∃ j ∈ J, own k = some (.fa j) := fun ⟨j', hj', hk'⟩ => by
   rw [hk] at hk'
   simp only [Option.some.injEq, Ent.fa.injEq] at hk'
   exact hj (hk' ▸ hj')
  refine ⟨fun hFk => ?_, h2⟩
  rcases hF k hFk with h3 | h3
  · exact h2 h3
  · exact absurd (h.bnd k _ hk).1 (Nat.not_lt.2 h3.1)
 refine ⟨h.dfr, h.sz, h.slot, h.slt, ?_, ?_, ?_, ?_, ?_, h.frm.trans hf ?_, h.rts⟩
 · intro n t cs hm
   obtain ⟨e1, e2, e3, vs, e4, e5, e6⟩ := h.heap n t cs hm
   obtain ⟨f1, f2⟩ := hnm _ _ e3
   exact ⟨e1, e2, by simp only [if_neg f1, if_neg f2]; exact e3, vs, by rw [hf.block _ (h.bnd _ _ e3).1 f2]; exact e4, e5, e6⟩
 · intro j B' hm
   rcases List.mem_cons.1 hm with he | hm
   · simp only [Prod.mk.injEq] at he
     obtain ⟨rfl, rfl⟩ := he
     refine ⟨Nat.lt_succ_self _, ?_⟩
     have : (fun k => (if F k then some (Ent.fa S.m) else if ∃ j ∈ J, own k = some (.fa j) then none else own k) = some (.fa S.m)) = F := by
      funext k
      apply propext
      by_cases hfk : F k
      · simp [hfk]
      · simp only [hfk, if_false, iff_false]
        intro hk
        split at hk
        · cases hk
        · exact absurd (h.fas k _ hk) (Nat.lt_irrefl _)
     rw [this]
     exact hB
   · simp only [List.mem_filter, Bool.not_eq_true', List.contains_eq_mem, decide_eq_false_iff_not] at hm
     obtain ⟨e1, e2⟩ := h.fact j B' hm.1
     refine ⟨Nat.lt_succ_of_lt e1, ?_⟩
     have : (fun k => (if F k then some (Ent.fa S.m) else if ∃ j ∈ J, own k = some (.fa j) then none else own k) = some (.fa j)) = (fun k => own k = some (.fa j)) := by
      funext k
      apply propext
      constructor
      · intro hk
        split at hk
        · simp only [Option.some.injEq, Ent.fa.injEq] at hk
          omega
        · split at hk
          · cases hk
          · exact hk
      · intro hk
        obtain ⟨f1, f2⟩ := hfa k j hk hm.2
        simp only [if_neg f1, if_neg f2]
        exact hk
     rw [this]
     exact B'.loc (fun k hk => hf.block k (h.bnd _ _ hk).1 (hfa k j hk hm.2).2) e2
 · intro k e hk
   split at hk
   · rename_i hFk
     rcases hF k hFk with ⟨j, _, hj⟩ | h3
     · obtain ⟨b1, b2⟩ := h.bnd k _ hj
       exact ⟨Nat.lt_of_lt_of_le b1 hf.size, b2⟩
     · exact ⟨h3.2, .inl (Nat.le_trans h.frm.size h3.1)⟩
   · split at hk
     · cases hk
     · obtain ⟨b1, b2⟩ := h.bnd k _ hk
       exact ⟨Nat.lt_of_lt_of_le b1 hf.size, b2⟩
 · intro k n hk
   split at hk
   · cases hk
   · split at hk
     · cases hk
     · exact h.nms k n hk
 · intro k j hk
   show j < S.m + 1
   split at hk
   · simp only [Option.some.injEq, Ent.fa.injEq] at hk
     omega
   · split at hk
     · cases hk
     · exact Nat.lt_succ_of_lt (h.fas k j hk)
 · intro k hk ⟨j, _, hj⟩
   rcases (h.bnd k _ hj).2 with h2 | h2
   · omega
   · exact h2
theorem Frm.none {w w' : World} {M : Nat -> Prop} (h : Frm (fun _ => False) w w') : Frm M w w' := ⟨h.os, h.tape, h.output, h.size, fun k hk _ => h.block k hk (fun x => x)⟩
end
def St.putM (S : St) (d : Option Tmp) (v : SV) : St := St.put { S with m := S.m + 1 } d v
def outF (J : List Nat) (A : Facts) : Facts := A.filter fun x => !J.contains x.1
section
variable {E : En} {S : St} {α : Type} {φ : α -> Prop} {c : Call} {dst : Option Tmp} {ty : TypeId} {pos : String} {after : Array Edge} {guard : Option (Nat × Bool)}
theorem put_h (S : St) (d : Option Tmp) (v : SV) : (S.put d v).h = S.h /\ (S.put d v).n = S.n := by cases d <;> exact ⟨rfl, rfl⟩
theorem Kp.same {wr : List Nat} {S S' : St} {w w' : World} {r : Nat -> Nat} (hh : S'.h = S.h) (hn : S'.n = S.n) (hs : w.heap.size <= w'.heap.size) (hb : ∀ n t cs, (n, t, cs) ∈ S.h -> n ∉ wr -> w'.heap[r n]? = w.heap[r n]?) : Kp wr S S' w w' r r :=
 ⟨fun _ _ => rfl, hb, hs, by rw [hn]; exact Nat.le_refl _, fun x hx => .inl ⟨x, hh ▸ hx, rfl⟩, fun x hx => ⟨x, hh ▸ hx, rfl⟩⟩
theorem LS_call0 {f : FuncId} {P : Program} (res : α -> SV) (φ : α -> Prop) (hP : E.X.P = P) (hc : c.callee = .value (.func f)) (hf : callable P f = true) (hl : ∀ x, (res x).lt 0)
 (hk : (c.args.toList.all fun x => (ev S x).known) = true)
 (hcall : ∀ a w r own, Sim E.X S E.A a w r own -> Calls P f ((c.args.toList.map fun x => (ev S x).den r).toArray) w (Ret0 res φ w)) :
 LS E S ⟨dst, .call c, ty, pos, after, guard⟩ [] φ (fun x => S.put dst (res x)) (fun _ => E.A) := by
 intro a w r own hs K Q hK
 subst hP
 refine wp_of_calls hc hf rfl ?_
 rw [args_eval hs.toR hk]
 refine (hcall a w r own hs).mono fun e w' hr => ?_
 obtain ⟨x, hx, ⟨u, he, hu⟩, hfr⟩ := hr
 exact ⟨u, he, hK x hx _ _ _ _ ((hs.ext hfr).put dst (hu r) (SV.lt_mono (Nat.zero_le _) (hl x))) (.same (put_h ..).1 (put_h ..).2 hfr.size fun n t cs hm _ => hfr.block _ (hs.bnd _ _ (hs.heap n t cs hm).2.2.1).1 (fun x => x))⟩
theorem LS_call1 {f : FuncId} {P : Program} (res : α -> SV) (φ : α -> Prop) (B : α -> Asn) (hP : E.X.P = P) (hc : c.callee = .value (.func f)) (hf : callable P f = true) (hl : ∀ x, (res x).lt 0)
 (hk : (c.args.toList.all fun x => (ev S x).known) = true)
 (hcall : ∀ a w r own, Sim E.X S E.A a w r own -> Calls P f ((c.args.toList.map fun x => (ev S x).den r).toArray) w (Ret1 res φ B w)) :
 LS E S ⟨dst, .call c, ty, pos, after, guard⟩ [] φ (fun x => S.putM dst (res x)) (fun x => (S.m, B x) :: E.A) := by
 intro a w r own hs K Q hK
 subst hP
 refine wp_of_calls hc hf rfl ?_
 rw [args_eval hs.toR hk]
 refine (hcall a w r own hs).mono fun e w' hr => ?_
 obtain ⟨x, hx, ⟨u, he, hu⟩, hfr, F, hF, hB⟩ := hr
 have h1 := (hs.ext hfr).addF hB (fun k hk => by
  obtain ⟨e1, e2⟩ := hF k hk
  refine ⟨?_, e2, .inl (Nat.le_trans hs.frm.size e1)⟩
  cases ho : own k with
  | none => rfl
  | some e => exact absurd (hs.bnd k e ho).1 (Nat.not_lt.2 e1))
 exact ⟨u, he, hK x hx _ _ _ _ (h1.put dst (hu r) (SV.lt_mono (Nat.zero_le _) (hl x))) (.same (put_h ..).1 (put_h ..).2 hfr.size fun n t cs hm _ => hfr.block _ (hs.bnd _ _ (hs.heap n t cs hm).2.2.1).1 (fun x => x))⟩
theorem LS_callJ {f : FuncId} {P : Program} (J : List Nat) (res : α -> SV) (φ : α -> Prop) (B : α -> Asn) (hP : E.X.P = P) (hc : c.callee = .value (.func f)) (hf : callable P f = true) (hl : ∀ x, (res x).lt 0)
 (hk : (c.args.toList.all fun x => (ev S x).known) = true)
 (hcall : ∀ a w r own, Sim E.X S E.A a w r own -> Calls P f ((c.args.toList.map fun x => (ev S x).den r).toArray) w (fun e w' => ∃ x, φ x /\ (∃ u, e = .returned u /\ ∀ r, (res x).ok r u) /\ Frm (fun k => ∃ j ∈ J, own k = some (.fa j)) w w' /\
   ∃ F : Nat -> Prop, (∀ k, F k -> (∃ j ∈ J, own k = some (.fa j)) \/ (w.heap.size <= k /\ k < w'.heap.size)) /\ (B x).P w' F)) :
 LS E S ⟨dst, .call c, ty, pos, after, guard⟩ [] φ (fun x => S.putM dst (res x)) (fun x => (S.m, B x) :: outF J E.A) := by
 intro a w r own hs K Q hK
 subst hP
 refine wp_of_calls hc hf rfl ?_
 rw [args_eval hs.toR hk]
 refine (hcall a w r own hs).mono fun e w' hr => ?_
 obtain ⟨x, hx, ⟨u, he, hu⟩, hfr, F, hF, hB⟩ := hr
 exact ⟨u, he, hK x hx _ _ _ _ ((hs.trade J hfr hB hF).put dst (hu r) (SV.lt_mono (Nat.zero_le _) (hl x))) (.same (put_h ..).1 (put_h ..).2 hfr.size fun n t cs hm _ => hfr.block _ (hs.bnd _ _ (hs.heap n t cs hm).2.2.1).1 (fun ⟨j, _, hj⟩ => by
  rw [(hs.heap n t cs hm).2.2.1] at hj; cases hj))⟩
def Row (e size : Nat) (v : Value) (n : Nat) (xs : List Value) : Asn where
 P w F := w.ownsRow 0 e size v n xs /\ (∀ k, F k ↔ v.ownBlock = some k) /\ (∀ u ∈ xs, u.oneCell' = true)
 loc := fun {w w' F} hw h => by
  obtain ⟨⟨h1, h2⟩, h3, h4⟩ := h
  refine ⟨⟨h1, ?_⟩, h3, h4⟩
  rcases h2 with h2 | ⟨g, cap, cur, rfl, hb, hg, rest⟩
  · exact .inl h2
  · exact .inr ⟨g, cap, cur, rfl, hb, by rw [hw g ((h3 g).2 rfl)]; exact hg, rest⟩
def rowT (P : Program) (t e size bytes : Nat) : Bool :=
 (match P.underlying t with | some (.slice e') => e' == e | _ => false) && (match P.info? e with
   | some i => i.size == size && i.bytes == bytes && (match i.zero with | some z => z.cells.size == size | none => false)
   | none => false) && decide (0 < size)
theorem rowT_spec {P : Program} {t e size bytes : Nat} (h : rowT P t e size bytes = true) : P.underlying t = some (.slice e) /\ (∃ i z, P.info? e = some i /\ i.zero = some z /\ i.size = size /\ i.bytes = bytes /\ z.cells.size = size) /\ 0 < size := by
 unfold rowT at h
 simp only [Bool.and_eq_true, decide_eq_true_eq] at h
 obtain ⟨⟨h1, h2⟩, h3⟩ := h
 refine ⟨?_, ?_, h3⟩
 · split at h1
   · rename_i e' he
     rw [he]
     simpa using h1
   · cases h1
 · split at h2
   · rename_i i hi
     simp only [Bool.and_eq_true, beq_iff_eq] at h2
     obtain ⟨⟨e1, e2⟩, e3⟩ := h2
     split at e3
     · rename_i z hz
       exact ⟨i, z, hi, hz, e1, e2, by simpa using e3⟩
     · cases e3
   · cases h2
def News (E : En) (S : St) (x : Operand) (m : Nat) (news : List Value) : Prop :=
 ∀ a w r own, Sim E.X S E.A a w r own -> ∃ ad cp, a.eval x = .slice (some ad) m cp /\ (∀ j u, news[j]? = some u -> w.cell? (ad.add j) = some u) /\ ∀ u ∈ news, u.oneCell' = true
theorem News_sl {x : Operand} {n q m cp t : Nat} {cs : List Cl} (news : List Value) (hx : ev S x = .sc (.sl n q m cp)) (hf : findH S.h n = some (t, cs)) (hc : (cs.drop q).take news.length = news.map .va) (hu : ∀ u ∈ news, u ≠ undef \/ True) : News E S x m news := by
 intro a w r own hs
 have he := (ev_ok hs.toR x).1
 rw [hx] at he
 obtain ⟨_, _, e3, vs, e4, e5, e6⟩ := hs.heap n t cs (findH_mem hf)
 have hev : a.eval x = .slice (some ⟨r n, q, none⟩) m cp := by
  rcases he with he | he
  · cases he
  · exact he
 have hget : ∀ (j : Nat) (u : Value), news[j]? = some u -> vs[q + j]? = some u := fun j u hj => by
  have hjl := (List.getElem?_eq_some_iff.1 hj).1
  have h1 : ((cs.drop q).take news.length)[j]? = some (.va u) := by rw [hc, List.getElem?_map, hj]; rfl
  rw [List.getElem?_take_of_lt hjl, List.getElem?_drop] at h1
  have h2 := e5.2 _ _ h1
  have h3 : q + j < vs.length := by rw [<- e5.1]; exact (List.getElem?_eq_some_iff.1 h1).1
  rcases h2 with h2 | h2
  · cases h2
  · rw [List.getD_eq_getElem?_getD, List.getElem?_eq_getElem h3] at h2
    rw [List.getElem?_eq_getElem h3]
    simpa [Cl.den] using h2
 refine ⟨_, _, hev, fun j u hj => ?_, fun u hu => ?_⟩
 · rw [addr_add, cell_at e4]
   simpa using hget j u hj
 · obtain ⟨j, hj⟩ := List.getElem?_of_mem hu
   exact e6 u (List.mem_of_getElem? (hget j u hj))
theorem ownsRow_base {w : World} {b : Nat} {e size : Nat} {v : Value} {n : Nat} {xs : List Value} (h : w.ownsRow b e size v n xs) : w.ownsRow 0 e size v n xs := by
 obtain ⟨h1, h2⟩ := h
 refine ⟨h1, ?_⟩
 rcases h2 with h2 | ⟨g, cap, cur, e1, _, e2⟩
 · exact .inl h2
 · exact .inr ⟨g, cap, cur, e1, Nat.zero_le _, e2⟩
theorem ownsRow_new {w w' : World} {e size : Nat} {v : Value} {n : Nat} {xs : List Value} (h : w'.ownsRow w.heap.size e size v n xs) : ∀ k, v.ownBlock = some k -> w.heap.size <= k /\ k < w'.heap.size := by
 intro k hk
 rcases h.2 with ⟨rfl, _⟩ | ⟨g, cap, cur, rfl, hb, hg, _⟩
 · cases hk
 · simp only [Value.ownBlock, Option.some.injEq] at hk
   subst hk
   exact ⟨hb, (Array.getElem?_eq_some_iff.1 hg).1⟩
theorem run_append_blk {P : Program} (w : World) (t ty e : TypeId) (i : TypeInfo) (z : Value) (size bytes : Nat) (ht : P.underlying t = some (.slice e)) (hi : P.info? e = some i) (hz : i.zero = some z)
 (hsize : i.size = size) (hby : i.bytes = bytes) (hzs : z.cells.size = size) (hsz : 0 < size) (v : Value) (n : Nat) (xs : List Value) (hown : w.ownsRow 0 e size v n xs)
 (a : Addr) (m c : Nat) (news : List Value) (hl : news.length = m * size) (hnews : ∀ j u, news[j]? = some u -> w.cell? (a.add j) = some u) (h1 : ∀ u ∈ news, u.oneCell' = true)
 (h63 : n + m <= maxLen) (hbytes : (n + m) * bytes <= 140737488355328) :
 ∃ v' w', (Builtin.append_ #[t, t] ty #[v, .slice (some a) m c]).run P w = .ok v' w' /\ w'.ownsRow 0 e size v' (n + m) (xs ++ news) /\ w.grownBy w' v.ownBlock /\
  (v' = .slice none 0 0 ↔ v = .slice none 0 0 /\ m = 0) /\ ∀ k, v'.ownBlock = some k -> v.ownBlock = some k \/ (w.heap.size <= k /\ k < w'.heap.size) := by
 rcases hown.2 with ⟨rfl, rfl⟩ | ⟨g, cap, cur, rfl, hbg, hg, hnc, hcm, hcs, htake⟩
 · have hx : xs = [] := List.eq_nil_of_length_eq_zero (by simpa using hown.1)
   subst hx
   obtain ⟨v', w', hr, h2, h3, h4⟩ := run_append_own (P := P) w w.heap.size t ty e i z size bytes ht hi hz hsize hby hzs hsz (.slice none 0 0) 0 [] (World.ownsRow_nil w _ e size) a m c news hl hnews h1 h63 hbytes (Nat.le_refl _)
   exact ⟨v', w', hr, ownsRow_base h2, h3, h4, fun k hk => .inr (ownsRow_new h2 k hk)⟩
 · by_cases hroom : n + m <= cap
   · obtain ⟨w', hr, h2, h3⟩ := run_append_fits (P := P) w 0 t ty e i size ht hi hsize g n cap xs hown a m c news hl hnews h1 hroom
     exact ⟨_, w', hr, h2, h3, by simp, fun k hk => .inl hk⟩
   · have holds : ∀ j u, xs[j]? = some u -> w.cell? ((⟨g, 0, none⟩ : Addr).add j) = some u := hown.cells (g := g) rfl
     obtain ⟨v', w', hr, h2, h3⟩ := run_append_arg_grows (P := P) w t ty e i z size bytes ht hi hz hsize hby hzs hsz ⟨g, 0, none⟩ n cap xs hown.1 holds a m c news hl hnews (by omega) h63 hbytes
     refine ⟨v', w', hr, ownsRow_base h2, ⟨h3.os, h3.tape, h3.output, h3.size, fun k hk _ => h3.block k hk (by simp)⟩, ?_, fun k hk => .inr (ownsRow_new h2 k hk)⟩
     rcases h2.2 with ⟨rfl, h0⟩ | ⟨g', cap', cur', rfl, _⟩
     · omega
     · simp
theorem LS_append {P : Program} {s x : Operand} {t e size bytes : Nat} (j : Nat) (v : Value) (n : Nat) (xs : List Value) (m : Nat) (news : List Value) (hP : E.X.P = P) (hc : c = { callee := .builtin .append, args := #[s, x], argTypes := #[t, t] })
 (hT : rowT P t e size bytes = true) (hv : ev S s = .sc (.va v)) (hj : (j, Row e size v n xs) ∈ E.A) (hn : News E S x m news) (hl : news.length = m * size) (hm : n + m <= 2147483648) (hb : bytes <= 65536) :
 LS E S ⟨dst, .call c, ty, pos, after, guard⟩ [] (fun v' : Value => (v' = .slice none 0 0 ↔ v = .slice none 0 0 /\ m = 0) /\ ∃ a cp, v' = .slice a (n + m) cp) (fun v' => S.putM dst (.sc (.va v'))) (fun v' => (S.m, Row e size v' (n + m) (xs ++ news)) :: outF [j] E.A) := by
 intro a w r own hs K Q hK
 subst hP
 subst hc
 obtain ⟨t1, ⟨i, z, t2, t3, t4, t5, t6⟩, t7⟩ := rowT_spec hT
 have he := (ev_ok hs.toR s).1
 rw [hv] at he
 obtain ⟨ad, cp, hx, hcell, hone⟩ := hn a w r own hs
 obtain ⟨_, hrow, hF, h1⟩ := hs.fact j _ hj
 have hbb : (n + m) * bytes <= 140737488355328 := by
  have : (n + m) * bytes <= 2147483648 * 65536 := Nat.mul_le_mul hm hb
  omega
 obtain ⟨v', w', hr, hown, hg, hnil, hblk⟩ := run_append_blk (P := E.X.P) w t ty e i z size bytes t1 t2 t3 t4 t5 t6 t7 v n xs hrow ad m cp news hl hcell hone (by simp only [maxLen]; omega) hbb
 have hve := va_of he
 unfold Oper.wp execOp
 simp only [resolve, invoke, builtin, Sem.run_bind, Sem.run_pure, Result.andThen_ok, List.map_toArray, List.map_cons, List.map_nil, hve, hx, hr]
 have hfr : Frm (fun k => ∃ j' ∈ [j], own k = some (.fa j')) w w' := ⟨hg.os, hg.tape, hg.output, hg.size, fun k hk hno => hg.block k hk (fun he => hno ⟨j, by simp, (hF k).2 he.symm⟩)⟩
 have hnew : ∀ k, v'.ownBlock = some k -> (∃ j' ∈ [j], own k = some (.fa j')) \/ (w.heap.size <= k /\ k < w'.heap.size) := fun k hk => (hblk k hk).imp (fun h => ⟨j, by simp, (hF k).2 h⟩) id
 have h2 := hs.trade [j] (B := Row e size v' (n + m) (xs ++ news)) (F := fun k => v'.ownBlock = some k) hfr ⟨hown, fun k => Iff.rfl, fun u hu => (List.mem_append.1 hu).elim (h1 u) (hone u)⟩ hnew
 refine hK v' ⟨hnil, ?_⟩ _ _ _ _ (h2.put dst (ok_va r v') trivial) (.same (put_h ..).1 (put_h ..).2 hfr.size fun n t cs hm _ => hfr.block _ (hs.bnd _ _ (hs.heap n t cs hm).2.2.1).1 (fun ⟨j, _, hj⟩ => by
  rw [(hs.heap n t cs hm).2.2.1] at hj; cases hj))
 obtain ⟨_, h2 | ⟨g, cap, cur, rfl, _⟩⟩ := hown
 · exact ⟨none, 0, by rw [h2.1, h2.2]⟩
 · exact ⟨_, _, rfl⟩
end
