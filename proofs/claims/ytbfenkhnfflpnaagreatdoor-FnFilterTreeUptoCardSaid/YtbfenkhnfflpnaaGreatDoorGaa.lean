/- Lemmas for FnFilterTree; each condition stands in its statement. -/
import Derived.Tactics
import Derived.OrdersHeld
import Derived.Below
import Derived.Laws.Cells
import Derived.Laws.CopyRow
import Derived.Laws.Tables
import Derived.Laws.Rows
import Derived.WalkKit
namespace Go.Proofs.YtbfenkhnfflpnaaGreatDoor.Sx
open Go Go.RowKit
set_option maxRecDepth 100000
set_option maxHeartbeats 40000000
set_option linter.all false
inductive Cl where
 | un
 | va (u : Value)
 | pt (n o : Nat)
 | ic (t n o : Nat)
 | sl (n o l c : Nat)
def Cl.den (r : Nat -> Nat) : Cl -> Value
 | .un => undef
 | .va u => u
 | .pt n o => .pointer (some ⟨r n, o, none⟩)
 | .ic t n o => .iface t (.pointer (some ⟨r n, o, none⟩))
 | .sl n o l c => .slice (some ⟨r n, o, none⟩) l c
def Cl.ok (r : Nat -> Nat) (c : Cl) (u : Value) : Prop := c = .un \/ u = c.den r
def Cl.lt (b : Nat) : Cl -> Prop
 | .pt n _ | .ic _ n _ | .sl n _ _ _ => n < b
 | _ => True
def Cl.one : Cl -> Bool
 | .un => false
 | .va u => u.oneCell'
 | _ => true
def CL (r : Nat -> Nat) (cs : List Cl) (vs : List Value) : Prop := cs.length = vs.length /\ ∀ (i : Nat) (c : Cl), cs[i]? = some c -> c.ok r (vs.getD i undef)
def ltL (b : Nat) (cs : List Cl) : Prop := ∀ c : Cl, c ∈ cs -> c.lt b
inductive TV where
 | sc (x : Cl)
 | ag (l : List Cl)
inductive SV where
 | sc (x : Cl)
 | ag (l : List Cl)
 | tu (l : List TV)
def TV.sv : TV -> SV
 | .sc x => .sc x
 | .ag l => .ag l
def TV.ok (r : Nat -> Nat) : TV -> Value -> Prop
 | .sc x, u => x.ok r u
 | .ag l, u => ∃ vs : List Value, u = .agg vs.toArray /\ CL r l vs
def TV.lt (b : Nat) : TV -> Prop
 | .sc x => x.lt b
 | .ag l => ltL b l
def SV.ok (r : Nat -> Nat) : SV -> Value -> Prop
 | .sc x, u => x.ok r u
 | .ag l, u => ∃ vs : List Value, u = .agg vs.toArray /\ CL r l vs
 | .tu l, u => ∃ vs : List Value, u = .tuple vs.toArray /\ l.length = vs.length /\ ∀ (i : Nat) (t : TV), l[i]? = some t -> t.ok r (vs.getD i undef)
def SV.lt (b : Nat) : SV -> Prop
 | .sc x => x.lt b
 | .ag l => ltL b l
 | .tu l => ∀ t : TV, t ∈ l -> t.lt b
abbrev Heap := List (Nat × Nat × List Cl)
structure St where
 t : List SV
 h : Heap
 n : Nat
 m : Nat
structure Asn where
 P : World -> (Nat -> Prop) -> Prop
 loc : ∀ {w w' : World} {F : Nat -> Prop}, (∀ k, F k -> w'.heap[k]? = w.heap[k]?) -> P w F -> P w' F
inductive Ent where
 | nm (n : Nat)
 | fa (j : Nat)
abbrev Facts := List (Nat × Asn)
structure Frm (M : Nat -> Prop) (w w' : World) : Prop where
 os : w'.os = w.os
 tape : w'.tape = w.tape
 output : w'.output = w.output
 size : w.heap.size <= w'.heap.size
 block : ∀ k, k < w.heap.size -> ¬ M k -> w'.heap[k]? = w.heap[k]?
theorem Frm.refl (M : Nat -> Prop) (w : World) : Frm M w w := ⟨rfl, rfl, rfl, Nat.le_refl _, fun _ _ _ => rfl⟩
theorem Frm.below {w w' : World} (h : Frm (fun _ => False) w w') : Below w.heap.size w w' := ⟨h.os, h.tape, h.output, h.size, fun k hk => h.block k hk (fun x => x)⟩
theorem Frm.of_below {M : Nat -> Prop} {w w' : World} (h : Below w.heap.size w w') : Frm M w w' := ⟨h.os, h.tape, h.output, h.size, fun k hk _ => h.block k hk⟩
structure Cx where
 P : Program
 w0 : World
 M : Nat -> Prop
 d : List Deferred
 rt : List (Nat × Nat) := []
def HeapOk (r : Nat -> Nat) (own : Nat -> Option Ent) (w : World) (n t : Nat) (cs : List Cl) : Prop :=
 own (r n) = some (.nm n) /\ ∃ vs : List Value, w.heap[r n]? = some (.cells vs.toArray t (0, 0)) /\ CL r cs vs /\ ∀ v, v ∈ vs -> v.oneCell' = true
structure Sim (X : Cx) (S : St) (A : Facts) (a : Act) (w : World) (r : Nat -> Nat) (own : Nat -> Option Ent) : Prop where
 dfr : a.defers = X.d
 sz : a.tmps.size = S.t.length
 slot : ∀ (j : Nat) (sv : SV), S.t[j]? = some sv -> sv.ok r (a.tmps.getD j undef)
 slt : ∀ sv : SV, sv ∈ S.t -> sv.lt S.n
 heap : ∀ n t cs, (n, t, cs) ∈ S.h -> n < S.n /\ ltL S.n cs /\ HeapOk r own w n t cs
 fact : ∀ j B, (j, B) ∈ A -> j < S.m /\ B.P w (fun k => own k = some (.fa j))
 bnd : ∀ k e, own k = some e -> k < w.heap.size /\ (X.w0.heap.size <= k \/ X.M k)
 nms : ∀ k n, own k = some (.nm n) -> n < S.n
 fas : ∀ k j, own k = some (.fa j) -> j < S.m
 frm : Frm X.M X.w0 w
 rts : ∀ n g, (n, g) ∈ X.rt -> n < S.n /\ r n = g
structure SimR (S : St) (a : Act) (w : World) (r : Nat -> Nat) : Prop where
 sz : a.tmps.size = S.t.length
 slot : ∀ (j : Nat) (sv : SV), S.t[j]? = some sv -> sv.ok r (a.tmps.getD j undef)
 slt : ∀ sv : SV, sv ∈ S.t -> sv.lt S.n
 heap : ∀ n t cs, (n, t, cs) ∈ S.h -> ltL S.n cs /\ ∃ vs : List Value, w.heap[r n]? = some (.cells vs.toArray t (0, 0)) /\ CL r cs vs /\ ∀ v, v ∈ vs -> v.oneCell' = true
theorem Sim.toR {X : Cx} {S : St} {A : Facts} {a : Act} {w : World} {r : Nat -> Nat} {own : Nat -> Option Ent} (h : Sim X S A a w r own) : SimR S a w r :=
 ⟨h.sz, h.slot, h.slt, fun n t cs hm => ⟨(h.heap n t cs hm).2.1, (h.heap n t cs hm).2.2.2⟩⟩
def look : List SV -> Nat -> SV
 | [], _ => .sc (.va undef)
 | h :: _, 0 => h
 | _ :: t, n + 1 => look t n
def upd : List SV -> Nat -> SV -> List SV
 | [], _, _ => []
 | _ :: t, 0, v => v :: t
 | h :: t, n + 1, v => h :: upd t n v
theorem look_spec : ∀ (l : List SV) (n : Nat), (n < l.length -> l[n]? = some (look l n)) /\ (l.length <= n -> look l n = .sc (.va undef))
 | [], n => ⟨fun h => absurd h (Nat.not_lt_zero _), fun _ => rfl⟩
 | h :: t, 0 => ⟨fun _ => rfl, fun h => absurd h (by simp)⟩
 | h :: t, n + 1 => ⟨fun hl => by simpa [look] using (look_spec t n).1 (by simpa using hl), fun hl => by simpa [look] using (look_spec t n).2 (by simpa using hl)⟩
theorem upd_length : ∀ (l : List SV) (n : Nat) (v : SV), (upd l n v).length = l.length
 | [], _, _ => rfl
 | _ :: _, 0, _ => rfl
 | h :: t, n + 1, v => by simp [upd, upd_length t n v]
theorem upd_get : ∀ (l : List SV) (n : Nat) (v : SV) (j : Nat), (upd l n v)[j]? = if j = n /\ n < l.length then some v else l[j]?
 | [], n, v, j => by simp [upd]
 | h :: t, 0, v, 0 => by simp [upd]
 | h :: t, 0, v, j + 1 => by simp [upd]
 | h :: t, n + 1, v, 0 => by simp [upd]
 | h :: t, n + 1, v, j + 1 => by simp [upd, upd_get t n v j]
theorem upd_mem {l : List SV} {n : Nat} {v s : SV} (h : s ∈ upd l n v) : s = v \/ s ∈ l := by
 obtain ⟨j, hj⟩ := List.getElem?_of_mem h
 rw [upd_get] at hj
 split at hj
 · exact .inl (by simpa using hj.symm)
 · exact .inr (List.mem_of_getElem? hj)
def St.put (S : St) (d : Option Tmp) (v : SV) : St :=
 match d with
 | some d => { S with t := upd S.t d v }
 | none => S
def ev (S : St) : Operand -> SV
 | .tmp t => look S.t t
 | .const v => .sc (.va v)
 | .global g => .sc (.va (.pointer (some ⟨g, 0, none⟩)))
 | .func f => .sc (.va (.func (.func f) #[] #[]))
section
variable {X : Cx} {S : St} {A : Facts} {a : Act} {w : World} {r : Nat -> Nat} {own : Nat -> Option Ent}
theorem ev_ok (h : SimR S a w r) (x : Operand) : (ev S x).ok r (a.eval x) /\ (ev S x).lt S.n := by
 cases x with
 | tmp t =>
   obtain ⟨h1, h2⟩ := look_spec S.t t
   rcases Nat.lt_or_ge t S.t.length with ht | ht
   · exact ⟨h.slot t _ (h1 ht), h.slt _ (List.mem_of_getElem? (h1 ht))⟩
   · have he : a.tmps.getD t undef = undef := by
      have := h.sz
      simp [Array.getElem?_eq_none (show a.tmps.size <= t by omega)]
     simp only [ev, h2 ht, Act.eval, he]
     exact ⟨.inr rfl, trivial⟩
 | const v => exact ⟨.inr rfl, trivial⟩
 | «global» g => exact ⟨.inr rfl, trivial⟩
 | func f => exact ⟨.inr rfl, trivial⟩
theorem Sim.put (h : Sim X S A a w r own) (d : Option Tmp) {sv : SV} {u : Value} (hu : sv.ok r u) (hl : sv.lt S.n) : Sim X (S.put d sv) A (a.put d u) w r own := by
 cases d with
 | none => exact h
 | some d =>
   refine ⟨h.dfr, ?_, ?_, ?_, h.heap, h.fact, h.bnd, h.nms, h.fas, h.frm, h.rts⟩
   · simp only [Act.put, St.put, Array.size_setIfInBounds, upd_length]; exact h.sz
   · intro j sv' hj
     simp only [St.put, upd_get] at hj
     simp only [Act.put]
     by_cases hc : j = d /\ d < S.t.length
     · rw [if_pos hc] at hj
       obtain ⟨rfl, hd⟩ := hc
       have hd' : j < a.tmps.size := h.sz ▸ hd
       obtain rfl : sv = sv' := by simpa using hj
       simpa [hd'] using hu
     · rw [if_neg hc] at hj
       have hne : ¬ (d = j /\ j < a.tmps.size) := by rintro ⟨rfl, h2⟩; exact hc ⟨rfl, h.sz ▸ h2⟩
       have := h.slot j sv' hj
       by_cases hdj : d = j
       · have : ¬ j < a.tmps.size := fun hh => hne ⟨hdj, hh⟩
         have h1 := (List.getElem?_eq_some_iff.1 hj).1
         have := h.sz
         omega
       · simpa [Array.getElem?_setIfInBounds_ne hdj] using this
   · intro sv' hm
     rcases upd_mem hm with rfl | hm
     · exact hl
     · exact h.slt _ hm
theorem Sim.drew (h : Sim X S A a w r own) : Sim X S A a { w with drawn := w.drawn + 1 } r own :=
 ⟨h.dfr, h.sz, h.slot, h.slt, h.heap, fun j B hm => ⟨(h.fact j B hm).1, B.loc (w := w) (fun _ _ => rfl) (h.fact j B hm).2⟩, h.bnd, h.nms, h.fas, ⟨h.frm.os, h.frm.tape, h.frm.output, h.frm.size, h.frm.block⟩, h.rts⟩
end
theorem Cl.ok_ext {r r' : Nat -> Nat} {b : Nat} (hr : ∀ n, n < b -> r' n = r n) {c : Cl} {u : Value} (hl : c.lt b) (h : c.ok r u) : c.ok r' u := by
 rcases h with rfl | rfl
 · exact .inl rfl
 · refine .inr ?_
   cases c <;> simp_all [Cl.den, Cl.lt]
theorem CL_ext {r r' : Nat -> Nat} {b : Nat} (hr : ∀ n, n < b -> r' n = r n) {cs : List Cl} {vs : List Value} (hl : ltL b cs) (h : CL r cs vs) : CL r' cs vs :=
 ⟨h.1, fun i c hc => (h.2 i c hc).elim (fun e => .inl e) (fun e => Cl.ok_ext hr (hl c (List.mem_of_getElem? hc)) (.inr e))⟩
theorem TV.ok_ext {r r' : Nat -> Nat} {b : Nat} (hr : ∀ n, n < b -> r' n = r n) {t : TV} {u : Value} (hl : t.lt b) (h : t.ok r u) : t.ok r' u := by
 cases t with
 | sc x => exact Cl.ok_ext hr hl h
 | ag l => obtain ⟨vs, e, h⟩ := h; exact ⟨vs, e, CL_ext hr hl h⟩
theorem SV.ok_ext {r r' : Nat -> Nat} {b : Nat} (hr : ∀ n, n < b -> r' n = r n) {t : SV} {u : Value} (hl : t.lt b) (h : t.ok r u) : t.ok r' u := by
 cases t with
 | sc x => exact Cl.ok_ext hr hl h
 | ag l => obtain ⟨vs, e, h⟩ := h; exact ⟨vs, e, CL_ext hr hl h⟩
 | tu l =>
   obtain ⟨vs, e, h1, h2⟩ := h
   exact ⟨vs, e, h1, fun i t ht => TV.ok_ext hr (hl t (List.mem_of_getElem? ht)) (h2 i t ht)⟩
theorem Cl.lt_mono {b b' : Nat} (hb : b <= b') {c : Cl} (h : c.lt b) : c.lt b' := by cases c <;> simp_all [Cl.lt] <;> omega
theorem ltL_mono {b b' : Nat} (hb : b <= b') {cs : List Cl} (h : ltL b cs) : ltL b' cs := fun c hc => Cl.lt_mono hb (h c hc)
theorem TV.lt_mono {b b' : Nat} (hb : b <= b') {c : TV} (h : c.lt b) : c.lt b' := by
 cases c with
 | sc x => exact Cl.lt_mono hb h
 | ag l => exact ltL_mono hb h
theorem SV.lt_mono {b b' : Nat} (hb : b <= b') {c : SV} (h : c.lt b) : c.lt b' := by
 cases c with
 | sc x => exact Cl.lt_mono hb h
 | ag l => exact ltL_mono hb h
 | tu l => exact fun t ht => TV.lt_mono hb (h t ht)
theorem alloc_old (w : World) (o : Obj) {k : Nat} (hk : k < w.heap.size) : (w.alloc o).heap[k]? = w.heap[k]? := by
 show (w.heap.push o)[k]? = _
 rw [Array.getElem?_push, if_neg (Nat.ne_of_lt hk)]
theorem alloc_new (w : World) (o : Obj) : (w.alloc o).heap[w.heap.size]? = some o := by
 show (w.heap.push o)[w.heap.size]? = _
 rw [Array.getElem?_push, if_pos rfl]
theorem alloc_size (w : World) (o : Obj) : (w.alloc o).heap.size = w.heap.size + 1 := Array.size_push ..
def St.new (S : St) (t : Nat) (cs : List Cl) : St := { S with h := S.h ++ [(S.n, t, cs)], n := S.n + 1 }
section
variable {X : Cx} {S : St} {A : Facts} {a : Act} {w : World} {r : Nat -> Nat} {own : Nat -> Option Ent}
theorem Sim.new (h : Sim X S A a w r own) (t : Nat) {cs : List Cl} {vs : List Value} (hc : CL r cs vs) (hl : ltL S.n cs) (h1 : ∀ v, v ∈ vs -> v.oneCell' = true) :
 Sim X (S.new t cs) A a (w.alloc (.cells vs.toArray t)) (fun n => if n = S.n then w.heap.size else r n) (fun k => if k = w.heap.size then some (.nm S.n) else own k) := by
 have hr : ∀ n, n < S.n -> (fun n => if n = S.n then w.heap.size else r n) n = r n := fun n hn => by simp [Nat.ne_of_lt hn]
 have hold : ∀ k, k < w.heap.size -> (w.alloc (.cells vs.toArray t)).heap[k]? = w.heap[k]? := fun k hk => alloc_old w _ hk
 have hsz : (w.alloc (.cells vs.toArray t)).heap.size = w.heap.size + 1 := alloc_size w _
 have hown : ∀ k e, own k = some e -> (if k = w.heap.size then some (Ent.nm S.n) else own k) = some e := fun k e hk => by
  have := (h.bnd k e hk).1
  simp [Nat.ne_of_lt this, hk]
 refine ⟨h.dfr, h.sz, ?_, ?_, ?_, ?_, ?_, ?_, ?_, ?_, fun n g hm => ⟨Nat.lt_succ_of_lt (h.rts n g hm).1, (hr n (h.rts n g hm).1).trans (h.rts n g hm).2⟩⟩
 · exact fun j sv hj => SV.ok_ext hr (h.slt sv (List.mem_of_getElem? hj)) (h.slot j sv hj)
 · exact fun sv hm => SV.lt_mono (Nat.le_succ _) (h.slt sv hm)
 · intro n t' cs' hm
   simp only [St.new, List.mem_append, List.mem_singleton, Prod.mk.injEq] at hm
   rcases hm with hm | ⟨rfl, rfl, rfl⟩
   · obtain ⟨e1, e2, e3, vs', e4, e5, e6⟩ := h.heap n t' cs' hm
     refine ⟨Nat.lt_succ_of_lt e1, ltL_mono (Nat.le_succ _) e2, ?_, vs', ?_, CL_ext hr e2 e5, e6⟩
     · rw [hr n e1]; exact hown _ _ e3
     · rw [hr n e1, hold _ (h.bnd _ _ e3).1]; exact e4
   · refine ⟨Nat.lt_succ_self _, ltL_mono (Nat.le_succ _) hl, by simp, vs, ?_, CL_ext hr hl hc, h1⟩
     simpa using alloc_new w _
 · intro j B hm
   obtain ⟨e1, e2⟩ := h.fact j B hm
   refine ⟨e1, ?_⟩
   have he : (fun k => (if k = w.heap.size then some (Ent.nm S.n) else own k) = some (Ent.fa j)) = (fun k => own k = some (Ent.fa j)) := by
    funext k
    apply propext
    by_cases hk : k = w.heap.size
    · subst hk
      simp only [if_true]
      exact ⟨fun hh => (by cases hh), fun hh => absurd (h.bnd _ _ hh).1 (Nat.lt_irrefl _)⟩
    · simp [hk]
   rw [he]
   exact B.loc (fun k hk => hold k (h.bnd k _ hk).1) e2
 · intro k e hk
   by_cases hkk : k = w.heap.size
   · subst hkk
     exact ⟨by omega, .inl h.frm.size⟩
   · simp only [hkk, if_false] at hk
     obtain ⟨e1, e2⟩ := h.bnd k e hk
     exact ⟨by omega, e2⟩
 · intro k n hk
   by_cases hkk : k = w.heap.size
   · simp only [hkk, if_true, Option.some.injEq, Ent.nm.injEq] at hk
     show n < S.n + 1
     omega
   · simp only [hkk, if_false] at hk
     exact Nat.lt_succ_of_lt (h.nms k n hk)
 · intro k j hk
   by_cases hkk : k = w.heap.size
   · simp only [hkk, if_true] at hk
     cases hk
   · simp only [hkk, if_false] at hk
     exact h.fas k j hk
 · exact ⟨h.frm.os, h.frm.tape, h.frm.output, by have := h.frm.size; omega, fun k hk hM => by rw [hold k (by have := h.frm.size; omega)]; exact h.frm.block k hk hM⟩
end
def setC : List Cl -> Nat -> List Cl -> List Cl
 | cs, _, [] => cs
 | [], _, _ => []
 | _ :: cs, 0, n :: ns => n :: setC cs 0 ns
 | c :: cs, o + 1, ns => c :: setC cs o ns
def setH (h : Heap) (n o : Nat) (ns : List Cl) : Heap := h.map fun (m, t, cs) => (m, t, if m = n then setC cs o ns else cs)
theorem setC_length : ∀ (cs : List Cl) (o : Nat) (ns : List Cl), (setC cs o ns).length = cs.length
 | cs, o, [] => by cases cs <;> cases o <;> rfl
 | [], 0, _ :: _ => rfl
 | [], _ + 1, _ :: _ => rfl
 | c :: cs, 0, n :: ns => by simp [setC, setC_length cs 0 ns]
 | c :: cs, o + 1, n :: ns => by simp [setC, setC_length cs o (n :: ns)]
theorem setC_get : ∀ (cs : List Cl) (o : Nat) (ns : List Cl) (j : Nat), (setC cs o ns)[j]? = if o <= j /\ j < o + ns.length /\ j < cs.length then ns[j - o]? else cs[j]?
 | cs, o, [], j => by
   have : setC cs o [] = cs := by cases cs <;> cases o <;> rfl
   rw [this, if_neg (by simp; omega)]
 | [], o, n :: ns, j => by
   have : setC [] o (n :: ns) = [] := by cases o <;> rfl
   rw [this, if_neg (by simp)]
 | c :: cs, 0, n :: ns, 0 => by simp [setC]
 | c :: cs, 0, n :: ns, j + 1 => by simp [setC, setC_get cs 0 ns j]
 | c :: cs, o + 1, n :: ns, 0 => by simp [setC]
 | c :: cs, o + 1, n :: ns, j + 1 => by
   simp only [setC, List.getElem?_cons_succ, setC_get cs o (n :: ns) j, List.length_cons, Nat.add_sub_add_right]
   by_cases h : o <= j /\ j < o + (ns.length + 1) /\ j < cs.length
   · rw [if_pos h, if_pos (by omega)]
   · rw [if_neg h, if_neg (by omega)]
theorem splice_get (old vs : List Value) (o j : Nat) (h : o + vs.length <= old.length) : (old.take o ++ vs ++ old.drop (o + vs.length)).getD j undef = if o <= j /\ j < o + vs.length then vs.getD (j - o) undef else old.getD j undef := by
 have ho : (old.take o).length = o := by rw [List.length_take]; omega
 simp only [List.getD_eq_getElem?_getD]
 by_cases h1 : o <= j /\ j < o + vs.length
 · rw [if_pos h1, List.append_assoc, List.getElem?_append_right (by omega), ho, List.getElem?_append_left (by omega)]
 · rw [if_neg h1]
   by_cases h2 : j < o
   · rw [List.append_assoc, List.getElem?_append_left (by omega), List.getElem?_take_of_lt h2]
   · rw [List.getElem?_append_right (by rw [List.length_append]; omega), List.getElem?_drop, List.length_append, ho]
     congr 2
     omega
section
variable {X : Cx} {S : St} {A : Facts} {a : Act} {w : World} {r : Nat -> Nat} {own : Nat -> Option Ent}
theorem Sim.write (h : Sim X S A a w r own) {n t o : Nat} {cs ns : List Cl} {old vs : List Value} (hm : (n, t, cs) ∈ S.h) (hw : w.heap[r n]? = some (.cells old.toArray t (0, 0)))
 (hc : CL r ns vs) (hl : ltL S.n ns) (h1 : ∀ v, v ∈ vs -> v.oneCell' = true) (hb : o + vs.length <= old.length) :
 Sim X { S with h := setH S.h n o ns } A a (w.setRow (r n) (old.take o ++ vs ++ old.drop (o + vs.length)).toArray) r own := by
 obtain ⟨_, _, hon, _⟩ := h.heap n t cs hm
 have hoth : ∀ k, k ≠ r n -> (w.setRow (r n) (old.take o ++ vs ++ old.drop (o + vs.length)).toArray).heap[k]? = w.heap[k]? := fun k hk => setRow_other w (r n) k _ hk
 have hsz : (w.setRow (r n) (old.take o ++ vs ++ old.drop (o + vs.length)).toArray).heap.size = w.heap.size := by simp
 refine ⟨h.dfr, h.sz, h.slot, h.slt, ?_, ?_, ?_, h.nms, h.fas, ?_, h.rts⟩
 · intro m t' cs' hmm
   simp only [setH, List.mem_map] at hmm
   obtain ⟨⟨m0, t0, cs0⟩, hmem, he⟩ := hmm
   simp only [Prod.mk.injEq] at he
   obtain ⟨rfl, rfl, rfl⟩ := he
   obtain ⟨e1, e2, e3, vs0, e4, e5, e6⟩ := h.heap m0 t0 cs0 hmem
   by_cases hmn : m0 = n
   · subst hmn
     rw [hw] at e4
     injection e4 with e4
     injection e4 with e4 e4'
     obtain rfl : old = vs0 := by simpa using e4
     subst e4'
     simp only [if_true]
     refine ⟨e1, ?_, e3, _, setRow_heap w (r m0) _ _ _ (0, 0) hw, ?_, ?_⟩
     · intro c hcm
       obtain ⟨j, hj⟩ := List.getElem?_of_mem hcm
       rw [setC_get] at hj
       split at hj
       · exact hl c (List.mem_of_getElem? hj)
       · exact e2 c (List.mem_of_getElem? hj)
     · refine ⟨?_, ?_⟩
       · rw [setC_length, e5.1]; simp; omega
       · intro j c hj
         rw [setC_get] at hj
         rw [splice_get old vs o j hb]
         have hcl := hc.1
         have hcl5 := e5.1
         by_cases hcnd : o <= j /\ j < o + ns.length /\ j < cs0.length
         · rw [if_pos hcnd] at hj
           rw [if_pos ⟨hcnd.1, by omega⟩]
           exact hc.2 _ _ hj
         · rw [if_neg hcnd] at hj
           have hjl := (List.getElem?_eq_some_iff.1 hj).1
           rw [if_neg (by omega)]
           exact e5.2 _ _ hj
     · intro v hv
       simp only [List.mem_append] at hv
       rcases hv with (hv | hv) | hv
       · exact e6 v (List.mem_of_mem_take hv)
       · exact h1 v hv
       · exact e6 v (List.mem_of_mem_drop hv)
   · have hne : r m0 ≠ r n := fun he => hmn (by rw [he, hon] at e3; simpa using e3.symm)
     simp only [hmn, if_false]
     exact ⟨e1, e2, e3, vs0, by rw [hoth _ hne]; exact e4, e5, e6⟩
 · intro j B hmm
   obtain ⟨e1, e2⟩ := h.fact j B hmm
   refine ⟨e1, B.loc (fun k hk => hoth k (fun he => ?_)) e2⟩
   subst he
   rw [hon] at hk
   cases hk
 · intro k e hk
   rw [hsz]
   exact h.bnd k e hk
 · refine ⟨h.frm.os, h.frm.tape, h.frm.output, by rw [hsz]; exact h.frm.size, fun k hk hM => ?_⟩
   rw [hoth k (fun he => ?_)]
   · exact h.frm.block k hk hM
   · subst he
     rcases (h.bnd _ _ hon).2 with h2 | h2
     · omega
     · exact hM h2
end
def isAggD : TypeDesc -> Bool
 | .struct _ | .array _ _ => true
 | _ => false
def szT (P : Program) (t : TypeId) : Option (Nat × Bool) :=
 match P.info? t, P.underlying t with
 | some i, some d => some (i.size, isAggD d)
 | _, _ => none
def zeroT (P : Program) (t : TypeId) : Option (List Value) :=
 match P.info? t with
 | some i => match i.zero with
   | some z => some z.cells.toList
   | none => none
 | none => none
def fieldT (P : Program) (t : TypeId) (i : Nat) : Option (Nat × Nat × Bool) :=
 match P.underlying t with
 | some (.struct fs) => match fs[i]? with
   | some f => match szT P f.type with
     | some (n, b) => some (f.offset, n, b)
     | none => none
   | none => none
 | _ => none
def intT (P : Program) (t : TypeId) : Option IntKind :=
 match P.underlying t with
 | some (.int k) => some k
 | _ => none
def isStrT (P : Program) (t : TypeId) : Bool :=
 match P.underlying t with
 | some .string => true
 | _ => false
def elT (P : Program) (t : TypeId) : Option (Nat × Nat) :=
 match P.underlying t with
 | some (.slice e) => match P.info? e with
   | some i => some (e, i.size)
   | none => none
 | _ => none
def concT (P : Program) (t : TypeId) : Bool :=
 match P.underlying t with
 | some (.interface _) => false
 | some _ => true
 | none => false
def ifaceT (P : Program) (t : TypeId) : Bool :=
 match P.underlying t with
 | some (.interface _) => true
 | _ => false
def ptrT (P : Program) (t : TypeId) : Bool :=
 match P.underlying t with
 | some (.pointer _) => true
 | _ => false
def I64 (x : Int) : Prop := -9223372036854775808 <= x /\ x <= 9223372036854775807
theorem wrapI64 {x : Int} (h : I64 x) : IntKind.i64.wrap x = x := by
 unfold I64 at h
 have e : IntKind.i64.wrap x = if x % 18446744073709551616 >= 9223372036854775808 then x % 18446744073709551616 - 18446744073709551616 else x % 18446744073709551616 := by
  simp [IntKind.wrap, IntKind.bits, IntKind.signed]
 rw [e]
 split <;> omega
def bt (s : ByteArray) (i : Int) : Int := if h : i.toNat < s.size then ((s[i.toNat]'h).toNat : Int) else 0
def arith (k : IntKind) (x : Int) : Prop × Value :=
 match k with
 | .i64 => (I64 x, .int .i64 x)
 | k => (True, .int k (k.wrap x))
def bopI (op : BinOp) (k : IntKind) (x y : Int) : Option (Prop × Value) :=
 match op with
 | .add => some (arith k (x + y))
 | .sub => some (arith k (x - y))
 | .mul => some (arith k (x * y))
 | .quo => some (y ≠ 0 /\ (arith k (x.tdiv y)).1, (arith k (x.tdiv y)).2)
 | .rem => some (y ≠ 0, .int k (x.tmod y))
 | .eql => some (True, .bool (decide (x = y)))
 | .neq => some (True, .bool (!decide (x = y)))
 | .lss => some (True, .bool (decide (x < y)))
 | .leq => some (True, .bool (decide (x <= y)))
 | .gtr => some (True, .bool (decide (y < x)))
 | .geq => some (True, .bool (decide (y <= x)))
 | .and => some (True, .int k (k.wrap (BitVec.ofInt k.bits x &&& BitVec.ofInt k.bits y).toNat))
 | .or => some (True, .int k (k.wrap (BitVec.ofInt k.bits x ||| BitVec.ofInt k.bits y).toNat))
 | _ => none
def bop (op : BinOp) (x y : Value) : Option (Prop × Value) :=
 match x, y with
 | .int k a, .int k' b =>
   match op with
   | .shl => some (0 <= b, .int k (k.wrap (a * 2 ^ min b.toNat k.bits)))
   | .shr => some (0 <= b, .int k (a.fdiv (2 ^ min b.toNat k.bits)))
   | op => if k = k' then bopI op k a b else none
 | .string a, .string b =>
   match op with
   | .add => some (a.size + b.size <= 9223372036854775807, .string (a ++ b))
   | .eql => some (True, .bool (decide (a = b)))
   | .neq => some (True, .bool (!decide (a = b)))
   | _ => none
 | _, _ => none
theorem arith_ok (k : IntKind) (x : Int) (h : (arith k x).1) : (arith k x).2 = .int k (k.wrap x) := by
 cases k <;> simp only [arith] at h ⊢
 rw [wrapI64 h]
theorem toList_beq (a b : ByteArray) : (a.toList == b.toList) = decide (a = b) := by
 rw [Bool.eq_iff_iff]
 simp only [beq_iff_eq, decide_eq_true_eq]
 constructor
 · intro h
   rw [ByteArray.toList_eq, ByteArray.toList_eq] at h
   cases a; cases b
   simpa [Array.toList_inj] using h
 · rintro rfl; rfl
theorem bopI_ok {P : Program} {w : World} {op : BinOp} {k : IntKind} {x y : Int} {c : Prop} {v : Value} (t : TypeId) (h : bopI op k x y = some (c, v)) (hc : c) : (binOp op t (.int k x) (.int k y)).run P w = .ok v w := by
 cases op <;> simp only [bopI, Option.some.injEq, Prod.mk.injEq, reduceCtorEq] at h
 case add => 
  have h1 := congrArg Prod.fst h; have h2 := congrArg Prod.snd h
  simp only at h1 h2; subst h1; subst h2
  simp [binOp, Op.intArith, arith_ok k _ hc]
 case sub => 
  have h1 := congrArg Prod.fst h; have h2 := congrArg Prod.snd h
  simp only at h1 h2; subst h1; subst h2
  simp [binOp, Op.intArith, arith_ok k _ hc]
 case mul => 
  have h1 := congrArg Prod.fst h; have h2 := congrArg Prod.snd h
  simp only at h1 h2; subst h1; subst h2
  simp [binOp, Op.intArith, arith_ok k _ hc]
 case quo =>
  obtain ⟨rfl, rfl⟩ := h
  simp [binOp, Op.intDiv, hc.1, arith_ok k _ hc.2]
 case rem =>
  obtain ⟨rfl, rfl⟩ := h
  simp [binOp, Op.intDiv, hc]
 all_goals
  obtain ⟨rfl, rfl⟩ := h
  first
  | (simp [binOp, Op.intBits]; done)
  | (simp [binOp, Op.intCmp]; done)
  | (simp only [binOp, Op.intCmp, if_neg (fun h : k ≠ k => h rfl), Sem.run_pure, Bool.beq_eq_decide_eq, bne]; done)
theorem bop_ok {P : Program} {w : World} {op : BinOp} {x y : Value} {c : Prop} {v : Value} (t : TypeId) (h : bop op x y = some (c, v)) (hc : c) : (binOp op t x y).run P w = .ok v w := by
 unfold bop at h
 split at h
 · rename_i k a k' b
   split at h
   · simp only [Option.some.injEq, Prod.mk.injEq] at h
     obtain ⟨rfl, rfl⟩ := h
     have : ¬ b < 0 := by omega
     simp [binOp, Op.shift, this]
   · simp only [Option.some.injEq, Prod.mk.injEq] at h
     obtain ⟨rfl, rfl⟩ := h
     have : ¬ b < 0 := by omega
     simp [binOp, Op.shift, this]
   · split at h
     · rename_i hk
       subst hk
       exact bopI_ok t h hc
     · cases h
 · rename_i a b
   split at h
   · simp only [Option.some.injEq, Prod.mk.injEq] at h
     obtain ⟨rfl, rfl⟩ := h
     have hm : IntKind.i64.max = 9223372036854775807 := by decide
     have : ¬ ((a.size : Int) + (b.size : Int) > 9223372036854775807) := by omega
     simp [binOp, Op.stringOp, hm, this]
   · simp only [Option.some.injEq, Prod.mk.injEq] at h
     obtain ⟨rfl, rfl⟩ := h
     simp [binOp, Op.stringOp, toList_beq]
   · simp only [Option.some.injEq, Prod.mk.injEq] at h
     obtain ⟨rfl, rfl⟩ := h
     simp [binOp, Op.stringOp, toList_beq]
   · cases h
 · cases h
theorem bop_guard {P : Program} {w : World} {op : BinOp} {u v : Value} {c : Prop} {z : Value} (t : TypeId) (x y : Operand) (h : bop op u v = some (c, z)) : (eqGuard op t x y u v).run P w = .ok () w := by
 unfold bop at h
 unfold eqGuard
 split at h
 · cases op <;> rfl
 · cases op <;> rfl
 · cases h
def findH : Heap -> Nat -> Option (Nat × List Cl)
 | [], _ => none
 | (m, t, cs) :: r, n => if m = n then some (t, cs) else findH r n
theorem findH_mem : ∀ {h : Heap} {n t : Nat} {cs : List Cl}, findH h n = some (t, cs) -> (n, t, cs) ∈ h
 | (m, t', cs') :: r, n, t, cs, e => by
   simp only [findH] at e
   split at e
   · rename_i hm
     simp only [Option.some.injEq, Prod.mk.injEq] at e
     obtain ⟨rfl, rfl⟩ := e
     subst hm
     exact List.mem_cons_self
   · exact List.mem_cons_of_mem _ (findH_mem e)
def takeN : List Cl -> Nat -> Option (List Cl)
 | _, 0 => some []
 | [], _ + 1 => none
 | c :: cs, n + 1 => match takeN cs n with
   | some r => some (c :: r)
   | none => none
def getN : List Cl -> Nat -> Nat -> Option (List Cl)
 | cs, 0, n => takeN cs n
 | [], _ + 1, _ => none
 | _ :: cs, o + 1, n => getN cs o n
theorem takeN_spec : ∀ {cs : List Cl} {n : Nat} {l : List Cl}, takeN cs n = some l -> l.length = n /\ n <= cs.length /\ ∀ i, i < n -> l[i]? = cs[i]?
 | cs, 0, l, h => by
   cases cs <;> simp [takeN] at h <;> subst h <;> simp
 | c :: cs, n + 1, l, h => by
   simp only [takeN] at h
   split at h
   · rename_i r' hr
     obtain ⟨h1, h2, h3⟩ := takeN_spec hr
     obtain rfl : c :: r' = l := by simpa using h
     refine ⟨by simp [h1], by simp; omega, fun i hi => ?_⟩
     cases i with
     | zero => rfl
     | succ i => simpa using h3 i (by omega)
   · cases h
theorem getN_spec : ∀ {cs : List Cl} {o n : Nat} {l : List Cl}, getN cs o n = some l -> l.length = n /\ o + n <= cs.length /\ ∀ i, i < n -> l[i]? = cs[o + i]?
 | cs, 0, n, l, h => by
   have h' : takeN cs n = some l := by cases cs <;> simpa [getN] using h
   obtain ⟨h1, h2, h3⟩ := takeN_spec h'
   exact ⟨h1, by omega, fun i hi => by rw [Nat.zero_add]; exact h3 i hi⟩
 | _ :: cs, o + 1, n, l, h => by
   obtain ⟨h1, h2, h3⟩ := getN_spec (cs := cs) (o := o) (by simpa [getN] using h)
   refine ⟨h1, by simp; omega, fun i hi => ?_⟩
   rw [h3 i hi, show o + 1 + i = (o + i) + 1 by omega, List.getElem?_cons_succ]
theorem addr_add (g o j : Nat) : (⟨g, o, none⟩ : Addr).add j = ⟨g, o + j, none⟩ := by unfold Addr.add; split <;> simp_all
theorem cell_at {w : World} {g t : Nat} {vs : List Value} (h : w.heap[g]? = some (.cells vs.toArray t (0, 0))) (o : Nat) : w.cell? ⟨g, o, none⟩ = vs[o]? := by
 simp [World.cell?, h]
section
variable {X : Cx} {S : St} {A : Facts} {a : Act} {w : World} {r : Nat -> Nat} {own : Nat -> Option Ent} {o : Oper}
def Yl (P : Program) (r : Nat -> Nat) (b : Nat) (o : Oper) (a : Act) (w : World) (sv : SV) : Prop :=
 ∃ u, sv.ok r u /\ sv.lt b /\ (execOp a.eval o).run P w = .ok (.value u) w
theorem yl_pure {P : Program} {x : Operand} (h : SimR S a w r) (ho : o.op = .move x \/ o.op = .assign x) : Yl P r S.n o a w (ev S x) := by
 obtain ⟨h1, h2⟩ := ev_ok h x
 refine ⟨_, h1, h2, ?_⟩
 rcases ho with ho | ho <;> simp [execOp, ho]
theorem va_of {u v : Value} {r : Nat -> Nat} (h : (SV.sc (.va v)).ok r u) : u = v := by
 rcases h with h | h
 · cases h
 · exact h
theorem pt_of {u : Value} {r : Nat -> Nat} {n o : Nat} (h : (SV.sc (.pt n o)).ok r u) : u = .pointer (some ⟨r n, o, none⟩) := by
 rcases h with h | h
 · cases h
 · exact h
theorem ic_of {u : Value} {r : Nat -> Nat} {t n o : Nat} (h : (SV.sc (.ic t n o)).ok r u) : u = .iface t (.pointer (some ⟨r n, o, none⟩)) := by
 rcases h with h | h
 · cases h
 · exact h
theorem ok_va (r : Nat -> Nat) (v : Value) : (SV.sc (.va v)).ok r v := .inr rfl
theorem ok_pt (r : Nat -> Nat) (n o : Nat) : (SV.sc (.pt n o)).ok r (.pointer (some ⟨r n, o, none⟩)) := .inr rfl
def qpick (c x y : SV) : Option (Prop × SV) :=
 match c with
 | .sc (.va (.bool true)) => some (True, x)
 | .sc (.va (.bool false)) => some (True, y)
 | _ => none
theorem qpick_ok {P : Program} {c x y : Operand} {C : Prop} {sv : SV} (h : SimR S a w r) (ho : o.op = .pick c x y) (hq : qpick (ev S c) (ev S x) (ev S y) = some (C, sv)) : Yl P r S.n o a w sv := by
 have hc := (ev_ok h c).1
 unfold qpick at hq
 split at hq
 · rename_i he
   rw [he] at hc
   simp only [Option.some.injEq, Prod.mk.injEq] at hq
   obtain ⟨_, rfl⟩ := hq
   obtain ⟨h1, h2⟩ := ev_ok h x
   refine ⟨_, h1, h2, ?_⟩
   simp [execOp, ho, va_of hc, asBool]
 · rename_i he
   rw [he] at hc
   simp only [Option.some.injEq, Prod.mk.injEq] at hq
   obtain ⟨_, rfl⟩ := hq
   obtain ⟨h1, h2⟩ := ev_ok h y
   refine ⟨_, h1, h2, ?_⟩
   simp [execOp, ho, va_of hc, asBool]
 · cases hq
def qnil (x : SV) : Option (Prop × SV) :=
 match x with
 | .sc (.pt n o) => some (True, .sc (.pt n o))
 | .sc (.va (.pointer (some p))) => some (True, .sc (.va (.pointer (some p))))
 | _ => none
theorem qnil_ok {P : Program} {x : Operand} {C : Prop} {sv : SV} (h : SimR S a w r) (ho : o.op = .nilCheck x) (hq : qnil (ev S x) = some (C, sv)) : Yl P r S.n o a w sv := by
 obtain ⟨hc, hl⟩ := ev_ok h x
 unfold qnil at hq
 split at hq
 · rename_i n' o' he
   rw [he] at hc hl
   simp only [Option.some.injEq, Prod.mk.injEq] at hq
   obtain ⟨_, rfl⟩ := hq
   refine ⟨_, hc, hl, ?_⟩
   simp [execOp, ho, pt_of hc]
 · rename_i p he
   rw [he] at hc hl
   simp only [Option.some.injEq, Prod.mk.injEq] at hq
   obtain ⟨_, rfl⟩ := hq
   refine ⟨_, hc, hl, ?_⟩
   simp [execOp, ho, va_of hc]
 · cases hq
def isConstO : Operand -> Bool
 | .const _ => true
 | _ => false
def eqV (P : Program) (t : TypeId) (y : Operand) (u v : SV) : Option Bool :=
 match u, v with
 | .sc (.va (.pointer p)), .sc (.va (.pointer none)) => if ptrT P t then some p.isNone else none
 | .sc (.pt _ _), .sc (.va (.pointer none)) => if ptrT P t then some false else none
 | .sc (.va .nilIface), .sc (.va .nilIface) => if ifaceT P t && isConstO y then some true else none
 | .sc (.va (.iface _ _)), .sc (.va .nilIface) => if ifaceT P t then some false else none
 | .sc (.ic _ _ _), .sc (.va .nilIface) => if ifaceT P t then some false else none
 | _, _ => none
def qbin (P : Program) (op : BinOp) (t : TypeId) (y : Operand) (u v : SV) : Option (Prop × SV) :=
 match u, v with
 | .sc (.va x), .sc (.va z) => match bop op x z with
   | some (c, q) => some (c, .sc (.va q))
   | none => match op, x, z with
     | .eql, .bool b, .bool b' => match P.underlying t with
       | some .bool => some (True, .sc (.va (.bool (b == b'))))
       | _ => none
     | .eql, _, _ => match eqV P t y u v with
       | some b => some (True, .sc (.va (.bool b)))
       | none => none
     | .neq, _, _ => match eqV P t y u v with
       | some b => some (True, .sc (.va (.bool (!b))))
       | none => none
     | _, _, _ => none
 | _, _ => match op, eqV P t y u v with
   | .eql, some b => some (True, .sc (.va (.bool b)))
   | .neq, some b => some (True, .sc (.va (.bool (!b))))
   | _, _ => none
theorem ptrT_spec {P : Program} {t : TypeId} (h : ptrT P t = true) : ∃ e, P.underlying t = some (.pointer e) := by
 unfold ptrT at h
 split at h
 · rename_i e he; exact ⟨e, he⟩
 · cases h
theorem ifaceT_spec {P : Program} {t : TypeId} (h : ifaceT P t = true) : ∃ e, P.underlying t = some (.interface e) := by
 unfold ifaceT at h
 split at h
 · rename_i e he; exact ⟨e, he⟩
 · cases h
section
variable {P : Program} {t : TypeId} (w : World)
theorem eqIn_ptr_nil {e : TypeId} (h : P.underlying t = some (.pointer e)) (d : Nat) (p : Option Addr) : (Op.equalIn (d + 1) t (.pointer p) (.pointer none)).run P w = .ok p.isNone w := by
 cases p <;> simp [Op.equalIn, run_underlying h]
theorem eqIn_nil_nil {e : Array (String × TypeId)} (h : P.underlying t = some (.interface e)) (d : Nat) : (Op.equalIn (d + 1) t .nilIface .nilIface).run P w = .ok true w := by
 simp [Op.equalIn, run_underlying h]
theorem eqIn_iface_nil {e : Array (String × TypeId)} (h : P.underlying t = some (.interface e)) (d : Nat) (u : TypeId) (v : Value) : (Op.equalIn (d + 1) t (.iface u v) .nilIface).run P w = .ok false w := by
 simp [Op.equalIn, run_underlying h]
theorem eqIn_bool (h : P.underlying t = some .bool) (d : Nat) (b b' : Bool) : (Op.equalIn (d + 1) t (.bool b) (.bool b')).run P w = .ok (b == b') w := by
 simp [Op.equalIn, run_underlying h]
end
theorem eq_run {P : Program} {op : BinOp} {t : TypeId} {x y : Operand} {p q : Value} {b : Bool} {w : World} (hop : op = .eql \/ op = .neq)
 (hg : (eqGuard op t x y p q).run P w = .ok () w) (h1 : binOp .eql t p q = (do pure (.bool (<- Op.equal t p q)))) (h2 : binOp .neq t p q = (do pure (.bool (!(<- Op.equal t p q)))))
 (he : (Op.equalIn (9999 + 1) t p q).run P w = .ok b w) : (do eqGuard op t x y p q; binOp op t p q : Sem Value).run P w = .ok (.bool (if op = .eql then b else !b)) w := by
 have he' : (Op.equal t p q).run P w = .ok b w := he
 rw [Sem.run_bind, hg]
 rcases hop with rfl | rfl
 · simp only [Result.andThen_ok, h1, Sem.run_bind, he', Sem.run_pure, if_true]
 · simp only [Result.andThen_ok, h2, Sem.run_bind, he', Sem.run_pure, reduceCtorEq, if_false]
theorem eqV_ok {P : Program} {op : BinOp} {t : TypeId} {x y : Operand} {u v : SV} {b : Bool} {p q : Value} (he : eqV P t y u v = some b) (hop : op = .eql \/ op = .neq) (hu : u.ok r p) (hv : v.ok r q) (w : World) :
 (do eqGuard op t x y p q; binOp op t p q : Sem Value).run P w = .ok (.bool (if op = .eql then b else !b)) w := by
 unfold eqV at he
 split at he
 · rename_i p0
   split at he
   · rename_i ht
     obtain ⟨e, ht⟩ := ptrT_spec ht
     obtain rfl : p0.isNone = b := by simpa using he
     rw [va_of hu, va_of hv]
     exact eq_run hop (by rcases hop with rfl | rfl <;> rfl) rfl rfl (eqIn_ptr_nil w ht _ _)
   · cases he
 · split at he
   · rename_i ht
     obtain ⟨e, ht⟩ := ptrT_spec ht
     obtain rfl : false = b := by simpa using he
     rw [pt_of hu, va_of hv]
     exact eq_run hop (by rcases hop with rfl | rfl <;> rfl) rfl rfl (eqIn_ptr_nil w ht _ _)
   · cases he
 · split at he
   · rename_i ht
     simp only [Bool.and_eq_true] at ht
     obtain ⟨ht, hy⟩ := ht
     obtain ⟨e, ht⟩ := ifaceT_spec ht
     obtain rfl : true = b := by simpa using he
     rw [va_of hu, va_of hv]
     cases y <;> simp [isConstO] at hy
     exact eq_run hop (by rcases hop with rfl | rfl <;> simp [eqGuard]) rfl rfl (eqIn_nil_nil w ht _)
   · cases he
 · split at he
   · rename_i ht
     obtain ⟨e, ht⟩ := ifaceT_spec ht
     obtain rfl : false = b := by simpa using he
     rw [va_of hu, va_of hv]
     exact eq_run hop (by rcases hop with rfl | rfl <;> rfl) rfl rfl (eqIn_iface_nil w ht _ _ _)
   · cases he
 · split at he
   · rename_i ht
     obtain ⟨e, ht⟩ := ifaceT_spec ht
     obtain rfl : false = b := by simpa using he
     rw [ic_of hu, va_of hv]
     exact eq_run hop (by rcases hop with rfl | rfl <;> rfl) rfl rfl (eqIn_iface_nil w ht _ _ _)
   · cases he
 · cases he
theorem qbin_ok {P : Program} {op : BinOp} {t yt : TypeId} {x y : Operand} {C : Prop} {sv : SV} (h : SimR S a w r) (ho : o.op = .binOp op t x y yt) (hq : qbin P op t y (ev S x) (ev S y) = some (C, sv)) (hC : C) : Yl P r S.n o a w sv := by
 obtain ⟨hu, _⟩ := ev_ok h x
 obtain ⟨hv, _⟩ := ev_ok h y
 have hbool : ∀ b : Bool, (do eqGuard op t x y (a.eval x) (a.eval y); binOp op t (a.eval x) (a.eval y) : Sem Value).run P w = .ok (.bool b) w -> Yl P r S.n o a w (.sc (.va (.bool b))) := fun b hb => by
  refine ⟨_, ok_va r _, trivial, ?_⟩
  have hb' := hb
  simp only [Sem.run_bind] at hb'
  simp only [execOp, ho, Sem.run_bind, hb', Result.andThen_ok, Sem.run_pure]
 unfold qbin at hq
 split at hq
 · rename_i p q hp hq'
   rw [hp] at hu
   rw [hq'] at hv
   have e1 := va_of hu
   have e2 := va_of hv
   split at hq
   · rename_i c z hb
     simp only [Option.some.injEq, Prod.mk.injEq] at hq
     obtain ⟨rfl, rfl⟩ := hq
     refine ⟨_, ok_va r _, trivial, ?_⟩
     simp [execOp, ho, e1, e2, bop_guard t x y hb, bop_ok t hb hC]
   · split at hq
     · rename_i b b' _
       split at hq
       · rename_i hty
         simp only [Option.some.injEq, Prod.mk.injEq] at hq
         obtain ⟨_, rfl⟩ := hq
         refine hbool _ ?_
         rw [e1, e2]
         simpa using eq_run (x := x) (y := y) (op := .eql) (.inl rfl) rfl rfl rfl (eqIn_bool w hty 9999 b b')
       · cases hq
     · split at hq
       · rename_i b hb
         simp only [Option.some.injEq, Prod.mk.injEq] at hq
         obtain ⟨_, rfl⟩ := hq
         refine hbool _ ?_
         rw [hp, hq'] at hb
         simpa using eqV_ok (x := x) hb (.inl rfl) hu hv w
       · cases hq
     · split at hq
       · rename_i b hb
         simp only [Option.some.injEq, Prod.mk.injEq] at hq
         obtain ⟨_, rfl⟩ := hq
         refine hbool _ ?_
         rw [hp, hq'] at hb
         simpa using eqV_ok (x := x) hb (.inr rfl) hu hv w
       · cases hq
     · cases hq
 · split at hq
   · rename_i b _ hb
     simp only [Option.some.injEq, Prod.mk.injEq] at hq
     obtain ⟨_, rfl⟩ := hq
     exact hbool _ (by simpa using eqV_ok (x := x) hb (.inl rfl) hu hv w)
   · rename_i b _ hb
     simp only [Option.some.injEq, Prod.mk.injEq] at hq
     obtain ⟨_, rfl⟩ := hq
     exact hbool _ (by simpa using eqV_ok (x := x) hb (.inr rfl) hu hv w)
   · cases hq
end
section
variable {X : Cx} {S : St} {A : Facts} {a : Act} {w : World} {r : Nat -> Nat} {own : Nat -> Option Ent} {o : Oper} {P : Program}
theorem szT_spec {t n : Nat} {b : Bool} (h : szT P t = some (n, b)) : ∃ i d, P.info? t = some i /\ P.underlying t = some d /\ i.size = n /\ isAggD d = b := by
 unfold szT at h
 split at h
 · rename_i i d hi hd
   simp only [Option.some.injEq, Prod.mk.injEq] at h
   exact ⟨i, d, hi, hd, h.1, h.2⟩
 · cases h
theorem run_isAgg' {t n : Nat} {b : Bool} (h : szT P t = some (n, b)) (w : World) : (isAgg t).run P w = .ok b w := by
 obtain ⟨i, d, _, hd, _, rfl⟩ := szT_spec h
 cases d <;> simp [isAgg, run_underlying hd, isAggD]
theorem run_sizeOf' {t n : Nat} {b : Bool} (h : szT P t = some (n, b)) (w : World) : (sizeOf t).run P w = .ok n w := by
 obtain ⟨i, d, hi, _, rfl, _⟩ := szT_spec h
 simp [sizeOf, typeInfo, hi]
def qload (P : Program) (S : St) (t : TypeId) (x : SV) : Option (Prop × SV) :=
 match x with
 | .sc (.pt n o) => match findH S.h n with
   | some (_, cs) => match szT P t with
     | some (k, true) => match getN cs o k with
       | some l => some (True, .ag l)
       | none => none
     | some (_, false) => match getN cs o 1 with
       | some [c] => some (True, .sc c)
       | _ => none
     | none => none
   | none => none
 | _ => none
theorem qload_ok {t : TypeId} {x : Operand} {C : Prop} {sv : SV} (h : SimR S a w r) (ho : o.op = .load t x) (hq : qload P S t (ev S x) = some (C, sv)) : Yl P r S.n o a w sv := by
 have hx := (ev_ok h x).1
 unfold qload at hq
 split at hq
 · rename_i n off hn
   rw [hn] at hx
   have hp := pt_of hx
   split at hq
   · rename_i t' cs hf
     obtain ⟨e2, vs, e4, e5, _⟩ := h.heap n t' cs (findH_mem hf)
     split at hq
     · rename_i k hs
       split at hq
       · rename_i l hg
         simp only [Option.some.injEq, Prod.mk.injEq] at hq
         obtain ⟨_, rfl⟩ := hq
         obtain ⟨g1, g2, g3⟩ := getN_spec hg
         have hlv := e5.1
         have hvl : ((vs.drop off).take k).length = k := by rw [List.length_take, List.length_drop]; omega
         refine ⟨.agg ((vs.drop off).take k).toArray, ⟨_, rfl, by omega, fun i c hc => ?_⟩, fun c hc => ?_, ?_⟩
         · have hi : i < k := by have := (List.getElem?_eq_some_iff.1 hc).1; omega
           rw [g3 i hi] at hc
           have := e5.2 _ _ hc
           have he : ((vs.drop off).take k).getD i undef = vs.getD (off + i) undef := by
            simp [List.getD_eq_getElem?_getD, List.getElem?_take_of_lt hi, List.getElem?_drop]
           rw [he]
           exact this
         · obtain ⟨i, hi⟩ := List.getElem?_of_mem hc
           have hik : i < k := by have := (List.getElem?_eq_some_iff.1 hi).1; omega
           rw [g3 i hik] at hi
           exact e2 c (List.mem_of_getElem? hi)
         · have hrun : (loadCells ⟨r n, off, none⟩ ((vs.drop off).take k).length).run P w = .ok ((vs.drop off).take k).toArray w :=
            run_loadCells_list w _ _ (fun j v hj => by
             have hj' : j < k := by have := (List.getElem?_eq_some_iff.1 hj).1; omega
             rw [addr_add, cell_at e4, <- hj, List.getElem?_take_of_lt hj', List.getElem?_drop])
           rw [hvl] at hrun
           simp [execOp, ho, hp, Instr.loadAt, Instr.sureAddr, loadVar, run_isAgg' hs, run_sizeOf' hs, hrun]
       · cases hq
     · rename_i k hs
       split at hq
       · rename_i c hg
         simp only [Option.some.injEq, Prod.mk.injEq] at hq
         obtain ⟨_, rfl⟩ := hq
         obtain ⟨g1, g2, g3⟩ := getN_spec hg
         have hc := g3 0 (by omega)
         simp only [List.getElem?_cons_zero, Nat.add_zero] at hc
         have hlv := e5.1
         obtain ⟨v, hv⟩ : ∃ v, vs[off]? = some v := ⟨_, List.getElem?_eq_getElem (show off < vs.length by omega)⟩
         have hgd : vs.getD off undef = v := by rw [List.getD_eq_getElem?_getD, hv]; rfl
         refine ⟨v, hgd ▸ e5.2 _ _ hc.symm, e2 c (List.mem_of_getElem? hc.symm), ?_⟩
         simp [execOp, ho, hp, Instr.loadAt, Instr.sureAddr, loadVar, run_isAgg' hs, cell_at e4, hv]
       · cases hq
     · cases hq
   · cases hq
 · cases hq
def qfaddr (P : Program) (s : TypeId) (x : SV) (i : Nat) : Option (Prop × SV) :=
 match fieldT P s i with
 | some (off, _ + 1, _) => match x with
   | .sc (.pt n o) => some (True, .sc (.pt n (o + off)))
   | .sc (.va (.pointer (some p))) => some (True, .sc (.va (.pointer (some (p.add off)))))
   | _ => none
 | _ => none
theorem fieldT_spec {t i off n : Nat} {b : Bool} (h : fieldT P t i = some (off, n, b)) : ∃ fs f, P.underlying t = some (.struct fs) /\ fs[i]? = some f /\ f.offset = off /\ szT P f.type = some (n, b) := by
 unfold fieldT at h
 split at h
 · rename_i fs hu
   split at h
   · rename_i f hf
     split at h
     · rename_i n' b' hs
       simp only [Option.some.injEq, Prod.mk.injEq] at h
       obtain ⟨rfl, rfl, rfl⟩ := h
       exact ⟨fs, f, hu, hf, rfl, hs⟩
     · cases h
   · cases h
 · cases h
theorem qfaddr_ok {s : TypeId} {i : Nat} {x : Operand} {C : Prop} {sv : SV} (h : SimR S a w r) (ho : o.op = .fieldAddr s x i) (hq : qfaddr P s (ev S x) i = some (C, sv)) : Yl P r S.n o a w sv := by
 obtain ⟨hx, hl⟩ := ev_ok h x
 unfold qfaddr at hq
 split at hq
 · rename_i off n b hf
   obtain ⟨fs, f, hu, hfs, rfl, hs⟩ := fieldT_spec hf
   split at hq
   · rename_i nn oo hn
     rw [hn] at hx hl
     have hp := pt_of hx
     simp only [Option.some.injEq, Prod.mk.injEq] at hq
     obtain ⟨_, rfl⟩ := hq
     refine ⟨_, ok_pt r _ _, hl, ?_⟩
     simp [execOp, ho, hp, Instr.fieldAt, Instr.sureAddr, run_underlying hu, hfs, fieldPlace, run_sizeOf' hs, addr_add]
   · rename_i p hn
     rw [hn] at hx hl
     have hp := va_of hx
     simp only [Option.some.injEq, Prod.mk.injEq] at hq
     obtain ⟨_, rfl⟩ := hq
     refine ⟨_, ok_va r _, trivial, ?_⟩
     simp [execOp, ho, hp, Instr.fieldAt, Instr.sureAddr, run_underlying hu, hfs, fieldPlace, run_sizeOf' hs]
   · cases hq
 · cases hq
def qfield (P : Program) (s : TypeId) (x : SV) (i : Nat) : Option (Prop × SV) :=
 match fieldT P s i, x with
 | some (off, n, true), .ag l => match getN l off n with
   | some l' => some (True, .ag l')
   | none => none
 | some (off, _, false), .ag l => match getN l off 1 with
   | some [c] => some (True, .sc c)
   | _ => none
 | _, _ => none
theorem qfield_ok {s : TypeId} {i : Nat} {x : Operand} {C : Prop} {sv : SV} (h : SimR S a w r) (ho : o.op = .field s x i) (hq : qfield P s (ev S x) i = some (C, sv)) : Yl P r S.n o a w sv := by
 obtain ⟨hx, hlt⟩ := ev_ok h x
 unfold qfield at hq
 split at hq
 · rename_i off n l hf hn
   obtain ⟨fs, f, hu, hfs, rfl, hs⟩ := fieldT_spec hf
   rw [hn] at hx hlt
   obtain ⟨vs, hv, hc⟩ := hx
   split at hq
   · rename_i l' hg
     simp only [Option.some.injEq, Prod.mk.injEq] at hq
     obtain ⟨_, rfl⟩ := hq
     obtain ⟨g1, g2, g3⟩ := getN_spec hg
     have hlv := hc.1
     refine ⟨.agg ((vs.drop f.offset).take n).toArray, ⟨_, rfl, by rw [List.length_take, List.length_drop]; omega, fun j c hj => ?_⟩, fun c hcm => ?_, ?_⟩
     · have hi : j < n := by have := (List.getElem?_eq_some_iff.1 hj).1; omega
       rw [g3 j hi] at hj
       have he : ((vs.drop f.offset).take n).getD j undef = vs.getD (f.offset + j) undef := by
        simp [List.getD_eq_getElem?_getD, List.getElem?_take_of_lt hi, List.getElem?_drop]
       rw [he]
       exact hc.2 _ _ hj
     · obtain ⟨j, hj⟩ := List.getElem?_of_mem hcm
       have hi : j < n := by have := (List.getElem?_eq_some_iff.1 hj).1; omega
       rw [g3 j hi] at hj
       exact hlt c (List.mem_of_getElem? hj)
     · simp [execOp, ho, hv, Instr.field, run_underlying hu, hfs, asAgg, part, run_isAgg' hs, run_sizeOf' hs]
   · cases hq
 · rename_i off n l hf hn
   obtain ⟨fs, f, hu, hfs, rfl, hs⟩ := fieldT_spec hf
   rw [hn] at hx hlt
   obtain ⟨vs, hv, hc⟩ := hx
   split at hq
   · rename_i c hg
     simp only [Option.some.injEq, Prod.mk.injEq] at hq
     obtain ⟨_, rfl⟩ := hq
     obtain ⟨g1, g2, g3⟩ := getN_spec hg
     have hcc := g3 0 (by omega)
     simp only [List.getElem?_cons_zero, Nat.add_zero] at hcc
     have hlv := hc.1
     obtain ⟨v, hvv⟩ : ∃ v, vs[f.offset]? = some v := ⟨_, List.getElem?_eq_getElem (show f.offset < vs.length by omega)⟩
     have hgd : vs.getD f.offset undef = v := by rw [List.getD_eq_getElem?_getD, hvv]; rfl
     refine ⟨v, hgd ▸ hc.2 _ _ hcc.symm, hlt c (List.mem_of_getElem? hcc.symm), ?_⟩
     simp [execOp, ho, hv, Instr.field, run_underlying hu, hfs, asAgg, part, run_isAgg' hs, hvv]
   · cases hq
 · cases hq
def qun (op : UnOp) (x : SV) : Option (Prop × SV) :=
 match op, x with
 | .not, .sc (.va (.bool b)) => some (True, .sc (.va (.bool (!b))))
 | .neg, .sc (.va (.int k n)) => some ((arith k (0 - n)).1, .sc (.va (arith k (0 - n)).2))
 | _, _ => none
theorem qun_ok {op : UnOp} {t : TypeId} {x : Operand} {C : Prop} {sv : SV} (h : SimR S a w r) (ho : o.op = .unOp op t x) (hq : qun op (ev S x) = some (C, sv)) (hC : C) : Yl P r S.n o a w sv := by
 obtain ⟨hx, _⟩ := ev_ok h x
 unfold qun at hq
 split at hq
 · rename_i b hb
   rw [hb] at hx
   simp only [Option.some.injEq, Prod.mk.injEq] at hq
   obtain ⟨_, rfl⟩ := hq
   refine ⟨_, ok_va r _, trivial, ?_⟩
   simp [execOp, ho, va_of hx, Op.unary]
 · rename_i k n hb
   rw [hb] at hx
   simp only [Option.some.injEq, Prod.mk.injEq] at hq
   obtain ⟨rfl, rfl⟩ := hq
   refine ⟨_, ok_va r _, trivial, ?_⟩
   simp only [execOp, ho, va_of hx, Op.unary, Op.intArith, Sem.run_bind, Sem.run_pure, Result.andThen_ok, arith_ok k _ hC]
 · cases hq
def qconv (P : Program) (d : TypeId) (x : SV) : Option (Prop × SV) :=
 match intT P d, x with
 | some .i64, .sc (.va (.int _ n)) => some (I64 n, .sc (.va (.int .i64 n)))
 | some k, .sc (.va (.int _ n)) => some (True, .sc (.va (.int k (k.wrap n))))
 | _, _ => none
theorem intT_spec {t : TypeId} {k : IntKind} (h : intT P t = some k) : P.underlying t = some (.int k) := by
 unfold intT at h
 split at h
 · rename_i k' hk
   obtain rfl : k' = k := by simpa using h
   exact hk
 · cases h
theorem qconv_ok {s d : TypeId} {ds : TypeDesc} {x : Operand} {C : Prop} {sv : SV} (h : SimR S a w r) (ho : o.op = .convert s d x) (hs : P.underlying s = some ds) (hq : qconv P d (ev S x) = some (C, sv)) (hC : C) : Yl P r S.n o a w sv := by
 obtain ⟨hx, _⟩ := ev_ok h x
 unfold qconv at hq
 split at hq
 · rename_i k0 n hd hb
   rw [hb] at hx
   simp only [Option.some.injEq, Prod.mk.injEq] at hq
   obtain ⟨rfl, rfl⟩ := hq
   refine ⟨_, ok_va r _, trivial, ?_⟩
   simp [execOp, ho, va_of hx, convert, run_underlying hs, run_underlying (intT_spec hd), Conv.intToInt, wrapI64 hC]
 · rename_i hov hd hb
   rw [hb] at hx
   simp only [Option.some.injEq, Prod.mk.injEq] at hq
   obtain ⟨rfl, rfl⟩ := hq
   refine ⟨_, ok_va r _, trivial, ?_⟩
   simp [execOp, ho, va_of hx, convert, run_underlying hs, run_underlying (intT_spec hd), Conv.intToInt]
 · cases hq
def nthT : List TV -> Nat -> Option TV
 | [], _ => none
 | t :: _, 0 => some t
 | _ :: l, n + 1 => nthT l n
theorem nthT_eq : ∀ (l : List TV) (n : Nat), nthT l n = l[n]?
 | [], n => by simp [nthT]
 | t :: l, 0 => by simp [nthT]
 | t :: l, n + 1 => by simp [nthT, nthT_eq l n]
def qext (x : SV) (i : Nat) : Option (Prop × SV) :=
 match x with
 | .tu l => match nthT l i with
   | some t => some (True, t.sv)
   | none => none
 | _ => none
theorem qext_ok {i : Nat} {x : Operand} {C : Prop} {sv : SV} (h : SimR S a w r) (ho : o.op = .extract x i) (hq : qext (ev S x) i = some (C, sv)) : Yl P r S.n o a w sv := by
 obtain ⟨hx, hl⟩ := ev_ok h x
 unfold qext at hq
 split at hq
 · rename_i l hb
   rw [hb] at hx hl
   split at hq
   · rename_i t ht
     rw [nthT_eq] at ht
     simp only [Option.some.injEq, Prod.mk.injEq] at hq
     obtain ⟨_, rfl⟩ := hq
     obtain ⟨vs, hv, h1, h2⟩ := hx
     have hi : i < vs.length := by have := (List.getElem?_eq_some_iff.1 ht).1; omega
     obtain ⟨v, hvi⟩ : ∃ v, vs[i]? = some v := ⟨_, List.getElem?_eq_getElem hi⟩
     have hgd : vs.getD i undef = v := by rw [List.getD_eq_getElem?_getD, hvi]; rfl
     refine ⟨v, ?_, ?_, ?_⟩
     · have := hgd ▸ h2 i t ht
       cases t <;> exact this
     · have := hl t (List.mem_of_getElem? ht)
       cases t <;> exact this
     · simp [execOp, ho, hv, Instr.extract, hvi]
   · cases hq
 · cases hq
def qmk (P : Program) (t : TypeId) (x : SV) : Option (Prop × SV) :=
 if concT P t then
  match x with
  | .sc (.pt n 0) => some (True, .sc (.ic t n 0))
  | .sc (.va u) => some (True, .sc (.va (.iface t u)))
  | _ => none
 else none
theorem concT_spec {t : TypeId} (h : concT P t = true) : ∃ d, P.underlying t = some d /\ ∀ m, d ≠ .interface m := by
 cases hu : P.underlying t with
 | none => simp [concT, hu] at h
 | some d => exact ⟨d, rfl, fun m hm => by subst hm; simp [concT, hu] at h⟩
theorem run_mk {t : TypeId} (h : concT P t = true) (x : Value) (w : World) : (Instr.makeInterface t x).run P w = .ok (.iface t x) w := by
 obtain ⟨d, hd, hne⟩ := concT_spec h
 simp only [Instr.makeInterface, Sem.run_bind, run_underlying hd, Result.andThen_ok]
 cases d <;> first | rfl | exact absurd rfl (hne _)
theorem qmk_ok {t : TypeId} {x : Operand} {C : Prop} {sv : SV} (h : SimR S a w r) (ho : o.op = .makeInterface t x) (hq : qmk P t (ev S x) = some (C, sv)) : Yl P r S.n o a w sv := by
 obtain ⟨hx, hl⟩ := ev_ok h x
 unfold qmk at hq
 split at hq
 · rename_i hc
   split at hq
   · rename_i n hn
     rw [hn] at hx hl
     simp only [Option.some.injEq, Prod.mk.injEq] at hq
     obtain ⟨_, rfl⟩ := hq
     refine ⟨_, .inr rfl, hl, ?_⟩
     simp [execOp, ho, pt_of hx, run_mk hc, Cl.den]
   · rename_i u hn
     rw [hn] at hx hl
     simp only [Option.some.injEq, Prod.mk.injEq] at hq
     obtain ⟨_, rfl⟩ := hq
     refine ⟨_, .inr rfl, trivial, ?_⟩
     simp [execOp, ho, va_of hx, run_mk hc, Cl.den]
   · cases hq
 · cases hq
end
section
variable {X : Cx} {S : St} {A : Facts} {a : Act} {w : World} {r : Nat -> Nat} {own : Nat -> Option Ent} {o : Oper} {P : Program}
def qindex (P : Program) (t : TypeId) (x i : SV) : Option (Prop × SV) :=
 match x, i with
 | .sc (.va (.string s)), .sc (.va (.int _ n)) => if isStrT P t then some (0 <= n /\ n < s.size, .sc (.va (.int .u8 (bt s n)))) else none
 | _, _ => none
theorem isStrT_spec {t : TypeId} (h : isStrT P t = true) : P.underlying t = some .string := by
 unfold isStrT at h
 split at h
 · assumption
 · cases h
theorem qindex_ok {t : TypeId} {x i : Operand} {C : Prop} {sv : SV} (h : SimR S a w r) (ho : o.op = .index t x i) (hq : qindex P t (ev S x) (ev S i) = some (C, sv)) (hC : C) : Yl P r S.n o a w sv := by
 obtain ⟨hx, _⟩ := ev_ok h x
 obtain ⟨hi, _⟩ := ev_ok h i
 unfold qindex at hq
 split at hq
 · rename_i s k n h1 h2
   rw [h1] at hx
   rw [h2] at hi
   split at hq
   · rename_i ht
     simp only [Option.some.injEq, Prod.mk.injEq] at hq
     obtain ⟨rfl, rfl⟩ := hq
     refine ⟨_, ok_va r _, trivial, ?_⟩
     have hlt : n.toNat < s.size := by omega
     have hs : s[n.toNat]? = some (s[n.toNat]'hlt) := by
      rw [getElem?_pos]
     simp [execOp, ho, va_of hx, va_of hi, Instr.index, asIntOf, run_underlying (isStrT_spec ht), hC.1, hs, bt, hlt]
   · cases hq
 · cases hq
theorem elT_spec {t e n : Nat} (h : elT P t = some (e, n)) : ∃ i, P.underlying t = some (.slice e) /\ P.info? e = some i /\ i.size = n := by
 unfold elT at h
 split at h
 · rename_i e' hu
   split at h
   · rename_i i hi
     simp only [Option.some.injEq, Prod.mk.injEq] at h
     obtain ⟨rfl, rfl⟩ := h
     exact ⟨i, hu, hi, rfl⟩
   · cases h
 · cases h
def qiaddr (P : Program) (t : TypeId) (x i : SV) : Option (Prop × SV) :=
 match elT P t, x, i with
 | some (_, k), .sc (.va (.slice A n _)), .sc (.va (.int _ j)) => some (0 <= j /\ j < n /\ A.isSome = true, .sc (.va (.pointer (some ((A.getD default).add (j.toNat * k))))))
 | some (_, k), .sc (.sl m q n _), .sc (.va (.int _ j)) => some (0 <= j /\ j < n, .sc (.pt m (q + j.toNat * k)))
 | _, _, _ => none
theorem qiaddr_ok {t : TypeId} {x i : Operand} {C : Prop} {sv : SV} (h : SimR S a w r) (ho : o.op = .indexAddr t x i) (hq : qiaddr P t (ev S x) (ev S i) = some (C, sv)) (hC : C) : Yl P r S.n o a w sv := by
 obtain ⟨hx, hl⟩ := ev_ok h x
 obtain ⟨hi, _⟩ := ev_ok h i
 unfold qiaddr at hq
 split at hq
 · rename_i e k B n c k' j he h1 h2
   rw [h1] at hx
   rw [h2] at hi
   obtain ⟨i0, hu, hi0, rfl⟩ := elT_spec he
   simp only [Option.some.injEq, Prod.mk.injEq] at hq
   obtain ⟨rfl, rfl⟩ := hq
   obtain ⟨c1, c2, c3⟩ := hC
   obtain ⟨ad, rfl⟩ := Option.isSome_iff_exists.1 c3
   refine ⟨_, ok_va r _, trivial, ?_⟩
   simp [execOp, ho, va_of hx, va_of hi, Instr.indexAt, asIntOf, run_underlying hu, c1, c2, sizeOf, typeInfo, hi0]
 · rename_i e k m q n c k' j he h1 h2
   rw [h1] at hx hl
   rw [h2] at hi
   obtain ⟨i0, hu, hi0, rfl⟩ := elT_spec he
   simp only [Option.some.injEq, Prod.mk.injEq] at hq
   obtain ⟨rfl, rfl⟩ := hq
   obtain ⟨c1, c2⟩ := hC
   have hx' : a.eval x = .slice (some ⟨r m, q, none⟩) n c := by
    rcases hx with hx | hx
    · cases hx
    · exact hx
   refine ⟨_, ok_pt r _ _, hl, ?_⟩
   simp [execOp, ho, hx', va_of hi, Instr.indexAt, asIntOf, run_underlying hu, c1, c2, sizeOf, typeInfo, hi0, addr_add]
 · cases hq
def bound (x : Option SV) (d : Nat) : Option Int :=
 match x with
 | none => some d
 | some (.sc (.va (.int _ n))) => some n
 | _ => none
def qslice (P : Program) (t : TypeId) (x : SV) (lo hi : Option SV) : Option (Prop × SV) :=
 match x with
 | .sc (.va (.string s)) => if isStrT P t then
    match bound lo 0, bound hi s.size with
    | some l, some u => some (0 <= l /\ l <= u /\ u <= s.size, .sc (.va (.string (s.extract l.toNat u.toNat))))
    | _, _ => none
   else none
 | _ => none
theorem bound_ok {x : Option Operand} {d : Nat} {n : Int} (h : SimR S a w r) (hb : bound (x.map (ev S)) d = some n) : (x = none /\ n = d) \/ ∃ y k, x = some y /\ a.eval y = .int k n := by
 cases x with
 | none => exact .inl ⟨rfl, by simpa [bound] using hb.symm⟩
 | some y =>
   refine .inr ⟨y, ?_⟩
   have hy := (ev_ok h y).1
   simp only [Option.map_some, bound] at hb
   split at hb
   · rename_i he
     cases he
   · rename_i k m he
     simp only [Option.some.injEq] at he hb
     rw [he] at hy
     subst hb
     exact ⟨k, rfl, va_of hy⟩
   · cases hb
theorem run_sliceBound {x : Value} {k : IntKind} {n : Int} {y : Nat} {c : BoundsCode} (hx : x = .int k n) (h0 : 0 <= n) (h1 : n <= y) (w : World) : (Instr.sliceBound x y c).run P w = .ok n.toNat w := by
 subst hx
 simp [Instr.sliceBound, asIntOf, h0, h1]
theorem qslice_ok {t : TypeId} {x : Operand} {lo hi : Option Operand} {C : Prop} {sv : SV} (h : SimR S a w r) (ho : o.op = .slice t x lo hi none) (hq : qslice P t (ev S x) (lo.map (ev S)) (hi.map (ev S)) = some (C, sv)) (hC : C) : Yl P r S.n o a w sv := by
 obtain ⟨hx, _⟩ := ev_ok h x
 unfold qslice at hq
 split at hq
 · rename_i s h1
   rw [h1] at hx
   split at hq
   · rename_i ht
     split at hq
     · rename_i l u hl hu
       simp only [Option.some.injEq, Prod.mk.injEq] at hq
       obtain ⟨rfl, rfl⟩ := hq
       obtain ⟨c1, c2, c3⟩ := hC
       refine ⟨_, ok_va r _, trivial, ?_⟩
       have hty := isStrT_spec ht
       have hmain : (Instr.sliceAt t (.string s) (lo.map a.eval) (hi.map a.eval) none).run P w = .ok (.string (s.extract l.toNat u.toNat)) w := by
        have hL := bound_ok h hl
        have hU := bound_ok h hu
        rcases hL with ⟨rfl, rfl⟩ | ⟨yl, kl, rfl, el⟩ <;> rcases hU with ⟨rfl, rfl⟩ | ⟨yu, ku, rfl, eu⟩
        · simp [Instr.sliceAt, run_underlying hty, Instr.slice, Instr.sliceBounds]
        · simp [Instr.sliceAt, run_underlying hty, Instr.slice, Instr.sliceBounds, run_sliceBound eu (by omega) c3]
        · simp [Instr.sliceAt, run_underlying hty, Instr.slice, Instr.sliceBounds, run_sliceBound el c1 c2]
        · have : l <= (u.toNat : Int) := by omega
          simp [Instr.sliceAt, run_underlying hty, Instr.slice, Instr.sliceBounds, run_sliceBound eu (by omega) c3, run_sliceBound el c1 this]
       simp [execOp, ho, va_of hx, hmain]
     · cases hq
   · cases hq
 · cases hq
def imax (x y : Int) : Int := if y > x then y else x
def imin (x y : Int) : Int := if y < x then y else x
def qlen (P : Program) (t : TypeId) (x : SV) : Option (Prop × SV) :=
 match P.underlying t, x with
 | some .string, .sc (.va (.string s)) => some (True, .sc (.va (.int .i64 s.size)))
 | some (.slice _), .sc (.va (.slice _ n _)) => some (True, .sc (.va (.int .i64 n)))
 | some (.slice _), .sc (.sl _ _ n _) => some (True, .sc (.va (.int .i64 n)))
 | some (.array n _), _ => some (True, .sc (.va (.int .i64 n)))
 | _, _ => none
def qcall (P : Program) (S : St) (c : Call) : Option (Prop × SV) :=
 match c.callee, c.args.toList, c.argTypes.toList with
 | .builtin .len, [x], [t] => qlen P t (ev S x)
 | .builtin .max, [x, y], _ => match ev S x, ev S y with
   | .sc (.va (.int k n)), .sc (.va (.int _ m)) => some (True, .sc (.va (.int k (imax n m))))
   | _, _ => none
 | .builtin .min, [x, y], _ => match ev S x, ev S y with
   | .sc (.va (.int k n)), .sc (.va (.int _ m)) => some (True, .sc (.va (.int k (imin n m))))
   | _, _ => none
 | _, _, _ => none
theorem arr1 {α : Type} {x : Array α} {l : List α} (h : x.toList = l) : x = l.toArray := by rw [<- h, Array.toArray_toList]
theorem qcall_ok {c : Call} {C : Prop} {sv : SV} (h : SimR S a w r) (ho : o.op = .call c) (hq : qcall P S c = some (C, sv)) : Yl P r S.n o a w sv := by
 obtain ⟨callee, args, tys⟩ := c
 unfold qcall at hq
 simp only at hq
 split at hq
 · rename_i x t hx ht
   have ha := arr1 hx
   have hty := arr1 ht
   subst ha; subst hty
   obtain ⟨he, _⟩ := ev_ok h x
   unfold qlen at hq
   split at hq
   · rename_i s hu h1
     rw [h1] at he
     simp only [Option.some.injEq, Prod.mk.injEq] at hq
     obtain ⟨_, rfl⟩ := hq
     refine ⟨_, ok_va r _, trivial, ?_⟩
     simp [execOp, ho, resolve, invoke, builtin, Builtin.len_, run_underlying hu, va_of he, goInt]
   · rename_i e A' n c' hu h1
     rw [h1] at he
     simp only [Option.some.injEq, Prod.mk.injEq] at hq
     obtain ⟨_, rfl⟩ := hq
     refine ⟨_, ok_va r _, trivial, ?_⟩
     simp [execOp, ho, resolve, invoke, builtin, Builtin.len_, run_underlying hu, va_of he, goInt]
   · rename_i e m q n c' hu h1
     rw [h1] at he
     simp only [Option.some.injEq, Prod.mk.injEq] at hq
     obtain ⟨_, rfl⟩ := hq
     refine ⟨_, ok_va r _, trivial, ?_⟩
     have hx' : a.eval x = .slice (some ⟨r m, q, none⟩) n c' := by
      rcases he with he | he
      · cases he
      · exact he
     simp [execOp, ho, resolve, invoke, builtin, Builtin.len_, run_underlying hu, hx', goInt]
   · rename_i n e _ hu
     simp only [Option.some.injEq, Prod.mk.injEq] at hq
     obtain ⟨_, rfl⟩ := hq
     refine ⟨_, ok_va r _, trivial, ?_⟩
     simp [execOp, ho, resolve, invoke, builtin, Builtin.len_, run_underlying hu, goInt]
   · cases hq
 · rename_i x y hx
   have ha := arr1 hx
   subst ha
   obtain ⟨he, _⟩ := ev_ok h x
   obtain ⟨hf, _⟩ := ev_ok h y
   split at hq
   · rename_i k n k' m h1 h2
     rw [h1] at he
     rw [h2] at hf
     simp only [Option.some.injEq, Prod.mk.injEq] at hq
     obtain ⟨_, rfl⟩ := hq
     refine ⟨_, ok_va r _, trivial, ?_⟩
     simp [execOp, ho, resolve, invoke, builtin, Builtin.max_, Builtin.max2, va_of he, va_of hf, imax]
   · cases hq
 · rename_i x y hx
   have ha := arr1 hx
   subst ha
   obtain ⟨he, _⟩ := ev_ok h x
   obtain ⟨hf, _⟩ := ev_ok h y
   split at hq
   · rename_i k n k' m h1 h2
     rw [h1] at he
     rw [h2] at hf
     simp only [Option.some.injEq, Prod.mk.injEq] at hq
     obtain ⟨_, rfl⟩ := hq
     refine ⟨_, ok_va r _, trivial, ?_⟩
     simp [execOp, ho, resolve, invoke, builtin, Builtin.min_, Builtin.min2, va_of he, va_of hf, imin]
   · cases hq
 · cases hq
def cellsOf : SV -> Option (List Cl)
 | .sc c => if c.one then some [c] else none
 | .ag l => if l.all Cl.one then some l else none
 | _ => none
theorem one_ok {c : Cl} {u : Value} (h1 : c.one = true) (h : c.ok r u) : u.oneCell' = true := by
 rcases h with rfl | rfl
 · cases h1
 · cases c <;> first | exact h1 | rfl | cases h1
theorem cells_one {u : Value} (h : u.oneCell' = true) : u.cells = #[u] := by cases u <;> first | rfl | cases h
theorem cellsOf_ok {sv : SV} {u : Value} {l : List Cl} {b : Nat} (hc : cellsOf sv = some l) (h : sv.ok r u) (hl : sv.lt b) : ∃ vs : List Value, u.cells = vs.toArray /\ CL r l vs /\ ltL b l /\ ∀ v, v ∈ vs -> v.oneCell' = true := by
 unfold cellsOf at hc
 split at hc
 · rename_i c
   split at hc
   · rename_i h1
     obtain rfl : [c] = l := by simpa using hc
     have ho := one_ok h1 h
     refine ⟨[u], by rw [cells_one ho], ⟨rfl, fun i c' hi => ?_⟩, fun c' hm => ?_, fun v hv => ?_⟩
     · cases i with
       | zero => obtain rfl : c = c' := by simpa using hi
                 exact h
       | succ i => simp at hi
     · obtain rfl : c' = c := by simpa using hm
       exact hl
     · obtain rfl : v = u := by simpa using hv
       exact ho
   · cases hc
 · rename_i l'
   split at hc
   · rename_i h1
     obtain rfl : l' = l := by simpa using hc
     obtain ⟨vs, rfl, hcl⟩ := h
     refine ⟨vs, rfl, hcl, hl, fun v hv => ?_⟩
     obtain ⟨i, hi⟩ := List.getElem?_of_mem hv
     have hil : i < l'.length := by rw [hcl.1]; exact (List.getElem?_eq_some_iff.1 hi).1
     have hok := hcl.2 i _ (List.getElem?_eq_getElem hil)
     rw [List.getD_eq_getElem?_getD, hi] at hok
     exact one_ok (List.all_eq_true.1 h1 _ (List.getElem_mem hil)) hok
   · cases hc
 · cases hc
end
section
variable {X : Cx} {S : St} {A : Facts} {a : Act} {w : World} {r : Nat -> Nat} {own : Nat -> Option Ent} {o : Oper} {P : Program}
theorem fold_set : ∀ (vs : List Value) (off k : Nat) (arr : Array Value), off + k + vs.length <= arr.size ->
 ((vs.zipIdx k).foldl (fun cs (x : Value × Nat) => cs.setIfInBounds (off + x.2) x.1) arr).toList = arr.toList.take (off + k) ++ vs ++ arr.toList.drop (off + k + vs.length)
 | [], off, k, arr, _ => by simp
 | v :: vs, off, k, arr, h => by
   have ih := fold_set vs off (k + 1) (arr.setIfInBounds (off + k) v) (by simp at h ⊢; omega)
   simp only [List.zipIdx_cons, List.foldl_cons, ih, Array.toList_setIfInBounds, List.length_cons]
   have hk : off + k < arr.toList.length := by simp at h ⊢; omega
   have e1 : (arr.toList.set (off + k) v).take (off + (k + 1)) = arr.toList.take (off + k) ++ [v] := by
    rw [show off + (k + 1) = (off + k) + 1 by omega, List.take_succ_eq_append_getElem (by simpa using hk)]
    simp [List.take_set_of_le]
   have e2 : (arr.toList.set (off + k) v).drop (off + (k + 1) + vs.length) = arr.toList.drop (off + k + (vs.length + 1)) := by
    rw [List.drop_set_of_lt (by omega)]
    congr 1
    omega
   rw [e1, e2]
   simp
def fillB (S : St) (pl : Nat -> Option (Nat × Nat)) : List Cl -> List (Nat × Operand) -> Option (List Cl)
 | cs, [] => some cs
 | cs, (i, x) :: rest => match pl i, cellsOf (ev S x) with
   | some (off, n), some l => if l.length = n /\ off + n <= cs.length then fillB S pl (setC cs off l) rest else none
   | _, _ => none
theorem CL_set {cs ns : List Cl} {old vs : List Value} {off : Nat} (h : CL r cs old) (hn : CL r ns vs) (hb : off + vs.length <= old.length) : CL r (setC cs off ns) (old.take off ++ vs ++ old.drop (off + vs.length)) := by
 refine ⟨by rw [setC_length, h.1]; simp; omega, fun j c hj => ?_⟩
 rw [setC_get] at hj
 rw [splice_get old vs off j hb]
 have h1 := h.1
 have h2 := hn.1
 by_cases hc : off <= j /\ j < off + ns.length /\ j < cs.length
 · rw [if_pos hc] at hj
   rw [if_pos ⟨hc.1, by omega⟩]
   exact hn.2 _ _ hj
 · rw [if_neg hc] at hj
   have hjl := (List.getElem?_eq_some_iff.1 hj).1
   rw [if_neg (by omega)]
   exact h.2 _ _ hj
theorem ltL_set {b : Nat} {cs ns : List Cl} {off : Nat} (h : ltL b cs) (hn : ltL b ns) : ltL b (setC cs off ns) := by
 intro c hc
 obtain ⟨j, hj⟩ := List.getElem?_of_mem hc
 rw [setC_get] at hj
 split at hj
 · exact hn c (List.mem_of_getElem? hj)
 · exact h c (List.mem_of_getElem? hj)
theorem fillB_ok (h : SimR S a w r) {pl : Nat -> Option (Nat × Nat)} : ∀ {parts : List (Nat × Operand)} {cs cs' : List Cl} {arr : Array Value}, fillB S pl cs parts = some cs' -> CL r cs arr.toList -> ltL S.n cs ->
 ∃ arr', Instr.fill pl arr (parts.map fun x => (x.1, a.eval x.2)) = some arr' /\ CL r cs' arr'.toList /\ ltL S.n cs'
 | [], cs, cs', arr, hf, hc, hl => by
   obtain rfl : cs = cs' := by simpa [fillB] using hf
   exact ⟨arr, rfl, hc, hl⟩
 | (i, x) :: rest, cs, cs', arr, hf, hc, hl => by
   simp only [fillB] at hf
   split at hf
   · rename_i off n l hp hcx
     split at hf
     · rename_i hcond
       obtain ⟨he, hlx⟩ := ev_ok h x
       obtain ⟨vs, hv, hcl, hll, _⟩ := cellsOf_ok hcx he hlx
       have h1 := hc.1
       have h2 := hcl.1
       have hsz : vs.length = n := by omega
       have harr : off + vs.length ≤ arr.size := by have : arr.toList.length = arr.size := by simp
                                                    omega
       have hfold := fold_set vs off 0 arr (by simpa using harr)
       simp only [Nat.add_zero] at hfold
       obtain ⟨arr', e1, e2, e3⟩ := fillB_ok h (arr := (vs.zipIdx 0).foldl (fun cs (x : Value × Nat) => cs.setIfInBounds (off + x.2) x.1) arr) hf (by rw [hfold]; exact CL_set hc hcl (by simpa using harr)) (ltL_set hl hll)
       refine ⟨arr', ?_, e2, e3⟩
       simp only [List.map_cons, Instr.fill, hp, hv]
       rw [if_neg (by simp; omega)]
       have hz : (vs.toArray.zipIdx.foldl (fun cs (x : Value × Nat) => cs.setIfInBounds (off + x.2) x.1) arr) = (vs.zipIdx 0).foldl (fun cs (x : Value × Nat) => cs.setIfInBounds (off + x.2) x.1) arr := by
        rw [<- Array.foldl_toList]
        simp
       exact (congrArg (fun z => Instr.fill pl z _) hz).trans e1
     · cases hf
   · cases hf
def plT (P : Program) (t : TypeId) : Option (List (Nat × Nat)) :=
 match P.underlying t with
 | some (.struct fs) => fs.toList.mapM (fun f => (P.info? f.type).map fun i => (f.offset, i.size))
 | _ => none
def nthP : List (Nat × Nat) -> Nat -> Option (Nat × Nat)
 | [], _ => none
 | t :: _, 0 => some t
 | _ :: l, n + 1 => nthP l n
theorem nthP_eq : ∀ (l : List (Nat × Nat)) (n : Nat), nthP l n = l[n]?
 | [], n => by simp [nthP]
 | t :: l, 0 => by simp [nthP]
 | t :: l, n + 1 => by simp [nthP, nthP_eq l n]
def qbuild (P : Program) (S : St) (t : TypeId) (parts : Array (Nat × Operand)) : Option (Prop × SV) :=
 match plT P t, zeroT P t with
 | some ps, some zs => match fillB S (nthP ps) (zs.map .va) parts.toList with
   | some cs => some (True, .ag cs)
   | none => none
 | _, _ => none
theorem zeroT_spec {t : TypeId} {zs : List Value} (h : zeroT P t = some zs) : ∃ i z, P.info? t = some i /\ i.zero = some z /\ z.cells.toList = zs := by
 unfold zeroT at h
 split at h
 · rename_i i hi
   split at h
   · rename_i z hz
     exact ⟨i, z, hi, hz, by simpa using h⟩
   · cases h
 · cases h
theorem CL_va (zs : List Value) : CL r (zs.map .va) zs := by
 refine ⟨by simp, fun i c hi => ?_⟩
 rw [List.getElem?_map] at hi
 cases hz : zs[i]? with
 | none => simp [hz] at hi
 | some z =>
   simp only [hz, Option.map_some, Option.some.injEq] at hi
   subst hi
   exact .inr (by rw [List.getD_eq_getElem?_getD, hz]; rfl)
theorem ltL_va (b : Nat) (zs : List Value) : ltL b (zs.map .va) := by
 intro c hc
 obtain ⟨z, _, rfl⟩ := List.mem_map.1 hc
 trivial
theorem qbuild_ok {t : TypeId} {parts : Array (Nat × Operand)} {C : Prop} {sv : SV} (h : SimR S a w r) (ho : o.op = .build t parts) (hq : qbuild P S t parts = some (C, sv)) : Yl P r S.n o a w sv := by
 unfold qbuild at hq
 split at hq
 · rename_i ps zs hp hz
   split at hq
   · rename_i cs hf
     simp only [Option.some.injEq, Prod.mk.injEq] at hq
     obtain ⟨_, rfl⟩ := hq
     obtain ⟨i, z, hi, hz0, hz1⟩ := zeroT_spec hz
     obtain ⟨arr, e1, e2, e3⟩ := fillB_ok h hf (arr := z.cells) (by rw [hz1]; exact CL_va zs) (ltL_va _ zs)
     have hbt : P.built t (parts.toList.map fun x => (x.1, a.eval x.2)) = some arr := by
      unfold plT at hp
      unfold Program.built
      split at hp
      · rename_i fs hu
        have hpl : (fun x => ps.toArray[x]?) = nthP ps := by
         funext x
         rw [nthP_eq]
         simp
        simp only [hi, hu, hz0, hp, hpl]
        exact e1
      · cases hp
     have hrun := run_build w t (parts.map fun x => (x.1, a.eval x.2)) arr (by simpa using hbt)
     refine ⟨.agg arr.toList.toArray, ⟨arr.toList, rfl, e2⟩, e3, ?_⟩
     simp [execOp, ho, hrun]
   · cases hq
 · cases hq
def missT (P : Program) (at_ t : TypeId) : Bool :=
 match P.underlying at_, P.info? t with
 | some (.interface want), some i => (Instr.missingMethod want i.methods).isNone
 | _, _ => false
def zero1T (P : Program) (t : TypeId) : Option Value :=
 match P.info? t with
 | some i => i.zero
 | none => none
def asserted (ok : Bool) (c : Cl) : SV := if ok then .tu [.sc c, .sc (.va (.bool true))] else .sc c
def qassert1 (P : Program) (at_ : TypeId) (ok : Bool) (t : TypeId) (c whole : Cl) : Option (Prop × SV) :=
 if concT P at_ then
  if t = at_ then some (True, asserted ok c)
  else match ok, zero1T P at_ with
   | true, some z => some (True, .tu [.sc (.va z), .sc (.va (.bool false))])
   | _, _ => none
 else if missT P at_ t then some (True, asserted ok whole) else none
def qassert (P : Program) (at_ : TypeId) (ok : Bool) (x : SV) : Option (Prop × SV) :=
 match x with
 | .sc (.ic t n q) => qassert1 P at_ ok t (.pt n q) (.ic t n q)
 | .sc (.va (.iface t u)) => qassert1 P at_ ok t (.va u) (.va (.iface t u))
 | _ => none
theorem asserted_ok {ok : Bool} {c : Cl} {u : Value} {b : Nat} (h : c.ok r u) (hl : c.lt b) : (asserted ok c).ok r (if ok then .tuple #[u, .bool true] else u) /\ (asserted ok c).lt b := by
 cases ok
 · exact ⟨h, hl⟩
 · refine ⟨⟨[u, .bool true], rfl, rfl, fun i t hi => ?_⟩, fun t ht => ?_⟩
   · match i with
     | 0 => obtain rfl : TV.sc c = t := by simpa using hi
            exact h
     | 1 => obtain rfl : TV.sc (.va (.bool true)) = t := by simpa using hi
            exact .inr rfl
     | n + 2 => simp at hi
   · simp only [List.mem_cons, List.mem_nil_iff, or_false] at ht
     rcases ht with rfl | rfl
     · exact hl
     · trivial
theorem qassert1_ok {at_ xt t : TypeId} {ok : Bool} {c whole : Cl} {x : Operand} {u : Value} {C : Prop} {sv : SV} (ho : o.op = .typeAssert x xt at_ ok) (hx : a.eval x = .iface t u) (hc : c.ok r u) (hw : whole.ok r (.iface t u)) (hl : c.lt S.n) (hlw : whole.lt S.n)
 (hq : qassert1 P at_ ok t c whole = some (C, sv)) : Yl P r S.n o a w sv := by
 unfold qassert1 at hq
 split at hq
 · rename_i hcc
   obtain ⟨d, hd, hne⟩ := concT_spec hcc
   split at hq
   · rename_i ht
     subst ht
     simp only [Option.some.injEq, Prod.mk.injEq] at hq
     obtain ⟨_, rfl⟩ := hq
     obtain ⟨h1, h2⟩ := asserted_ok (ok := ok) hc hl
     refine ⟨_, h1, h2, ?_⟩
     simp only [execOp, ho, hx, Instr.typeAssert, Sem.run_bind, run_underlying hd, Result.andThen_ok]
     cases d <;> first | exact absurd rfl (hne _) | simp
   · rename_i ht
     split at hq
     · rename_i z' hz
       simp only [Option.some.injEq, Prod.mk.injEq] at hq
       obtain ⟨_, rfl⟩ := hq
       obtain ⟨i, hi, hz0⟩ : ∃ i, P.info? at_ = some i /\ i.zero = some z' := by
        unfold zero1T at hz
        split at hz
        · rename_i i hi
          exact ⟨i, hi, hz⟩
        · cases hz
       refine ⟨.tuple #[z', .bool false], ⟨[z', .bool false], rfl, rfl, fun i t hi => ?_⟩, fun t ht => ?_, ?_⟩
       · match i with
         | 0 => obtain rfl : TV.sc (.va z') = t := by simpa using hi
                exact .inr rfl
         | 1 => obtain rfl : TV.sc (.va (.bool false)) = t := by simpa using hi
                exact .inr rfl
         | n + 2 => simp at hi
       · simp only [List.mem_cons, List.mem_nil_iff, or_false] at ht
         rcases ht with rfl | rfl <;> trivial
       · simp only [execOp, ho, hx, Instr.typeAssert, Sem.run_bind, run_underlying hd, Result.andThen_ok]
         cases d <;> first | exact absurd rfl (hne _) | simp [ht, zeroValue, typeInfo, hi, hz0]
     · cases hq
 · split at hq
   · rename_i hm
     simp only [Option.some.injEq, Prod.mk.injEq] at hq
     obtain ⟨_, rfl⟩ := hq
     obtain ⟨h1, h2⟩ := asserted_ok (ok := ok) hw hlw
     refine ⟨_, h1, h2, ?_⟩
     unfold missT at hm
     split at hm
     · rename_i want i hu hi
       have hmm : Instr.missingMethod want i.methods = none := by simpa using hm
       simp [execOp, ho, hx, Instr.typeAssert, run_underlying hu, typeInfo, hi, hmm]
     · cases hm
   · cases hq
end
section
variable {X : Cx} {S : St} {A : Facts} {a : Act} {w : World} {r : Nat -> Nat} {own : Nat -> Option Ent} {o : Oper} {P : Program}
def Res (P : Program) (o : Oper) (a : Act) (w : World) (a' : Act) (w' : World) : Prop :=
 ∃ n, (execOp a.eval o).run P w = .ok n w' /\ ((∃ v, n = .value v /\ a' = a.put o.dst v) \/ (n = .skip /\ a' = a.put o.dst undef))
theorem Res.wp {a' : Act} {w' : World} {K : Act -> World -> Prop} {Q : Exit -> Act -> World -> Prop} (h : Res P o a w a' w') (hK : K a' w') : o.wp P a w K Q := by
 obtain ⟨n, h1, h2⟩ := h
 unfold Oper.wp
 rw [h1]
 rcases h2 with ⟨v, rfl, rfl⟩ | ⟨rfl, rfl⟩
 · exact hK
 · exact hK
theorem Yl.res {sv : SV} (h : Sim X S A a w r own) (hy : Yl P r S.n o a w sv) : ∃ a', Res P o a w a' w /\ Sim X (S.put o.dst sv) A a' w r own := by
 obtain ⟨u, h1, h2, h3⟩ := hy
 exact ⟨_, ⟨_, h3, .inl ⟨u, rfl, rfl⟩⟩, h.put o.dst h1 h2⟩
def undefSV : SV := .sc (.va undef)
def qmem (P : Program) (S : St) (o : Oper) : Option St :=
 match o.op with
 | .alloc t => match zeroT P t with
   | some zs => if zs.all Value.oneCell' then some ((S.new t (zs.map .va)).put o.dst (.sc (.pt S.n 0))) else none
   | none => none
 | .box t x => match cellsOf (ev S x) with
   | some l => some ((S.new t l).put o.dst (.sc (.pt S.n 0)))
   | none => none
 | .store t x v => match ev S x with
   | .sc (.pt n q) => match findH S.h n, cellsOf (ev S v), szT P t with
     | some (_, cs), some l, some (k, _) => if l.length = k /\ q + k <= cs.length then some (St.put { S with h := setH S.h n q l } o.dst undefSV) else none
     | _, _, _ => none
   | _ => none
 | .buildSlice t len parts => match elT P t with
   | some (e, k) => match zeroT P e, fillB S (fun i => some (i * k, k)) (List.replicate (len * k) .un) parts.toList with
     | some _, some cs => if cs.all Cl.one /\ len * k <= 16777216 then some ((S.new e cs).put o.dst (.sc (.sl S.n 0 len len))) else none
     | _, _ => none
   | none => none
 | _ => none
theorem CL_one {cs : List Cl} {vs : List Value} (h : CL r cs vs) (h1 : cs.all Cl.one = true) : ∀ v, v ∈ vs -> v.oneCell' = true := by
 intro v hv
 obtain ⟨i, hi⟩ := List.getElem?_of_mem hv
 have hil : i < cs.length := by rw [h.1]; exact (List.getElem?_eq_some_iff.1 hi).1
 have hok := h.2 i _ (List.getElem?_eq_getElem hil)
 rw [List.getD_eq_getElem?_getD, hi] at hok
 exact one_ok (List.all_eq_true.1 h1 _ (List.getElem_mem hil)) hok
def Kept (o : Oper) (S S' : St) (w w' : World) (r r' : Nat -> Nat) : Prop :=
 (∀ n, n < S.n -> r' n = r n) /\ ((∀ t x v, o.op ≠ .store t x v) -> ∀ k, k < w.heap.size -> w'.heap[k]? = w.heap[k]?) /\ w.heap.size <= w'.heap.size /\ S.n <= S'.n /\ (∀ x ∈ S'.h, (∃ y ∈ S.h, y.1 = x.1) \/ S.n <= x.1) /\ ∀ x ∈ S.h, ∃ y ∈ S'.h, y.1 = x.1
theorem Sim.newPut (h : Sim X S A a w r own) {t : Nat} {cs : List Cl} {vs : List Value} (hc : CL r cs vs) (hl : ltL S.n cs) (h1 : ∀ v, v ∈ vs -> v.oneCell' = true) (d : Option Tmp) {sv : SV} {u : Value}
 (hu : sv.ok (fun n => if n = S.n then w.heap.size else r n) u) (hlt : sv.lt (S.n + 1)) : ∃ r' own', Sim X ((S.new t cs).put d sv) A (a.put d u) (w.alloc (.cells vs.toArray t)) r' own' /\ Kept o S ((S.new t cs).put d sv) w (w.alloc (.cells vs.toArray t)) r r' :=
 ⟨_, _, (h.new t hc hl h1).put d hu hlt, fun n hn => by simp [Nat.ne_of_lt hn], fun _ k hk => alloc_old w _ hk, by rw [alloc_size]; omega, by cases d <;> exact Nat.le_succ _, by
  intro x hx
  have hx : x ∈ S.h ++ [(S.n, t, cs)] := by cases d <;> exact hx
  rcases List.mem_append.1 hx with hx | hx
  · exact .inl ⟨x, hx, rfl⟩
  · obtain rfl : x = (S.n, t, cs) := by simpa using hx
    exact .inr (Nat.le_refl _), fun x hx => ⟨x, (by cases d <;> exact List.mem_append_left _ hx), rfl⟩⟩
theorem un_ok (r : Nat -> Nat) (k : Nat) (vs : List Value) (h : vs.length = k) : CL r (List.replicate k .un) vs := by
 refine ⟨by simp [h], fun i c hi => .inl ?_⟩
 rw [List.getElem?_replicate] at hi
 split at hi
 · simpa using hi.symm
 · cases hi
theorem ltL_un (b k : Nat) : ltL b (List.replicate k .un) := by
 intro c hc
 obtain ⟨_, rfl⟩ := List.mem_replicate.1 hc
 trivial
theorem qmem_ok {S' : St} (h : Sim X S A a w r own) (hq : qmem P S o = some S') : ∃ a' w' r' own', Res P o a w a' w' /\ Sim X S' A a' w' r' own' /\ Kept o S S' w w' r r' := by
 unfold qmem at hq
 split at hq
 · rename_i t ho
   split at hq
   · rename_i zs hz
     split at hq
     · rename_i h1
       obtain rfl : _ = S' := by simpa using hq
       obtain ⟨i, z, hi, hz0, rfl⟩ := zeroT_spec hz
       obtain ⟨r', own', hs⟩ := h.newPut (t := t) (CL_va (r := r) z.cells.toList) (ltL_va _ _) (fun v hv => List.all_eq_true.1 h1 v hv) o.dst (sv := .sc (.pt S.n 0)) (u := .pointer (some ⟨w.heap.size, 0, none⟩))
        (.inr (by simp [Cl.den])) (Nat.lt_succ_self _)
       refine ⟨_, _, r', own', ⟨_, ?_, .inl ⟨_, rfl, rfl⟩⟩, hs⟩
       simp [execOp, ho, Instr.alloc, zeroValue, typeInfo, hi, hz0, newVar, newRow]
     · cases hq
   · cases hq
 · rename_i t x ho
   split at hq
   · rename_i l hc
     obtain rfl : _ = S' := by simpa using hq
     obtain ⟨he, hlx⟩ := ev_ok h.toR x
     obtain ⟨vs, hv, hcl, hll, h1⟩ := cellsOf_ok hc he hlx
     obtain ⟨r', own', hs⟩ := h.newPut (t := t) hcl hll h1 o.dst (sv := .sc (.pt S.n 0)) (u := .pointer (some ⟨w.heap.size, 0, none⟩))
      (.inr (by simp [Cl.den])) (Nat.lt_succ_self _)
     refine ⟨_, _, r', own', ⟨_, ?_, .inl ⟨_, rfl, rfl⟩⟩, hs⟩
     simp [execOp, ho, Instr.box, newVar, newRow, hv]
   · cases hq
 · rename_i t x v ho
   split at hq
   · rename_i n q hx
     split at hq
     · rename_i t' cs l k b hf hc hs
       split at hq
       · rename_i hcond
         obtain rfl : _ = S' := by simpa using hq
         obtain ⟨he, _⟩ := ev_ok h.toR x
         rw [hx] at he
         obtain ⟨he2, hl2⟩ := ev_ok h.toR v
         obtain ⟨vs, hv, hcl, hll, h1⟩ := cellsOf_ok hc he2 hl2
         have hm := findH_mem hf
         obtain ⟨_, _, _, old, e4, e5, _⟩ := h.heap n t' cs hm
         have hlen := hcl.1
         have hlen5 := e5.1
         have hw := h.write hm e4 hcl hll h1 (o := q) (by omega)
         refine ⟨_, _, r, own, ⟨_, ?_, .inr ⟨rfl, rfl⟩⟩, hw.put o.dst (ok_va r undef) trivial, fun _ _ => rfl, fun hno => absurd ho (hno _ _ _), by simp, by cases o.dst <;> exact Nat.le_refl _, by
          intro y hy
          have hy : y ∈ setH S.h n q l := by cases hd : o.dst <;> simpa [St.put, hd] using hy
          obtain ⟨z, hz, rfl⟩ := List.mem_map.1 hy
          exact .inl ⟨z, hz, rfl⟩, fun x hx => ⟨(x.1, x.2.1, if x.1 = n then setC x.2.2 q l else x.2.2), (by
           have : (x.1, x.2.1, if x.1 = n then setC x.2.2 q l else x.2.2) ∈ setH S.h n q l := List.mem_map.2 ⟨x, hx, rfl⟩
           cases hd : o.dst <;> exact this), rfl⟩⟩
         have hst := run_storeCells_at (P := P) (r n) q t' vs 0 old.toArray w e4 (by simp; omega) h1
         simp only [Nat.add_zero] at hst
         have hvl : vs.length = k := by omega
         simp only [List.append_assoc] at hst
         simp [execOp, ho, pt_of he, Instr.storeAt, Instr.sureAddr, storeVar, run_sizeOf' hs, hv, hvl]
         rw [hst, hvl]
         rfl
       · cases hq
     · cases hq
   · cases hq
 · rename_i t len parts ho
   split at hq
   · rename_i e k he
     split at hq
     · rename_i zs cs hz hf
       split at hq
       · rename_i hcond
         obtain rfl : _ = S' := by simpa using hq
         obtain ⟨i, hu, hi, rfl⟩ := elT_spec he
         obtain ⟨i', z, hi', hz0, hz1⟩ := zeroT_spec hz
         obtain rfl : i = i' := by rw [hi] at hi'; simpa using hi'
         have hinit : ∃ arr0 : Array Value, arr0.size = len * i.size /\ ((if len * i.size = 0 then pure #[] else do pure (<- zeroValue e).cells : Sem (Array Value)).run P w).andThen (fun zero w => (Result.ok ((Array.range (len * i.size)).map (zero[· % zero.size]!)) w : Result (Array Value))) = .ok arr0 w := by
          by_cases h0 : len * i.size = 0
          · exact ⟨#[], by simp [h0], by simp [h0]⟩
          · exact ⟨(Array.range (len * i.size)).map (z.cells[· % z.cells.size]!), by simp, by simp [h0, zeroValue, typeInfo, hi, hz0]⟩
         obtain ⟨arr0, hsz, hrun0⟩ := hinit
         obtain ⟨arr, e1, e2, e3⟩ := fillB_ok h.toR hf (arr := arr0) (un_ok r _ _ (by simpa using hsz)) (ltL_un _ _)
         obtain ⟨r', own', hs⟩ := h.newPut (t := e) e2 e3 (CL_one e2 hcond.1) o.dst (sv := .sc (.sl S.n 0 len len)) (u := .slice (some ⟨w.heap.size, 0, none⟩) len len)
          (.inr (by simp [Cl.den])) (Nat.lt_succ_self _)
         refine ⟨_, _, r', own', ⟨_, ?_, .inl ⟨_, rfl, rfl⟩⟩, hs⟩
         have hlim : ¬ (len * i.size > 2 ^ 24) := by have := hcond.2; omega
         have e1' : Instr.fill (fun j => some (j * i.size, i.size)) arr0 (parts.toList.map fun x => (x.1, a.eval x.2)) = some arr := e1
         by_cases h0 : len * i.size = 0
         · simp only [h0, if_true, Sem.run_pure, Result.andThen_ok] at hrun0
           obtain rfl : arr0 = #[] := Array.eq_empty_of_size_eq_zero (by rw [hsz]; exact h0)
           have hr0 : Array.map (fun _ : Nat => (default : Value)) (Array.range 0) = #[] := Array.eq_empty_of_size_eq_zero (by simp)
           simp [execOp, ho, Instr.buildSlice, run_underlying hu, sizeOf, typeInfo, hi, hlim, h0, newRow]
           rw [hr0, e1']
           simp
         · simp only [h0, if_false, Sem.run_bind, zeroValue, typeInfo, hi, hz0, Sem.run_pure, run_program, Result.andThen_ok, Result.ok.injEq, and_true] at hrun0
           rw [<- hrun0] at e1'
           simp [execOp, ho, Instr.buildSlice, run_underlying hu, sizeOf, typeInfo, hi, hlim, h0, newRow, zeroValue, hz0]
           rw [e1']
           simp
       · cases hq
     · cases hq
   · cases hq
 · cases hq
end
