/- Lemmas for FnFilterTree; each condition stands in its statement. -/
import Derived.Test.YtbfenkhnfflpnaaGreatDoorGab
import Derived.Test.YtbfenkhnfflpnaaGreatDoorChecked
import Derived.Laws.IdiomStrings
import Derived.Laws.BytesString
namespace Go.Proofs.YtbfenkhnfflpnaaGreatDoor.Sx
open Go Go.RowKit
set_option maxRecDepth 100000
set_option maxHeartbeats 40000000
set_option linter.all false
def Blk (g t : Nat) (cs : List Value) : Asn where
 P w F := (∀ k, F k ↔ k = g) /\ w.heap[g]? = some (.cells cs.toArray t (0, 0)) /\ ∀ v ∈ cs, v.oneCell' = true
 loc := fun {w w' F} hw h => ⟨h.1, by rw [hw g ((h.1 g).2 rfl)]; exact h.2.1, h.2.2⟩
def Cl.conc (n g : Nat) : Cl -> Cl
 | .pt m o => if m = n then .va (.pointer (some ⟨g, o, none⟩)) else .pt m o
 | .ic t m o => if m = n then .va (.iface t (.pointer (some ⟨g, o, none⟩))) else .ic t m o
 | .sl m o l c => if m = n then .va (.slice (some ⟨g, o, none⟩) l c) else .sl m o l c
 | c => c
def TV.conc (n g : Nat) : TV -> TV
 | .sc x => .sc (x.conc n g)
 | .ag l => .ag (l.map (Cl.conc n g))
def SV.conc (n g : Nat) : SV -> SV
 | .sc x => .sc (x.conc n g)
 | .ag l => .ag (l.map (Cl.conc n g))
 | .tu l => .tu (l.map (TV.conc n g))
def concH (n g : Nat) : Heap -> Heap
 | [] => []
 | x :: l => if x.1 = n then concH n g l else (x.1, x.2.1, x.2.2.map (Cl.conc n g)) :: concH n g l
def St.conc (S : St) (n g : Nat) : St := ⟨S.t.map (SV.conc n g), concH n g S.h, S.n, S.m + 1⟩
theorem Cl.conc_ok {r : Nat -> Nat} {n b : Nat} {c : Cl} {u : Value} (h : c.ok r u) : (c.conc n (r n)).ok r u /\ (c.lt b -> (c.conc n (r n)).lt b) := by
 cases c with
 | un => exact ⟨.inl rfl, fun x => x⟩
 | va v => exact ⟨h, fun x => x⟩
 | pt m o =>
   simp only [Cl.conc]
   split
   · rename_i hm
     subst hm
     exact ⟨h.elim (fun e => by cases e) .inr, fun _ => trivial⟩
   · exact ⟨h, fun x => x⟩
 | ic t m o =>
   simp only [Cl.conc]
   split
   · rename_i hm
     subst hm
     exact ⟨h.elim (fun e => by cases e) .inr, fun _ => trivial⟩
   · exact ⟨h, fun x => x⟩
 | sl m o l c =>
   simp only [Cl.conc]
   split
   · rename_i hm
     subst hm
     exact ⟨h.elim (fun e => by cases e) .inr, fun _ => trivial⟩
   · exact ⟨h, fun x => x⟩
theorem Cl.conc_lt {n g b : Nat} {c : Cl} (h : c.lt b) : (c.conc n g).lt b := by
 cases c <;> simp only [Cl.conc] <;> first | exact h | (split <;> first | trivial | exact h)
theorem CL_conc {r : Nat -> Nat} {n : Nat} {l : List Cl} {vs : List Value} (h : CL r l vs) : CL r (l.map (Cl.conc n (r n))) vs := by
 refine ⟨by simp [h.1], fun i c hc => ?_⟩
 rw [List.getElem?_map] at hc
 cases hl : l[i]? with
 | none => simp [hl] at hc
 | some d =>
   simp only [hl, Option.map_some, Option.some.injEq] at hc
   subst hc
   exact (Cl.conc_ok (b := 0) (h.2 i d hl)).1
theorem ltL_conc {n g b : Nat} {l : List Cl} (h : ltL b l) : ltL b (l.map (Cl.conc n g)) := by
 intro c hc
 obtain ⟨d, hd, rfl⟩ := List.mem_map.1 hc
 exact Cl.conc_lt (h d hd)
theorem TV.conc_ok {r : Nat -> Nat} {n : Nat} {t : TV} {u : Value} (h : t.ok r u) : (t.conc n (r n)).ok r u := by
 cases t with
 | sc x => exact (Cl.conc_ok (b := 0) h).1
 | ag l =>
   obtain ⟨vs, e, hc⟩ := h
   exact ⟨vs, e, CL_conc hc⟩
theorem TV.conc_lt {n g b : Nat} {t : TV} (h : t.lt b) : (t.conc n g).lt b := by
 cases t with
 | sc x => exact Cl.conc_lt h
 | ag l => exact ltL_conc h
theorem SV.conc_ok {r : Nat -> Nat} {n : Nat} {s : SV} {u : Value} (h : s.ok r u) : (s.conc n (r n)).ok r u := by
 cases s with
 | sc x => exact (Cl.conc_ok (b := 0) h).1
 | ag l =>
   obtain ⟨vs, e, hc⟩ := h
   exact ⟨vs, e, CL_conc hc⟩
 | tu l =>
   obtain ⟨vs, e, h1, h2⟩ := h
   refine ⟨vs, e, by simp [h1], fun i t ht => ?_⟩
   rw [List.getElem?_map] at ht
   cases hl : l[i]? with
   | none => simp [hl] at ht
   | some d =>
     simp only [hl, Option.map_some, Option.some.injEq] at ht
     subst ht
     exact TV.conc_ok (h2 i d hl)
theorem SV.conc_lt {n g b : Nat} {s : SV} (h : s.lt b) : (s.conc n g).lt b := by
 cases s with
 | sc x => exact Cl.conc_lt h
 | ag l => exact ltL_conc h
 | tu l =>
   intro t ht
   obtain ⟨d, hd, rfl⟩ := List.mem_map.1 ht
   exact TV.conc_lt (h d hd)
theorem concH_mem {n g : Nat} : ∀ {l : Heap} {m t : Nat} {cs : List Cl}, (m, t, cs) ∈ concH n g l -> m ≠ n /\ ∃ cs0, (m, t, cs0) ∈ l /\ cs = cs0.map (Cl.conc n g)
 | [], _, _, _, h => by cases h
 | x :: l, m, t, cs, h => by
   simp only [concH] at h
   split at h
   · obtain ⟨h1, c0, h2, h3⟩ := concH_mem h
     exact ⟨h1, c0, List.mem_cons_of_mem _ h2, h3⟩
   · rename_i hx
     rcases List.mem_cons.1 h with he | h
     · simp only [Prod.mk.injEq] at he
       obtain ⟨rfl, rfl, rfl⟩ := he
       exact ⟨hx, x.2.2, List.mem_cons_self .., rfl⟩
     · obtain ⟨h1, c0, h2, h3⟩ := concH_mem h
       exact ⟨h1, c0, List.mem_cons_of_mem _ h2, h3⟩
section
variable {X : Cx} {S : St} {A : Facts} {a : Act} {w w' : World} {r : Nat -> Nat} {own : Nat -> Option Ent}
theorem Sim.conc (h : Sim X S A a w r own) {n t : Nat} {vals : List Value} (hm : (n, t, vals.map .va) ∈ S.h) : Sim X (S.conc n (r n)) ((S.m, Blk (r n) t vals) :: A) a w r (fun k => if k = r n then some (.fa S.m) else own k) := by
 obtain ⟨_, _, hon, vs, hv, hc, h1⟩ := h.heap n t _ hm
 have hvs : vs = vals := by
  have := CL_den (by simp [Cl.known]) hc
  rw [this, List.map_map]
  exact (List.map_congr_left fun v _ => rfl).trans (List.map_id _)
 subst hvs
 have hne : ∀ k e, own k = some e -> e ≠ .nm n -> k ≠ r n := fun k e hk he hkr => by
  subst hkr
  rw [hon] at hk
  exact he (Option.some.inj hk).symm
 refine ⟨h.dfr, by simpa [St.conc] using h.sz, ?_, ?_, ?_, ?_, ?_, ?_, ?_, h.frm, h.rts⟩
 · intro j sv hj
   simp only [St.conc, List.getElem?_map] at hj
   cases hl : S.t[j]? with
   | none => simp [hl] at hj
   | some s =>
     simp only [hl, Option.map_some, Option.some.injEq] at hj
     subst hj
     exact SV.conc_ok (h.slot j s hl)
 · intro sv hsv
   obtain ⟨s, hs, rfl⟩ := List.mem_map.1 hsv
   exact SV.conc_lt (h.slt s hs)
 · intro m t' cs' hmm
   obtain ⟨e0, cs0, e1, rfl⟩ := concH_mem hmm
   obtain ⟨f1, f2, f3, vs', f4, f5, f6⟩ := h.heap m t' cs0 e1
   refine ⟨f1, ltL_conc f2, ?_, vs', f4, CL_conc f5, f6⟩
   have : r m ≠ r n := hne _ _ f3 (fun e => e0 (by injection e))
   simp only [if_neg this]
   exact f3
 · intro j B hmm
   rcases List.mem_cons.1 hmm with he | hmm
   · simp only [Prod.mk.injEq] at he
     obtain ⟨rfl, rfl⟩ := he
     refine ⟨Nat.lt_succ_self _, fun k => ?_, hv, h1⟩
     by_cases hk : k = r n
     · simp [hk]
     · simp only [hk, if_false, iff_false]
       exact fun hf => absurd (h.fas k _ hf) (Nat.lt_irrefl _)
   · obtain ⟨e1, e2⟩ := h.fact j B hmm
     refine ⟨Nat.lt_succ_of_lt e1, ?_⟩
     have : (fun k => (if k = r n then some (Ent.fa S.m) else own k) = some (.fa j)) = (fun k => own k = some (.fa j)) := by
      funext k
      apply propext
      by_cases hk : k = r n
      · subst hk
        simp only [if_true, Option.some.injEq, Ent.fa.injEq, hon, reduceCtorEq, iff_false]
        omega
      · simp [hk]
     rw [this]
     exact e2
 · intro k e hk
   by_cases hkr : k = r n
   · subst hkr
     exact h.bnd _ _ hon
   · simp only [hkr, if_false] at hk
     exact h.bnd k e hk
 · intro k m hk
   by_cases hkr : k = r n
   · simp [hkr] at hk
   · simp only [hkr, if_false] at hk
     exact h.nms k m hk
 · intro k j hk
   show j < S.m + 1
   by_cases hkr : k = r n
   · simp only [hkr, if_true, Option.some.injEq, Ent.fa.injEq] at hk
     omega
   · simp only [hkr, if_false] at hk
     exact Nat.lt_succ_of_lt (h.fas k j hk)
end
section
variable {E : En} {S : St} {k : Kt} {α : Type} {o : Oper} {wr : List Nat} {c : Call} {dst : Option Tmp} {ty : TypeId} {pos : String} {after : Array Edge} {guard : Option (Nat × Bool)}
theorem WO_conc {ops l : List Oper} (n : Nat) (t : Nat) (vals : List Value) (hf : findH S.h n = some (t, vals.map .va))
 (h : ∀ g (E' : En), E'.X = E.X -> E'.A = (S.m, Blk g t vals) :: E.A -> E'.Q = E.Q -> WO E' ops o l k (S.conc n g)) : WO E ops o l k S := by
 intro a w r own hs
 have h1 := h (r n) ⟨E.X, (S.m, Blk (r n) t vals) :: E.A, E.Q⟩ rfl rfl rfl a w r _ (hs.conc (findH_mem hf))
 rwa [kq_congr (E := E) (E' := ⟨E.X, (S.m, Blk (r n) t vals) :: E.A, E.Q⟩) rfl rfl] at h1
theorem WC_conc {cd : Code} (n : Nat) (t : Nat) (vals : List Value) (hf : findH S.h n = some (t, vals.map .va))
 (h : ∀ g (E' : En), E'.X = E.X -> E'.A = (S.m, Blk g t vals) :: E.A -> E'.Q = E.Q -> WC E' cd k (S.conc n g)) : WC E cd k S := by
 intro a w r own hs
 have h1 := h (r n) ⟨E.X, (S.m, Blk (r n) t vals) :: E.A, E.Q⟩ rfl rfl rfl a w r _ (hs.conc (findH_mem hf))
 rwa [kq_congr (E := E) (E' := ⟨E.X, (S.m, Blk (r n) t vals) :: E.A, E.Q⟩) rfl rfl] at h1
theorem LS_yl {sv : SV} (h : ∀ a w r own, Sim E.X S E.A a w r own -> Yl E.X.P r S.n o a w sv) : LS E S o [] (fun _ : Unit => True) (fun _ => S.put o.dst sv) (fun _ => E.A) := by
 intro a w r own hs K Q hK
 obtain ⟨a', hr, hs'⟩ := Yl.res hs (h a w r own hs)
 exact hr.wp (hK () trivial a' w r own hs' (.same (put_h ..).1 (put_h ..).2 (Nat.le_refl _) fun _ _ _ _ _ => rfl))
def rdV (agg : Bool) (vals : List Value) : SV := match agg, vals with
 | true, l => .ag (l.map .va)
 | false, [v] => .sc (.va v)
 | false, _ => .sc .un
theorem yl_rload {t : TypeId} {x : Operand} {g q t' : Nat} {arr : Array Value} {agg : Bool} {a : Act} {w : World} {r : Nat -> Nat} {P : Program} (vals : List Value) (hs : SimR S a w r) (ho : o.op = .load t x) (hx : ev S x = .sc (.va (.pointer (some ⟨g, q, none⟩))))
 (hb : w.heap[g]? = some (.cells arr t' (0, 0))) (hv : (arr.toList.drop q).take vals.length = vals) (hsz : szT P t = some (vals.length, agg)) (hag : agg = false -> vals.length = 1) : Yl P r S.n o a w (rdV agg vals) := by
 have he := (ev_ok hs x).1
 rw [hx] at he
 have hp := va_of he
 have hb' : w.heap[g]? = some (.cells arr.toList.toArray t' (0, 0)) := by simpa using hb
 have hget : ∀ (j : Nat) (u : Value), vals[j]? = some u -> arr.toList[q + j]? = some u := fun j u hj => by
  have hjl := (List.getElem?_eq_some_iff.1 hj).1
  rw [<- hv, List.getElem?_take_of_lt hjl, List.getElem?_drop] at hj
  exact hj
 cases agg with
 | true =>
   refine ⟨.agg vals.toArray, ⟨vals, rfl, CL_va _⟩, ltL_va _ _, ?_⟩
   have hrun : (loadCells ⟨g, q, none⟩ vals.length).run P w = .ok vals.toArray w := run_loadCells_list w _ _ (fun j v hj => by rw [addr_add, cell_at hb', hget j v hj])
   simp [execOp, ho, hp, Instr.loadAt, Instr.sureAddr, loadVar, run_isAgg' hsz, run_sizeOf' hsz, hrun]
 | false =>
   obtain ⟨v, rfl⟩ := List.length_eq_one_iff.1 (hag rfl)
   refine ⟨v, ok_va r v, trivial, ?_⟩
   have h0 := hget 0 v rfl
   have hc : w.cell? ⟨g, q, none⟩ = some v := by rw [cell_at hb' q, <- h0]; rfl
   simp [execOp, ho, hp, Instr.loadAt, Instr.sureAddr, loadVar, run_isAgg' hsz, hc]
end
def setN (h : Heap) (n : Nat) (cs : List Cl) : Heap := h.map fun x => (x.1, x.2.1, if x.1 = n then cs else x.2.2)
section
variable {X : Cx} {S : St} {A : Facts} {a : Act} {w w' : World} {r : Nat -> Nat} {own : Nat -> Option Ent}
end
attribute [go_sem] Cl.conc TV.conc SV.conc concH St.conc rdV St.putM outF setN
section
variable {X : Cx} {S : St} {A : Facts} {a : Act} {w w' : World} {r : Nat -> Nat} {own : Nat -> Option Ent}
open Classical in
theorem Sim.tradeM (h : Sim X S A a w r own) (J : List Nat) {B : Asn} {F : Nat -> Prop} {n₀ t₀ : Nat} {cs₀ : List Cl} {vs₀ : List Value} (hm₀ : (n₀, t₀, cs₀) ∈ S.h) (hu₀ : ∀ t' cs', (n₀, t', cs') ∈ S.h -> t' = t₀) (hf : Frm (fun k => k = r n₀ \/ ∃ j ∈ J, own k = some (.fa j)) w w')
 (hb₀ : w'.heap[r n₀]? = some (.cells vs₀.toArray t₀ (0, 0))) (h1₀ : ∀ v ∈ vs₀, v.oneCell' = true) (hB : B.P w' F)
 (hF : ∀ k, F k -> (∃ j ∈ J, own k = some (.fa j)) \/ (w.heap.size <= k /\ k < w'.heap.size)) :
 Sim X { S with h := setN S.h n₀ (vs₀.map .va), m := S.m + 1 } ((S.m, B) :: A.filter fun x => !J.contains x.1) a w' r (fun k => if F k then some (.fa S.m) else if ∃ j ∈ J, own k = some (.fa j) then none else own k) := by
 have hon := (h.heap n₀ t₀ cs₀ hm₀).2.2.1
 have hnm : ∀ k n, own k = some (.nm n) -> ¬ F k /\ ¬ ∃ j ∈ J, own k = some (.fa j) := fun k n hk => by
  have h2 : ¬ ∃ j ∈ J, own k = some (.fa j) := fun ⟨j, _, hj⟩ => by rw [hk] at hj; cases hj
  refine ⟨fun hFk => ?_, h2⟩
  rcases hF k hFk with h3 | h3
  · exact h2 h3
  · exact absurd (h.bnd k _ hk).1 (Nat.not_lt.2 h3.1)
 have hfa : ∀ k j, own k = some (.fa j) -> j ∉ J -> ¬ F k /\ ¬ ∃ j ∈ J, own k = some (.fa j) := fun k j hk hj => by
  have h2 : ¬ ∃ j ∈ J, own k = some (.fa j) := fun ⟨j', hj', hk'⟩ => by
   rw [hk] at hk'
   simp only [Option.some.injEq, Ent.fa.injEq] at hk'
   exact hj (hk' ▸ hj')
  refine ⟨fun hFk => ?_, h2⟩
  rcases hF k hFk with h3 | h3
  · exact h2 h3
  · exact absurd (h.bnd k _ hk).1 (Nat.not_lt.2 h3.1)
 refine ⟨h.dfr, h.sz, h.slot, h.slt, ?_, ?_, ?_, ?_, ?_, h.frm.trans hf ?_, h.rts⟩
 · intro m t' cs' hmm
   simp only [setN, List.mem_map] at hmm
   obtain ⟨⟨m0, t0, cs0⟩, hmem, he⟩ := hmm
   simp only [Prod.mk.injEq] at he
   obtain ⟨rfl, rfl, rfl⟩ := he
   obtain ⟨e1, e2, e3, vs, e4, e5, e6⟩ := h.heap m0 t0 cs0 hmem
   obtain ⟨f1, f2⟩ := hnm _ _ e3
   by_cases hmn : m0 = n₀
   · subst hmn
     simp only [if_true]
     exact ⟨e1, ltL_va _ _, by simp only [if_neg f1, if_neg f2]; exact e3, vs₀, by rw [hu₀ _ _ hmem]; exact hb₀, CL_va _, h1₀⟩
   · simp only [hmn, if_false]
     have hne : r m0 ≠ r n₀ := fun he => hmn (by rw [he, hon] at e3; simpa using e3.symm)
     exact ⟨e1, e2, by simp only [if_neg f1, if_neg f2]; exact e3, vs, by rw [hf.block _ (h.bnd _ _ e3).1 (fun hx => hx.elim hne f2)]; exact e4, e5, e6⟩
 · intro j B' hm
   rcases List.mem_cons.1 hm with he | hm
   · simp only [Prod.mk.injEq] at he
     obtain ⟨rfl, rfl⟩ := he
     refine ⟨Nat.lt_succ_self _, ?_⟩
     have : (fun k => (if F k then some (Ent.fa S.m) else if ∃ j ∈ J, own k = some (.fa j) then none else own k) = some (.fa S.m)) = F := by
      funext k
      apply propext
      by_cases hfk : F k
      · simp [hfk]
      · simp only [hfk, if_false, iff_false]
        intro hk
        split at hk
        · cases hk
        · exact absurd (h.fas k _ hk) (Nat.lt_irrefl _)
     rw [this]
     exact hB
   · simp only [List.mem_filter, Bool.not_eq_true', List.contains_eq_mem, decide_eq_false_iff_not] at hm
     obtain ⟨e1, e2⟩ := h.fact j B' hm.1
     refine ⟨Nat.lt_succ_of_lt e1, ?_⟩
     have : (fun k => (if F k then some (Ent.fa S.m) else if ∃ j ∈ J, own k = some (.fa j) then none else own k) = some (.fa j)) = (fun k => own k = some (.fa j)) := by
      funext k
      apply propext
      constructor
      · intro hk
        split at hk
        · simp only [Option.some.injEq, Ent.fa.injEq] at hk
          omega
        · split at hk
          · cases hk
          · exact hk
      · intro hk
        obtain ⟨f1, f2⟩ := hfa k j hk hm.2
        simp only [if_neg f1, if_neg f2]
        exact hk
     rw [this]
     exact B'.loc (fun k hk => hf.block k (h.bnd _ _ hk).1 (fun hx => hx.elim (fun he => by subst he; rw [hon] at hk; cases hk) (hfa k j hk hm.2).2)) e2
 · intro k e hk
   split at hk
   · rename_i hFk
     rcases hF k hFk with ⟨j, _, hj⟩ | h3
     · obtain ⟨b1, b2⟩ := h.bnd k _ hj
       exact ⟨Nat.lt_of_lt_of_le b1 hf.size, b2⟩
     · exact ⟨h3.2, .inl (Nat.le_trans h.frm.size h3.1)⟩
   · split at hk
     · cases hk
     · obtain ⟨b1, b2⟩ := h.bnd k _ hk
       exact ⟨Nat.lt_of_lt_of_le b1 hf.size, b2⟩
 · intro k n hk
   split at hk
   · cases hk
   · split at hk
     · cases hk
     · exact h.nms k n hk
 · intro k j hk
   show j < S.m + 1
   split at hk
   · simp only [Option.some.injEq, Ent.fa.injEq] at hk
     omega
   · split at hk
     · cases hk
     · exact Nat.lt_succ_of_lt (h.fas k j hk)
 · intro k hk hx
   rcases hx with rfl | ⟨j, _, hj⟩
   · rcases (h.bnd _ _ hon).2 with h2 | h2
     · omega
     · exact h2
   · rcases (h.bnd k _ hj).2 with h2 | h2
     · omega
     · exact h2
end
def St.putN (S : St) (n : Nat) (cs : List Value) (d : Option Tmp) (v : SV) : St := St.put { S with h := setN S.h n (cs.map .va), m := S.m + 1 } d v
def RetN {α : Type} (res : α -> SV) (φ : α -> Prop) (B : α -> Asn) (g t : Nat) (cs : α -> List Value) (M : Nat -> Prop) (w : World) (e : Ending) (w' : World) : Prop :=
 ∃ x, φ x /\ (∃ u, e = .returned u /\ ∀ r, (res x).ok r u) /\ Frm (fun k => k = g \/ M k) w w' /\ w'.heap[g]? = some (.cells (cs x).toArray t (0, 0)) /\ (∀ v ∈ cs x, v.oneCell' = true) /\
  ∃ F : Nat -> Prop, (∀ k, F k -> M k \/ (w.heap.size <= k /\ k < w'.heap.size)) /\ (B x).P w' F
section
variable {E : En} {S : St} {α : Type} {c : Call} {dst : Option Tmp} {ty : TypeId} {pos : String} {after : Array Edge} {guard : Option (Nat × Bool)}
theorem LS_callM {f : FuncId} {P : Program} (n t : Nat) (J : List Nat) (res : α -> SV) (φ : α -> Prop) (B : α -> Asn) (cs' : α -> List Value) {cs : List Cl} (hP : E.X.P = P) (hc : c.callee = .value (.func f)) (hf : callable P f = true) (hl : ∀ x, (res x).lt 0)
 (hk : (c.args.toList.all fun x => (ev S x).known) = true) (hm : (n, t, cs) ∈ S.h) (hu : ∀ t' cs', (n, t', cs') ∈ S.h -> t' = t)
 (hcall : ∀ a w r own, Sim E.X S E.A a w r own -> Calls P f ((c.args.toList.map fun x => (ev S x).den r).toArray) w (RetN res φ B (r n) t cs' (fun k => ∃ j ∈ J, own k = some (.fa j)) w)) :
 LS E S ⟨dst, .call c, ty, pos, after, guard⟩ [n] φ (fun x => S.putN n (cs' x) dst (res x)) (fun x => (S.m, B x) :: outF J E.A) := by
 intro a w r own hs K Q hK
 subst hP
 refine wp_of_calls hc hf rfl ?_
 rw [args_eval hs.toR hk]
 refine (hcall a w r own hs).mono fun e w' hr => ?_
 obtain ⟨x, hx, ⟨u, he, huu⟩, hfr, hb, h1, F, hF, hB⟩ := hr
 have h2 := hs.tradeM J hm hu hfr hb h1 hB hF
 have hh : (S.putN n (cs' x) dst (res x)).h = setN S.h n ((cs' x).map .va) /\ (S.putN n (cs' x) dst (res x)).n = S.n := put_h ..
 refine ⟨u, he, hK x hx _ _ _ _ (h2.put dst (huu r) (SV.lt_mono (Nat.zero_le _) (hl x))) ⟨fun _ _ => rfl, fun m t' cs0 hm' hn => hfr.block _ (hs.bnd _ _ (hs.heap m t' cs0 hm').2.2.1).1 ?_, hfr.size, by rw [hh.2]; exact Nat.le_refl _, fun x' hx' => ?_, fun x' hx' => ?_⟩⟩
 · have ho := (hs.heap m t' cs0 hm').2.2.1
   rintro (hk | ⟨j, _, hj⟩)
   · have ho' := (hs.heap n t cs hm).2.2.1
     rw [<- hk, ho] at ho'
     simp only [Option.some.injEq, Ent.nm.injEq] at ho'
     exact hn (by simp [ho'])
   · rw [ho] at hj; cases hj
 · rw [hh.1] at hx'
   obtain ⟨y, hy, rfl⟩ := List.mem_map.1 hx'
   exact .inl ⟨y, hy, rfl⟩
 · rw [hh.1]
   exact ⟨_, List.mem_map.2 ⟨x', hx', rfl⟩, rfl⟩
end
attribute [go_sem] St.putN setN
def tkN : List Nat -> Sch -> Sch
 | [], s => s
 | i :: l, s => .take i none (tkN l s)
def tkS : List Nat -> Sch -> Sch
 | [], s => s
 | i :: l, s => .take i (some []) (tkS l s)
attribute [go_sem] tkN tkS
def sch5_2 : Sch := tkS [0] <| tkN [2] <| .one 1 <| .one 3 <| .one 4 <| .done
def sch8_5 : Sch := tkS [0] <| tkN [1, 3] <| .two 2 (.one 4 <| .one 5 <| tkN [6] <| .two 7 (.one 8 <| .done) 8 (.one 7 <| .done)) 4 (.one 2 <| .one 5 <| tkN [6] <| .two 7 (.one 8 <| .done) 8 (.one 7 <| .done))
def sch9_6 : Sch := tkN [0, 1, 2] <| tkS [3] <| tkN [4, 5, 6] <| tkS [7] <| .one 8 <| tkN [9] <| .done
def sch10_6 : Sch := tkN [0, 1, 2, 3] <| tkS [4] <| tkN [5, 6, 7, 8, 9] <| tkS [10] <| .two 11 (tkN [12] <| .one 13 <| .one 14 <| .done) 13 (.one 11 <| tkN [12] <| .one 14 <| .done)
def sch17_7 : Sch := tkN [0] <| tkS [1] <| tkN [2] <| .one 3 <| .one 4 <| .one 5 <| tkN [6] <| .one 7 <| .done
def sch17_14 : Sch := tkN [0, 1, 2] <| tkS [3] <| tkN [4, 5, 6, 7] <| tkS [8] <| tkN [9, 10] <| .done
def sch17_15 : Sch := tkN [0] <| tkS [1] <| tkN [2, 3, 4, 5] <| tkS [6] <| tkN [7, 8] <| tkS [9] <| .one 10 <| tkN [11, 12] <| .one 13 <| .done
def sch17_16 : Sch := tkN [0, 1, 2] <| tkS [3] <| tkN [4, 5, 6, 7] <| tkS [8] <| tkN [9, 10] <| .done
def sch17_17 : Sch := tkN [0] <| tkS [1] <| tkN [2, 3, 4, 5] <| tkS [6] <| tkN [7, 8] <| tkS [9] <| tkN [10, 11] <| tkS [12] <| .one 13 <| tkN [14, 15] <| .one 16 <| .done
def sch19_4 : Sch := tkN [0, 1, 2] <| tkS [3] <| tkN [4] <| tkS [5] <| tkN [6, 7] <| tkS [8] <| tkN [9, 10, 11, 12, 13] <| tkS [14] <| tkN [15, 16, 17] <| tkS [18] <| tkN [19] <| .one 20 <| .done
def sch19_12 : Sch := tkN [0] <| tkS [1] <| tkN [2, 3, 8] <| .one 4 <| tkN [5] <| .one 6 <| tkN [7] <| .one 9 <| tkN [10] <| .one 11 <| .done
def sch19_16 : Sch := tkN [0, 1, 2, 3] <| tkS [4] <| tkN [5] <| tkS [6] <| .one 7 <| .one 8 <| tkN [9, 10] <| .one 11 <| .done
def sch21_3 : Sch := tkN [0] <| tkS [1] <| tkN [2, 3, 4, 8] <| .one 5 <| .one 6 <| .two 7 (.one 9 <| tkN [10] <| .one 11 <| .done) 9 (.one 7 <| tkN [10] <| .one 11 <| .done)
def sch21_6 : Sch := tkN [0] <| tkS [1] <| tkN [2] <| .two 3 (.two 4 (.one 5 <| .one 6 <| .done) 5 (.one 4 <| .one 6 <| .done)) 5 (.one 3 <| .one 4 <| .one 6 <| .done)
def sch21_13 : Sch := tkN [0] <| tkS [1] <| tkN [2] <| .two 3 (.two 4 (.one 5 <| .one 6 <| .done) 5 (.one 4 <| .one 6 <| .done)) 5 (.one 3 <| .one 4 <| .one 6 <| .done)
def sch21_15 : Sch := tkS [0] <| tkN [1] <| tkS [2] <| .one 3 <| .one 4 <| tkN [5] <| .one 6 <| .done
def sch26_1 : Sch := tkN [0] <| tkS [1] <| tkN [2] <| tkS [3] <| tkN [6] <| tkS [7] <| tkN [8] <| tkS [9] <| tkN [11] <| tkS [12] <| .one 4 <| tkN [5] <| .one 10 <| tkN [13] <| .one 14 <| tkN [15] <| .done
def sch27_23 : Sch := tkN [0, 1] <| tkS [2] <| tkN [3] <| tkS [4] <| .one 5 <| .one 6 <| tkN [7] <| .done
def sch27_24 : Sch := tkN [0, 1] <| tkS [2] <| tkN [3, 4, 5] <| tkS [6] <| .one 7 <| tkN [8, 9] <| .one 10 <| .done
def sch27_36 : Sch := tkN [0, 1] <| tkS [2] <| tkN [5] <| .one 3 <| .one 4 <| .one 6 <| .one 7 <| tkN [8, 9] <| .one 10 <| tkN [11, 12] <| .one 13 <| .done
def sch27_48 : Sch := tkN [0, 1, 2, 3] <| tkS [4] <| tkN [5] <| tkS [6] <| tkN [7, 8] <| tkS [9] <| .one 10 <| .one 11 <| .one 12 <| tkN [13, 14] <| .one 15 <| .done
def sch27_55 : Sch := tkN [0] <| tkS [1] <| tkN [2, 3, 4] <| tkS [5] <| .one 6 <| tkN [7] <| .done
def sch29_7 : Sch := tkN [0, 1, 2] <| tkS [3] <| tkN [4, 5, 6] <| tkS [7] <| tkN [8, 9, 10, 11, 12, 13, 14, 15] <| .one 16 <| tkN [17] <| .one 18 <| .done
def sch29_14 : Sch := tkN [0, 1, 2] <| tkS [3] <| tkN [4, 5, 6] <| tkS [7] <| .one 8 <| tkN [9, 10] <| .one 11 <| .done
def sch29_17 : Sch := tkN [0, 1, 2] <| tkS [3] <| tkN [4, 5, 6] <| tkS [7] <| .one 8 <| tkN [9, 10] <| .one 11 <| .done
def sch29_20 : Sch := tkN [0, 1, 2] <| tkS [3] <| tkN [4, 5, 6] <| tkS [7] <| .one 8 <| tkN [9, 10] <| .one 11 <| .done
def sch29_23 : Sch := tkN [0, 1, 2] <| tkS [3] <| tkN [4, 5, 6] <| tkS [7] <| .one 8 <| tkN [9, 10] <| .one 11 <| .done
def sch29_29 : Sch := tkN [0, 1, 2] <| tkS [3] <| tkN [4, 5, 6] <| tkS [7] <| tkN [8, 9] <| .one 10 <| .done
def sch29_37 : Sch := tkN [0, 1, 2] <| tkS [3] <| tkN [4, 5] <| tkS [6] <| tkN [7, 8, 9, 10, 11, 13] <| .two 12 (.one 14 <| tkN [15] <| .done) 14 (.one 12 <| tkN [15] <| .done)
def sch29_40 : Sch := tkN [0, 1, 2] <| tkS [3] <| tkN [4, 5, 6] <| tkS [7] <| tkN [8, 9, 10, 11] <| .one 12 <| tkN [13, 14] <| .one 15 <| tkN [16] <| .one 17 <| .done
def sch29_48 : Sch := tkN [0, 1, 2] <| tkS [3] <| tkN [4, 5, 6] <| tkS [7] <| .one 8 <| .one 9 <| tkN [10, 11] <| .done
def sch29_51 : Sch := tkN [0, 1, 2] <| tkS [3] <| tkN [4, 5, 6] <| tkS [7] <| tkN [8, 9, 10, 11] <| .one 12 <| tkN [13, 14] <| .one 15 <| tkN [16] <| .one 17 <| .done
def sch29_52 : Sch := tkN [0, 1, 2] <| tkS [3] <| tkN [4, 5, 6] <| tkS [7] <| .one 8 <| .one 9 <| tkN [10] <| .done
def sch29_55 : Sch := tkN [0, 1, 2] <| tkS [3] <| tkN [4, 5, 6] <| tkS [7] <| tkN [8, 9, 10, 11, 13, 14, 15, 16] <| .one 12 <| tkN [17, 18] <| .one 19 <| tkN [20] <| .one 21 <| tkN [22] <| .done
def sch29_58 : Sch := tkN [0, 1, 2] <| tkS [3] <| tkN [4, 5, 6] <| tkS [7] <| tkN [9, 10, 11, 12, 13, 14, 15, 16] <| .two 8 (.one 17 <| .one 18 <| tkN [19, 20] <| .one 21 <| tkN [22] <| .done) 17 (.one 8 <| .one 18 <| tkN [19, 20] <| .one 21 <| tkN [22] <| .done)
def sch29_61 : Sch := tkN [0, 1, 2] <| tkS [3] <| tkN [4, 5, 6] <| tkS [7] <| tkN [9, 10, 11, 12] <| .two 8 (.one 13 <| .one 14 <| tkN [15, 16] <| .one 17 <| tkN [18] <| .done) 13 (.one 8 <| .one 14 <| tkN [15, 16] <| .one 17 <| tkN [18] <| .done)
def sch29_64 : Sch := tkN [0, 1, 2] <| tkS [3] <| tkN [4, 5, 6] <| tkS [7] <| tkN [9, 10, 11, 12, 15, 16, 17, 18] <| .two 8 (.one 13 <| .one 14 <| .one 19 <| tkN [20, 21] <| .one 22 <| tkN [23] <| .done) 13 (.one 8 <| .one 14 <| .one 19 <| tkN [20, 21] <| .one 22 <| tkN [23] <| .done)
def sch29_67 : Sch := tkN [0, 1, 2] <| tkS [3] <| tkN [4, 5, 6] <| tkS [7] <| .one 8 <| .one 9 <| tkN [10, 11] <| .done
def sch29_77 : Sch := tkN [0, 1, 2] <| tkS [3] <| tkN [4, 5, 6, 7, 8, 9, 10, 11, 12, 14] <| .one 13 <| .one 15 <| tkN [16] <| .one 17 <| tkN [18] <| .one 19 <| tkN [20] <| .one 21 <| .done
def sch31_6 : Sch := tkN [0, 1, 2] <| tkS [3] <| tkN [4, 5, 6] <| tkS [7] <| tkN [8] <| .done
def sch37_9 : Sch := tkN [0, 1] <| tkS [2] <| tkN [3, 4] <| tkS [5, 6] <| tkN [7] <| .two 8 (.one 9 <| .one 10 <| .done) 9 (.one 8 <| .one 10 <| .done)
def sch37_10 : Sch := tkN [0] <| tkS [1, 2] <| tkN [3, 4] <| tkS [5] <| tkN [6, 7, 8] <| tkS [9] <| tkN [10, 11, 12] <| tkS [13] <| tkN [14] <| .one 15 <| .one 16 <| .one 17 <| tkN [18] <| .one 19 <| .done
def sch37_11 : Sch := tkN [0, 1] <| tkS [2] <| tkN [3, 4] <| tkS [5] <| tkN [6, 7, 8] <| tkS [9] <| tkN [10] <| .two 11 (.one 12 <| .one 13 <| .done) 12 (.one 11 <| .one 13 <| .done)
def sch41_1 : Sch := tkN [0] <| tkS [1] <| tkN [2] <| .two 3 (.two 4 (.one 5 <| .one 6 <| .done) 5 (.one 4 <| .one 6 <| .done)) 5 (.one 3 <| .one 4 <| .one 6 <| .done)
def sch41_8 : Sch := tkN [0, 1, 2, 3] <| .one 4 <| tkN [5] <| .one 6 <| tkN [7] <| .one 8 <| tkN [9] <| .one 10 <| .done
def sch41_11 : Sch := tkN [0] <| tkS [1] <| tkN [2] <| .one 3 <| .one 4 <| .one 5 <| tkN [6] <| .one 7 <| .done
def sch42_10 : Sch := tkN [0] <| tkS [1] <| tkN [2] <| tkS [3] <| .one 4 <| .one 5 <| .one 6 <| tkN [7] <| .one 8 <| .done
def sch42_21 : Sch := tkS [0] <| tkN [1, 2] <| tkS [3] <| tkN [4, 5, 6] <| tkS [7] <| .one 8 <| .one 9 <| tkN [10] <| .one 11 <| .done
def sch55_1 : Sch := tkN [0] <| tkS [1] <| tkN [2] <| tkS [3] <| tkN [4] <| tkS [5] <| tkN [6] <| tkS [7] <| .one 8 <| tkN [9] <| .one 10 <| .one 11 <| tkN [12] <| .done
def sch60_6 : Sch := tkN [0] <| tkS [1] <| tkN [2] <| tkS [3] <| .one 4 <| .one 5 <| tkN [6] <| .done
def sch62_5 : Sch := tkN [0] <| tkS [1] <| tkN [2] <| tkS [3] <| tkN [4] <| tkS [5] <| tkN [6, 7, 9] <| tkS [10] <| .two 8 (.one 11 <| .one 12 <| .one 13 <| tkN [14] <| .done) 11 (.two 8 (.one 12 <| .one 13 <| tkN [14] <| .done) 12 (.one 8 <| .one 13 <| tkN [14] <| .done))
def sch62_6 : Sch := tkN [0, 1, 2] <| tkS [3] <| tkN [4, 5, 6] <| .one 7 <| tkN [8, 9] <| .one 10 <| tkN [11, 12] <| .one 13 <| .done
def sch63_5 : Sch := tkN [0, 1, 2, 3] <| tkS [4, 5] <| .one 6 <| .one 7 <| .one 8 <| tkN [9, 10] <| .one 11 <| .done
def sch63_6 : Sch := tkN [0, 1, 2, 3] <| tkS [4] <| tkN [5] <| tkS [6] <| tkN [7] <| tkS [8] <| .one 9 <| .one 10 <| .one 11 <| .one 12 <| tkN [13, 14] <| .one 15 <| .done
def sch63_8 : Sch := tkN [0, 1] <| tkS [2] <| tkN [3, 4, 5] <| tkS [6] <| .one 7 <| tkN [8, 9] <| .one 10 <| .done
def sch76_4 : Sch := tkN [0, 1, 2] <| tkS [3] <| tkN [4, 5, 6] <| tkS [7] <| tkN [8, 9, 10] <| tkS [11] <| tkN [12, 13, 14] <| tkS [15] <| tkN [16, 17, 18] <| tkS [19] <| tkN [20] <| .one 21 <| .done
def sch83_1 : Sch := tkN [0, 1] <| tkS [3] <| .one 2 <| tkN [4] <| .one 5 <| tkN [6] <| .done
def sch88_14 : Sch := tkN [0, 1, 2, 3, 4, 5, 6, 7, 8] <| .done
def sch88_38 : Sch := tkN [0, 1, 2, 3] <| .one 4 <| .one 5 <| tkN [6, 7, 8, 9, 10] <| .done
def sch88_74 : Sch := tkN [0, 1, 2, 3] <| .one 4 <| .one 5 <| tkN [6, 7, 8, 9, 10] <| .done
def sch88_90 : Sch := tkN [0, 1, 2, 3, 4, 5, 6, 7, 8] <| tkS [9] <| tkN [10, 11, 12] <| tkS [13] <| tkN [14, 15] <| .one 16 <| tkN [17] <| .done
def sch91_7 : Sch := tkN [0, 1, 2, 3, 4, 5, 6, 7] <| tkS [8] <| tkN [9, 10, 11] <| .one 12 <| tkN [13] <| .one 14 <| .done
def sch91_8 : Sch := tkN [0, 1, 2, 3, 4, 5, 6, 7] <| tkS [8] <| tkN [9, 10, 11] <| .one 12 <| tkN [13] <| .one 14 <| .done
def sch91_9 : Sch := tkN [0, 1, 2, 3, 4, 5, 6, 7] <| tkS [8] <| tkN [9, 10, 11] <| .one 12 <| tkN [13] <| .one 14 <| .done
def sch91_10 : Sch := tkN [0, 1, 2, 3, 4, 5, 6, 7] <| tkS [8] <| tkN [9, 10, 11] <| .one 12 <| tkN [13] <| .one 14 <| .done
def sch91_17 : Sch := tkN [0, 1, 2, 3, 4, 5, 6, 7] <| tkS [8] <| tkN [9, 10, 11] <| .one 12 <| tkN [13] <| .one 14 <| .done
def sch91_18 : Sch := tkN [0, 1, 2, 3, 4, 5, 6, 7] <| tkS [8] <| tkN [9, 10, 11] <| .one 12 <| tkN [13] <| .one 14 <| .done
def sch91_23 : Sch := tkN [0, 1, 2, 3, 4, 5, 6, 7] <| tkS [8] <| tkN [9, 10, 11] <| .one 12 <| tkN [13] <| .one 14 <| .done
def sch151_25 : Sch := tkN [0, 1, 2, 3] <| tkS [4] <| tkN [5, 6] <| tkS [7] <| tkN [8, 9, 10] <| .one 11 <| .done
def sch152_13 : Sch := tkN [0, 1, 2] <| tkS [3, 4] <| tkN [5, 6] <| .done
def sch152_15 : Sch := tkS [0] <| tkN [1, 2, 3] <| tkS [4] <| tkN [5] <| tkS [6] <| tkN [7] <| .done
def sch152_20 : Sch := tkN [0, 1, 2] <| tkS [3] <| tkN [4] <| tkS [5] <| tkN [6, 7] <| .done
def sch152_22 : Sch := tkS [0] <| tkN [1, 2, 3] <| tkS [4] <| tkN [5, 6] <| tkS [7] <| tkN [8] <| .done
def sch152_30 : Sch := tkN [0, 1, 2, 3] <| tkS [4] <| tkN [5, 6, 7, 8] <| tkS [9] <| tkN [10, 11, 12] <| .done
def sch152_36 : Sch := tkN [0, 1, 2, 3] <| tkS [4] <| tkN [5, 6, 7, 8] <| tkS [9] <| tkN [10, 11, 12] <| .done
def sch152_40 : Sch := tkN [0, 1, 2] <| tkS [3] <| tkN [4, 5, 6, 7, 8] <| tkS [9] <| tkN [10, 11] <| .done
def sch152_43 : Sch := tkN [0, 1, 2, 3, 4] <| tkS [5] <| tkN [6, 7, 8, 9] <| tkS [10] <| tkN [11, 12, 13, 14, 15, 16, 17] <| tkS [18] <| tkN [19, 20, 21] <| .done
def sch152_45 : Sch := tkN [0, 1, 2, 3] <| tkS [4] <| tkN [5, 6, 7, 8] <| tkS [9] <| tkN [10, 11, 12] <| .done
def sch164_7 : Sch := tkN [0, 1, 2, 3, 4, 5, 6] <| .one 7 <| tkN [8, 9] <| .done
def sch172_1 : Sch := tkN [0, 1, 2, 3, 4, 5] <| tkS [6] <| tkN [7] <| tkS [8] <| tkN [9, 10, 11] <| tkS [12] <| .one 13 <| .done
def sch195_6 : Sch := tkN [0, 1, 2] <| tkS [3] <| tkN [4, 5] <| tkS [6] <| tkN [7] <| .done
def sch195_7 : Sch := tkN [0, 1, 2] <| tkS [3] <| tkN [4, 5] <| tkS [6] <| tkN [7, 8] <| .done
def sch218_1 : Sch := tkN [0, 1, 2] <| tkS [3] <| tkN [4] <| .one 5 <| tkN [6] <| .done
attribute [go_sem] sch5_2 sch8_5 sch9_6 sch10_6 sch17_7 sch17_14 sch17_15 sch17_16 sch17_17 sch19_4 sch19_12 sch19_16 sch21_3 sch21_6 sch21_13 sch21_15 sch26_1 sch27_23 sch27_24 sch27_36 sch27_48 sch27_55 sch29_7 sch29_14 sch29_17 sch29_20 sch29_23 sch29_29 sch29_37 sch29_40 sch29_48 sch29_51 sch29_52 sch29_55 sch29_58 sch29_61 sch29_64 sch29_67 sch29_77 sch31_6 sch37_9 sch37_10 sch37_11 sch41_1 sch41_8 sch41_11 sch42_10 sch42_21 sch55_1 sch60_6 sch62_5 sch62_6 sch63_5 sch63_6 sch63_8 sch76_4 sch83_1 sch88_14 sch88_38 sch88_74 sch88_90 sch91_7 sch91_8 sch91_9 sch91_10 sch91_17 sch91_18 sch91_23 sch151_25 sch152_13 sch152_15 sch152_20 sch152_22 sch152_30 sch152_36 sch152_40 sch152_43 sch152_45 sch164_7 sch172_1 sch195_6 sch195_7 sch218_1
def rtOf : Nat -> List Nat -> List (Nat × Nat)
 | _, [] => []
 | i, g :: l => (i, g) :: rtOf (i + 1) l
theorem rtOf_mem : ∀ {i : Nat} {l : List Nat} {n g : Nat}, (n, g) ∈ rtOf i l -> i <= n /\ l[n - i]? = some g
 | i, x :: l, n, g, h => by
   rcases List.mem_cons.1 h with he | h
   · simp only [Prod.mk.injEq] at he
     obtain ⟨rfl, rfl⟩ := he
     exact ⟨Nat.le_refl _, by simp⟩
   · obtain ⟨h1, h2⟩ := rtOf_mem h
     refine ⟨by omega, ?_⟩
     rw [show n - i = (n - (i + 1)) + 1 by omega]
     simpa using h2
def HpOk (w : World) (gs : List Nat) : Heap -> Prop
 | [] => True
 | x :: l => (x.1 < gs.length /\ ltL gs.length x.2.2 /\ ∃ vs : List Value, w.heap[gs.getD x.1 0]? = some (.cells vs.toArray x.2.1 (0, 0)) /\ CL (fun n => gs.getD n 0) x.2.2 vs /\ ∀ v, v ∈ vs -> v.oneCell' = true) /\ HpOk w gs l
theorem HpOk_mem {w : World} {gs : List Nat} : ∀ {h : Heap}, HpOk w gs h -> ∀ n t cs, (n, t, cs) ∈ h -> n < gs.length /\ ltL gs.length cs /\ ∃ vs : List Value, w.heap[gs.getD n 0]? = some (.cells vs.toArray t (0, 0)) /\ CL (fun n => gs.getD n 0) cs vs /\ ∀ v, v ∈ vs -> v.oneCell' = true
 | _ :: _, h, n, t, cs, hm => by
   rcases List.mem_cons.1 hm with rfl | hm
   · exact h.1
   · exact HpOk_mem h.2 n t cs hm
theorem CL_of_den {r : Nat -> Nat} (cs : List Cl) : CL r cs (cs.map (Cl.den r)) := by
 refine ⟨by simp, fun i c hc => ?_⟩
 rw [List.getD_eq_getElem?_getD, List.getElem?_map, hc]
 exact .inr rfl
theorem TV_den_ok (r : Nat -> Nat) (t : TV) : t.ok r (t.den r) := by
 cases t with
 | sc c => exact .inr rfl
 | ag l => exact ⟨_, rfl, CL_of_den l⟩
theorem SV_den_ok (r : Nat -> Nat) (s : SV) : s.ok r (s.den r) := by
 cases s with
 | sc c => exact .inr rfl
 | ag l => exact ⟨_, rfl, CL_of_den l⟩
 | tu l =>
   refine ⟨_, rfl, by simp, fun i t ht => ?_⟩
   rw [List.getD_eq_getElem?_getD, List.getElem?_map, ht]
   exact TV_den_ok r t
def ArgsOk (gs : List Nat) : List SV -> List Value -> Prop
 | [], [] => True
 | s :: ss, v :: vs => (v = s.den (fun n => gs.getD n 0) /\ s.ltb gs.length = true) /\ ArgsOk gs ss vs
 | _, _ => False
theorem ArgsOk_spec {gs : List Nat} : ∀ {ss : List SV} {vs : List Value}, ArgsOk gs ss vs -> ss.length = vs.length /\ ∀ (i : Nat) (s : SV), ss[i]? = some s -> s.ok (fun n => gs.getD n 0) (vs.getD i undef) /\ s.lt gs.length
 | [], [], _ => ⟨rfl, fun i s hs => by simp at hs⟩
 | [], _ :: _, h => h.elim
 | _ :: _, [], h => h.elim
 | x :: xs, y :: ys, h => by
   obtain ⟨⟨h1, h2⟩, h3⟩ := h
   obtain ⟨i1, i2⟩ := ArgsOk_spec h3
   refine ⟨by simp [i1], fun i s hs => ?_⟩
   cases i with
   | zero =>
     obtain rfl : x = s := by simpa using hs
     subst h1
     exact ⟨SV_den_ok _ _, SV.ltb_ok h2⟩
   | succ i => exact i2 i s (by simpa using hs)
theorem HpOk_one {w : World} {g t : Nat} {cs : List Value} (hg : w.heap[g]? = some (.cells cs.toArray t (0, 0))) (h1 : cs.all Value.oneCell' = true) : HpOk w [g] [(0, t, cs.map .va)] :=
 ⟨⟨Nat.lt_succ_self 0, ltL_va _ _, cs, hg, CL_va _, fun v hv => List.all_eq_true.1 h1 v hv⟩, trivial⟩
def startG (svs : List SV) (h : Heap) (n : Nat) (k : Nat) : St := ⟨svs ++ List.replicate k undefSV, h, n, 0⟩
theorem calls_startG {P : Program} {f : FuncId} {fn : Func} {c : Code} {args : List Value} {w : World} {R : Ending -> World -> Prop} (n : Nat) (gs : List Nat) (hp : Heap) (svs : List SV)
 (hf : P.funcs[f]? = some fn) (hb : fn.body = some c) (hargs' : ArgsOk gs svs args)
 (hnd : gs.Nodup) (hh : HpOk w gs hp)
 (h : ∀ E : En, E.X = ⟨P, w, fun k => k ∈ gs, [], rtOf 0 gs⟩ -> E.X.P = P -> E.A = [] -> E.Q = bodyPost P fn R -> vc E n c .nil (startG svs hp gs.length (fn.ntmps - args.length))) : Calls P f args.toArray w R := by
 obtain ⟨hlen, hargs⟩ := ArgsOk_spec hargs'
 refine calls_of_wp hf hb ?_
 replace h := h ⟨⟨P, w, fun k => k ∈ gs, [], rtOf 0 gs⟩, [], bodyPost P fn R⟩ rfl rfl rfl rfl
 have hfr := frame_ok (vs := args) (svs := svs) (r := fun n => gs.getD n 0) (b := gs.length) (k := fn.ntmps - args.length) hlen hargs
 have hown : ∀ n, n < gs.length -> gs.idxOf (gs.getD n 0) = n := fun n hn => by
  rw [List.getD_eq_getElem?_getD, List.getElem?_eq_getElem hn]
  exact hnd.idxOf_getElem n hn
 have hmem : ∀ n, n < gs.length -> gs.getD n 0 ∈ gs := fun n hn => by
  rw [List.getD_eq_getElem?_getD, List.getElem?_eq_getElem hn]
  exact List.getElem_mem hn
 have := vc_ok n c .nil _ h { tmps := args.toArray ++ Array.replicate (fn.ntmps - args.toArray.size) undef, defers := [] } w (fun n => gs.getD n 0) (fun k => if k ∈ gs /\ k < w.heap.size then some (.nm (gs.idxOf k)) else none)
  ⟨rfl, by simpa [startG] using hfr.1, by simpa [startG] using hfr.2.1, hfr.2.2, (fun m t cs hm => by
   obtain ⟨e1, e2, vs, e3, e4, e5⟩ := HpOk_mem hh m t cs hm
   refine ⟨e1, e2, ?_, vs, e3, e4, e5⟩
   show (if gs.getD m 0 ∈ gs /\ gs.getD m 0 < w.heap.size then some (Ent.nm (gs.idxOf (gs.getD m 0))) else none) = some (Ent.nm m)
   rw [if_pos ⟨hmem m e1, (Array.getElem?_eq_some_iff.1 e3).1⟩, hown m e1]),
  fun _ _ hm => (by cases hm),
  (fun k e hk => by
    by_cases hkg : k ∈ gs /\ k < w.heap.size
    · exact ⟨hkg.2, .inr hkg.1⟩
    · simp [hkg] at hk),
  (fun k m hk => by
    by_cases hkg : k ∈ gs /\ k < w.heap.size
    · simp only [hkg, and_self, if_true, Option.some.injEq, Ent.nm.injEq] at hk
      subst hk
      exact List.idxOf_lt_length_iff.2 hkg.1
    · simp [hkg] at hk),
  (fun k j hk => by
    by_cases hkg : k ∈ gs /\ k < w.heap.size
    · simp [hkg] at hk
    · simp [hkg] at hk), Frm.refl _ _, (fun m g hm => by
    obtain ⟨_, h2⟩ := rtOf_mem hm
    rw [Nat.sub_zero] at h2
    exact ⟨(List.getElem?_eq_some_iff.1 h2).1, by rw [List.getD_eq_getElem?_getD, h2]; rfl⟩)⟩
 simpa [kq] using this
theorem frm_back {P : Program} {w0 : World} {gs : List Nat} {S : St} {A : Facts} {a : Act} {w : World} {r : Nat -> Nat} {own : Nat -> Option Ent} (h : Sim ⟨P, w0, fun k => k ∈ gs, [], rtOf 0 gs⟩ S A a w r own) (hp : Heap) (hh : HpOk w0 gs hp) (hk : (hp.all fun x => x.2.2.all Cl.known) = true)
 (hs : ∀ x, x ∈ hp -> x ∈ S.h) (hall : ∀ n, n < gs.length -> ∃ x, x ∈ hp /\ x.1 = n) : Frm (fun _ => False) w0 w := by
 refine ⟨h.frm.os, h.frm.tape, h.frm.output, h.frm.size, fun k hk' _ => ?_⟩
 by_cases hkg : k ∈ gs
 · obtain ⟨n, hn⟩ := List.getElem?_of_mem hkg
   have hnl := (List.getElem?_eq_some_iff.1 hn).1
   obtain ⟨⟨n', t, cs⟩, hx, rfl⟩ := hall n hnl
   have hr : ∀ m, m < gs.length -> r m = gs.getD m 0 := fun m hm => by
    obtain ⟨g, hg⟩ : ∃ g, gs[m]? = some g := ⟨_, List.getElem?_eq_getElem hm⟩
    have hmm : ∀ (i : Nat) (l : List Nat) (m : Nat), l[m]? = some g -> (i + m, g) ∈ rtOf i l := by
     intro i l
     induction l generalizing i with
     | nil => intro m hm; simp at hm
     | cons x l ih =>
       intro m hm
       cases m with
       | zero =>
         obtain rfl : x = g := by simpa using hm
         exact List.mem_cons_self ..
       | succ m =>
         have := ih (i + 1) m (by simpa using hm)
         rw [show i + 1 + m = i + (m + 1) by omega] at this
         exact List.mem_cons_of_mem _ this
    have := (h.rts m g (by simpa using hmm 0 gs m hg)).2
    rw [this, List.getD_eq_getElem?_getD, hg]
    rfl
   obtain ⟨e1, e2, vs, e3, e4, e5⟩ := HpOk_mem hh n' t cs hx
   obtain ⟨_, _, _, vs', e6, e7, _⟩ := h.heap n' t cs (hs _ hx)
   have hkc : cs.all Cl.known = true := List.all_eq_true.1 hk _ hx
   have hv := CL_den hkc e4
   have hv' := CL_den hkc e7
   have heq : cs.map (Cl.den r) = cs.map (Cl.den fun n => gs.getD n 0) := by
    refine List.map_congr_left fun c hc => ?_
    have := e2 c hc
    cases c with
    | un => rfl
    | va v => rfl
    | pt m o => simp only [Cl.den, hr m this]
    | ic t m o => simp only [Cl.den, hr m this]
    | sl m o l c => simp only [Cl.den, hr m this]
   have hrk : r n' = k := by
    rw [hr n' e1, List.getD_eq_getElem?_getD, hn]
    rfl
   rw [hrk] at e6
   have hgk : gs.getD n' 0 = k := by rw [List.getD_eq_getElem?_getD, hn]; rfl
   rw [hgk] at e3
   rw [e6, e3, hv, hv', heq]
 · exact h.frm.block k hk' hkg
theorem En_eq : ∀ E E' : En, E'.X = E.X -> E'.A = E.A -> E'.Q = E.Q -> E' = E
 | ⟨_, _, _⟩, ⟨_, _, _⟩, h1, h2, h3 => by
   simp only at h1 h2 h3
   subst h1 h2 h3
   rfl
def RetS (sv : SV) (w : World) (e : Ending) (w' : World) : Prop := (∃ u, e = .returned u /\ ∀ r, sv.ok r u) /\ Frm (fun _ => False) w w'
theorem retS_va (v : Value) {w w' : World} (h : Frm (fun _ => False) w w') : RetS (.sc (.va v)) w (.returned v) w' := ⟨⟨v, rfl, fun r => .inr rfl⟩, h⟩
theorem retS_ag (l : List Value) {w w' : World} (h : Frm (fun _ => False) w w') : RetS (.ag (l.map .va)) w (.returned (.agg l.toArray)) w' := ⟨⟨_, rfl, fun r => ⟨l, rfl, CL_va l⟩⟩, h⟩
section
variable {E : En} {ops l : List Oper} {k : Kt} {S : St} {c : Call} {dst : Option Tmp} {ty : TypeId} {pos : String} {after : Array Edge} {guard : Option (Nat × Bool)}
theorem WO_callS {f : FuncId} {P : Program} (n : Nat) (sv : SV) (hP : E.X.P = P) (hc : c.callee = .value (.func f)) (hf : callable P f = true)
 (hk : (c.args.toList.all fun x => (ev S x).known) = true) (hl : sv.ltb 0 = true)
 (hcall : ∀ a w r own, Sim E.X S E.A a w r own -> Calls P f ((c.args.toList.map fun x => (ev S x).den r).toArray) w (RetS sv w))
 (h : vl E n ops l k (S.put dst sv)) : WO E ops ⟨dst, .call c, ty, pos, after, guard⟩ l k S :=
 WO_call0 n (fun _ : Unit => sv) (fun _ => True) hP hc hf (fun _ => SV.ltb_ok hl) hk (fun a w r own hs => (hcall a w r own hs).mono fun _ _ h => ⟨(), trivial, h.1, h.2⟩) fun _ _ => h
theorem WD_callS {f : FuncId} {P : Program} (n : Nat) (sv : SV) {g : Rg} {i : Nat} {s : Sch} (hQ : QP E.Q) (hP : E.X.P = P) (hc : c.callee = .value (.func f)) (hf : callable P f = true)
 (hk : (c.args.toList.all fun x => (ev S x).known) = true) (hl : sv.ltb 0 = true)
 (hcall : ∀ a w r own, Sim E.X S E.A a w r own -> Calls P f ((c.args.toList.map fun x => (ev S x).den r).toArray) w (RetS sv w))
 (h : vd E n g k s (S.put dst sv)) : WD E g k i ⟨dst, .call c, ty, pos, after, guard⟩ s S := by
 refine WD_LS n hQ (LS_call0 (fun _ : Unit => sv) (fun _ => True) hP hc hf (fun _ => SV.ltb_ok hl) hk (fun a w r own hs => (hcall a w r own hs).mono fun _ _ h => ⟨(), trivial, h.1, h.2⟩)) (fun _ _ _ h => by cases h) (fun _ _ E' h1 h2 h3 => ?_)
 rw [En_eq E E' h1 h2 h3]
 exact h
end
attribute [go_sem] List.map List.all List.toList_toArray startG
def forget : List SV -> List Nat -> List SV
 | l, [] => l
 | l, m :: ms => forget (upd l m (.sc .un)) ms
def over : List SV -> List (Nat × SV) -> List SV
 | l, [] => l
 | l, x :: xs => over (upd l x.1 x.2) xs
theorem forget_mem : ∀ {l : List SV} {ms : List Nat} {s : SV}, s ∈ forget l ms -> s = .sc .un \/ s ∈ l
 | l, [], s, h => .inr h
 | l, m :: ms, s, h => by
   rcases forget_mem (l := upd l m (.sc .un)) h with h | h
   · exact .inl h
   · exact upd_mem h
theorem over_mem : ∀ {l : List SV} {xs : List (Nat × SV)} {s : SV}, s ∈ over l xs -> s ∈ l \/ ∃ x ∈ xs, x.2 = s
 | l, [], s, h => .inl h
 | l, x :: xs, s, h => by
   rcases over_mem (l := upd l x.1 x.2) h with h | ⟨y, hy, e⟩
   · rcases upd_mem h with rfl | h
     · exact .inr ⟨x, List.mem_cons_self .., rfl⟩
     · exact .inl h
   · exact .inr ⟨y, List.mem_cons_of_mem _ hy, e⟩
section
variable {E : En} {k : Kt} {S : St} {X : Cx}
theorem WC_loopF {ι : Type} {b : Code} (φ : ι -> Prop) (ms : List Nat) (f : ι -> List (Nat × SV)) (μ : ι -> Nat) (i0 : ι) (h0 : φ i0) (hX : E.X = X)
 (hin : leT (over (forget S.t ms) (f i0)) S.t) (hf : ∀ i, φ i -> ((f i).all fun x => x.2.ltb S.n) = true)
 (round : ∀ i, φ i -> ∀ E' : En, E'.X = X -> E'.A = E.A -> E'.Q = E.Q -> ∀ J : Act -> World -> Prop, (∀ j, φ j -> μ j < μ i -> ∀ a w r own, Sim X { S with t := over (forget S.t ms) (f j) } E.A a w r own -> J a w) ->
   WC E' b (.lp J k) { S with t := over (forget S.t ms) (f i) }) : WC E (.loop b) k S := by
 subst hX
 refine WC_loop_in φ (fun i => { S with t := over (forget S.t ms) (f i) }) (fun _ => E.A) μ i0 h0 ?_ round
 intro a w r own hs
 refine ⟨own, hs.dfr, by rw [(leT_ok hin).1]; exact hs.sz, fun j sv hj => ?_, fun sv hm => ?_, hs.heap, hs.fact, hs.bnd, hs.nms, hs.fas, hs.frm, hs.rts⟩
 · obtain ⟨s', e1, e2⟩ := (leT_ok hin).2 j sv hj
   exact leS_ok e2 (hs.slot j s' e1)
 · rcases over_mem hm with hm | ⟨x, hx, rfl⟩
   · rcases forget_mem hm with rfl | hm
     · trivial
     · exact hs.slt sv hm
   · exact SV.ltb_ok (List.all_eq_true.1 (hf i0 h0) x hx)
theorem WX_lpF {J : Act -> World -> Prop} (S' : St) (hX : E.X = X) (hJ : ∀ a w r own, Sim X S' [] a w r own -> J a w) (ht : leT S'.t S.t) (hh : leH S'.h S.h) (h1 : ltTb S'.n S'.t = true) (h2 : ltHb S'.n S'.h = true) (hr : (X.rt.all fun x => decide (x.1 < S'.n)) = true) :
 WX E .normal (.lp J k) S :=
 WX_lp S' [] hX hJ fun a w r own hs => hs.weak S' [] [] ht hh h1 h2 hr rfl (fun _ _ _ h => by simp at h) fun _ _ h => by cases h
end
attribute [go_sem] forget over
section
open Tryz (prog)
theorem un2 : prog.underlying 2 = some (.int .i64) := by kernel_rfl
theorem st2 : isStrT prog 2 = false := by kernel_rfl
theorem sz3 : szT prog 3 = some (1, false) := by kernel_rfl
theorem un3 : prog.underlying 3 = some (.int .i64) := by kernel_rfl
theorem st3 : isStrT prog 3 = false := by kernel_rfl
theorem sz4 : szT prog 4 = some (1, false) := by kernel_rfl
theorem st4 : isStrT prog 4 = false := by kernel_rfl
theorem sz5 : szT prog 5 = some (1, false) := by kernel_rfl
theorem un5 : prog.underlying 5 = some (.int .u8) := by kernel_rfl
theorem sz9 : szT prog 9 = some (1, false) := by kernel_rfl
theorem un9 : prog.underlying 9 = some .string := by kernel_rfl
theorem sz20 : szT prog 20 = some (1, false) := by kernel_rfl
theorem un21 : prog.underlying 21 = some (.int .i32) := by kernel_rfl
theorem sz24 : szT prog 24 = some (6, true) := by kernel_rfl
theorem sz28 : szT prog 28 = some (1, false) := by kernel_rfl
theorem sz31 : szT prog 31 = some (19, true) := by kernel_rfl
theorem sz35 : szT prog 35 = some (1, false) := by kernel_rfl
theorem sz50 : szT prog 50 = some (1, false) := by kernel_rfl
theorem sz54 : szT prog 54 = some (1, false) := by kernel_rfl
theorem sz68 : szT prog 68 = some (1, false) := by kernel_rfl
theorem un68 : prog.underlying 68 = some (.float .f64) := by kernel_rfl
theorem sz79 : szT prog 79 = some (1, false) := by kernel_rfl
theorem sz82 : szT prog 82 = some (1, false) := by kernel_rfl
theorem sz83 : szT prog 83 = some (1, false) := by kernel_rfl
theorem sz88 : szT prog 88 = some (1, false) := by kernel_rfl
theorem sz95 : szT prog 95 = some (1, false) := by kernel_rfl
theorem sz96 : szT prog 96 = some (1, false) := by kernel_rfl
theorem sz97 : szT prog 97 = some (1, false) := by kernel_rfl
theorem sz128 : szT prog 128 = some (1, false) := by kernel_rfl
theorem sz154 : szT prog 154 = some (1, false) := by kernel_rfl
theorem sz157 : szT prog 157 = some (1, false) := by kernel_rfl
theorem sz162 : szT prog 162 = some (1, false) := by kernel_rfl
theorem el207 : elT prog 207 = some (5, 1) := by kernel_rfl
theorem un207 : prog.underlying 207 = some (.slice 5) := by kernel_rfl
theorem sz224 : szT prog 224 = some (1, false) := by kernel_rfl
theorem un224 : prog.underlying 224 = some (.int .u64) := by kernel_rfl
theorem sz237 : szT prog 237 = some (1, false) := by kernel_rfl
theorem sz331 : szT prog 331 = some (1, false) := by kernel_rfl
theorem sz332 : szT prog 332 = some (1, false) := by kernel_rfl
theorem sz342 : szT prog 342 = some (1, false) := by kernel_rfl
theorem zT0 : zero1T prog 2 = some (.int .i64 0) /\ intT prog 2 = some .i64 /\ intT prog 3 = some .i64 /\ prog.underlying 4 = some .bool /\ zeroT prog 5 = some [.int .u8 0] /\ intT prog 5 = some .u8 /\ zeroT prog 9 = some [.string ⟨#[]⟩] /\ intT prog 9 = none /\ intT prog 21 = some .i32 /\ szT prog 22 = some (1, false) /\ elT prog 22 = some (24, 6) /\ prog.underlying 22 = some (.slice 24) /\ zeroT prog 24 = some [.int .i64 0, .string ⟨#[]⟩, .string ⟨#[]⟩, .string ⟨#[]⟩, .int .i64 0, .slice none 0 0] /\ fieldT prog 24 0 = some (0, 1, false) /\ fieldT prog 24 1 = some (1, 1, false) /\ fieldT prog 24 2 = some (2, 1, false) /\ fieldT prog 24 3 = some (3, 1, false) /\ fieldT prog 24 4 = some (4, 1, false) /\ fieldT prog 24 5 = some (5, 1, false) /\ plT prog 24 = some [(0, 1), (1, 1), (2, 1), (3, 1), (4, 1), (5, 1)] /\ szT prog 27 = some (5, true) /\ zeroT prog 27 = some [.int .i64 0, .int .i64 0, .int .i64 0, .int .i64 0, .int .i64 0] /\ fieldT prog 27 0 = some (0, 1, false) /\ fieldT prog 27 1 = some (1, 1, false) /\ fieldT prog 27 2 = some (2, 1, false) /\ fieldT prog 27 3 = some (3, 1, false) /\ fieldT prog 27 4 = some (4, 1, false) /\ plT prog 27 = some [(0, 1), (1, 1), (2, 1), (3, 1), (4, 1)] /\ elT prog 28 = some (9, 1) /\ prog.underlying 28 = some (.slice 9) /\ szT prog 29 = some (1, false) /\ zeroT prog 29 = some [.slice none 0 0] /\ elT prog 29 = some (31, 19) /\ prog.underlying 29 = some (.slice 31) /\ zeroT prog 31 = some [.int .i64 0, .int .i64 0, .string ⟨#[]⟩, .string ⟨#[]⟩, .string ⟨#[]⟩, .string ⟨#[]⟩, .bool false, .bool false, .bool false, .int .i64 0, .int .i64 0, .int .i64 0, .int .i64 0, .int .i64 0, .slice none 0 0, .slice none 0 0, .slice none 0 0, .slice none 0 0, .slice none 0 0] /\ fieldT prog 31 0 = some (0, 1, false) /\ fieldT prog 31 1 = some (1, 1, false) /\ fieldT prog 31 2 = some (2, 1, false) /\ fieldT prog 31 3 = some (3, 1, false) /\ fieldT prog 31 4 = some (4, 1, false) := by and_intros <;> kernel_rfl
theorem zT1 : fieldT prog 31 5 = some (5, 1, false) /\ fieldT prog 31 6 = some (6, 1, false) /\ fieldT prog 31 7 = some (7, 1, false) /\ fieldT prog 31 8 = some (8, 1, false) /\ fieldT prog 31 9 = some (9, 5, true) /\ fieldT prog 31 10 = some (14, 1, false) /\ fieldT prog 31 11 = some (15, 1, false) /\ fieldT prog 31 12 = some (16, 1, false) /\ fieldT prog 31 13 = some (17, 1, false) /\ fieldT prog 31 14 = some (18, 1, false) /\ plT prog 31 = some [(0, 1), (1, 1), (2, 1), (3, 1), (4, 1), (5, 1), (6, 1), (7, 1), (8, 1), (9, 5), (14, 1), (15, 1), (16, 1), (17, 1), (18, 1)] /\ intT prog 35 = some .u64 /\ prog.underlying 35 = some (.int .u64) /\ szT prog 38 = some (6, true) /\ zeroT prog 38 = some [.int .i64 0, .int .i64 0, .int .i64 0, .int .i64 0, .int .i64 0, .int .i64 0] /\ fieldT prog 38 0 = some (0, 1, false) /\ plT prog 38 = some [(0, 1), (1, 5)] /\ szT prog 44 = some (13, true) /\ zeroT prog 44 = some [.int .i64 0, .string ⟨#[]⟩, .string ⟨#[]⟩, .string ⟨#[]⟩, .int .i64 0, .slice none 0 0, .bool false, .bool false, .bool false, .int .i64 0, .int .i64 0, .slice none 0 0, .slice none 0 0] /\ fieldT prog 44 0 = some (0, 6, true) /\ fieldT prog 44 1 = some (6, 1, false) /\ fieldT prog 44 2 = some (7, 1, false) /\ plT prog 44 = some [(0, 6), (6, 1), (7, 1), (8, 1), (9, 1), (10, 1), (11, 1), (12, 1)] /\ elT prog 45 = some (44, 13) /\ prog.underlying 45 = some (.slice 44) /\ elT prog 50 = some (54, 1) /\ prog.underlying 50 = some (.slice 54) /\ szT prog 52 = some (1, false) /\ zeroT prog 54 = some [.nilIface] /\ zeroT prog 60 = some [.int .i64 0, .int .i64 0, .slice none 0 0] /\ fieldT prog 60 0 = some (0, 1, false) /\ fieldT prog 60 1 = some (1, 1, false) /\ fieldT prog 60 2 = some (2, 1, false) /\ plT prog 60 = some [(0, 1), (1, 1), (2, 1)] /\ zeroT prog 65 = some [.int .i64 0, .int .i64 0] /\ fieldT prog 65 0 = some (0, 1, false) /\ fieldT prog 65 1 = some (1, 1, false) /\ plT prog 65 = some [(0, 1), (1, 1)] /\ intT prog 68 = none /\ zeroT prog 77 = some [.int .i64 0, .slice none 0 0] := by and_intros <;> kernel_rfl
theorem zT2 : fieldT prog 77 0 = some (0, 1, false) /\ fieldT prog 77 1 = some (1, 1, false) /\ plT prog 77 = some [(0, 1), (1, 1)] /\ zeroT prog 87 = some [.int .i64 0, .int .i64 0, .int .i64 0, .string ⟨#[]⟩, .string ⟨#[]⟩, .string ⟨#[]⟩, .pointer none, .pointer none, .pointer none] /\ fieldT prog 87 0 = some (0, 1, false) /\ fieldT prog 87 3 = some (3, 1, false) /\ fieldT prog 87 4 = some (4, 1, false) /\ fieldT prog 87 6 = some (6, 1, false) /\ plT prog 87 = some [(0, 1), (1, 1), (2, 1), (3, 1), (4, 1), (5, 1), (6, 1), (7, 1), (8, 1)] /\ zeroT prog 88 = some [.pointer none] /\ zero1T prog 93 = some (.pointer none) /\ elT prog 96 = some (88, 1) /\ prog.underlying 96 = some (.slice 88) /\ prog.underlying 97 = some (.slice 103) /\ zeroT prog 99 = some [.pointer none, .pointer none, .pointer none, .bool false, .slice none 0 0, .slice none 0 0, .slice none 0 0, .pointer none] /\ fieldT prog 99 0 = some (0, 1, false) /\ fieldT prog 99 1 = some (1, 1, false) /\ fieldT prog 99 3 = some (3, 1, false) /\ fieldT prog 99 4 = some (4, 1, false) /\ fieldT prog 99 5 = some (5, 1, false) /\ fieldT prog 99 6 = some (6, 1, false) /\ fieldT prog 99 7 = some (7, 1, false) /\ plT prog 99 = some [(0, 1), (1, 1), (2, 1), (3, 1), (4, 1), (5, 1), (6, 1), (7, 1)] /\ zero1T prog 117 = some (.pointer none) /\ zero1T prog 118 = some (.pointer none) /\ zeroT prog 121 = some [.pointer none, .pointer none] /\ fieldT prog 121 0 = some (0, 1, false) /\ fieldT prog 121 1 = some (1, 1, false) /\ plT prog 121 = some [(0, 1), (1, 1)] /\ zero1T prog 122 = some (.pointer none) /\ zeroT prog 124 = some [.pointer none, .pointer none, .nilIface] /\ fieldT prog 124 0 = some (0, 1, false) /\ fieldT prog 124 1 = some (1, 1, false) /\ fieldT prog 124 2 = some (2, 1, false) /\ plT prog 124 = some [(0, 1), (1, 1), (2, 1)] /\ zero1T prog 125 = some (.pointer none) /\ zeroT prog 127 = some [.pointer none, .pointer none, .int .i64 0, .float .f64 0] /\ fieldT prog 127 0 = some (0, 1, false) /\ fieldT prog 127 1 = some (1, 1, false) /\ fieldT prog 127 3 = some (3, 1, false) := by and_intros <;> kernel_rfl
theorem zT3 : plT prog 127 = some [(0, 1), (1, 1), (2, 1), (3, 1)] /\ zero1T prog 128 = some (.pointer none) /\ zeroT prog 130 = some [.pointer none, .pointer none, .string ⟨#[]⟩] /\ fieldT prog 130 0 = some (0, 1, false) /\ fieldT prog 130 1 = some (1, 1, false) /\ fieldT prog 130 2 = some (2, 1, false) /\ plT prog 130 = some [(0, 1), (1, 1), (2, 1)] /\ zero1T prog 131 = some (.pointer none) /\ zero1T prog 133 = some (.pointer none) /\ zeroT prog 135 = some [.pointer none, .pointer none, .bool false] /\ fieldT prog 135 0 = some (0, 1, false) /\ fieldT prog 135 1 = some (1, 1, false) /\ fieldT prog 135 2 = some (2, 1, false) /\ plT prog 135 = some [(0, 1), (1, 1), (2, 1)] /\ zero1T prog 136 = some (.pointer none) /\ zeroT prog 138 = some [.pointer none, .pointer none, .float .f64 0] /\ fieldT prog 138 0 = some (0, 1, false) /\ fieldT prog 138 1 = some (1, 1, false) /\ fieldT prog 138 2 = some (2, 1, false) /\ plT prog 138 = some [(0, 1), (1, 1), (2, 1)] /\ zero1T prog 139 = some (.pointer none) /\ zeroT prog 140 = some [.pointer none, .pointer none] /\ fieldT prog 140 0 = some (0, 1, false) /\ fieldT prog 140 1 = some (1, 1, false) /\ plT prog 140 = some [(0, 1), (1, 1)] /\ zero1T prog 141 = some (.pointer none) /\ zeroT prog 143 = some [.pointer none, .pointer none, .pointer none] /\ fieldT prog 143 0 = some (0, 1, false) /\ fieldT prog 143 1 = some (1, 1, false) /\ fieldT prog 143 2 = some (2, 1, false) /\ plT prog 143 = some [(0, 1), (1, 1), (2, 1)] /\ zero1T prog 144 = some (.pointer none) /\ zero1T prog 147 = some (.pointer none) /\ zeroT prog 149 = some [.pointer none, .pointer none, .pointer none, .nilIface] /\ fieldT prog 149 0 = some (0, 1, false) /\ fieldT prog 149 2 = some (2, 1, false) /\ fieldT prog 149 3 = some (3, 1, false) /\ plT prog 149 = some [(0, 1), (1, 1), (2, 1), (3, 1)] /\ zero1T prog 150 = some (.pointer none) /\ zero1T prog 153 = some (.pointer none) := by and_intros <;> kernel_rfl
theorem zT4 : elT prog 154 = some (157, 1) /\ prog.underlying 154 = some (.slice 157) /\ zeroT prog 156 = some [.pointer none, .pointer none, .pointer none, .bool false, .slice none 0 0, .pointer none] /\ fieldT prog 156 0 = some (0, 1, false) /\ fieldT prog 156 1 = some (1, 1, false) /\ fieldT prog 156 3 = some (3, 1, false) /\ fieldT prog 156 4 = some (4, 1, false) /\ fieldT prog 156 5 = some (5, 1, false) /\ plT prog 156 = some [(0, 1), (1, 1), (2, 1), (3, 1), (4, 1), (5, 1)] /\ zeroT prog 157 = some [.pointer none] /\ zero1T prog 157 = some (.pointer none) /\ zero1T prog 158 = some (.pointer none) /\ zeroT prog 164 = some [.pointer none, .pointer none, .pointer none, .nilIface, .nilIface, .pointer none, .bool false] /\ fieldT prog 164 0 = some (0, 1, false) /\ fieldT prog 164 1 = some (1, 1, false) /\ fieldT prog 164 3 = some (3, 1, false) /\ fieldT prog 164 4 = some (4, 1, false) /\ fieldT prog 164 5 = some (5, 1, false) /\ fieldT prog 164 6 = some (6, 1, false) /\ plT prog 164 = some [(0, 1), (1, 1), (2, 1), (3, 1), (4, 1), (5, 1), (6, 1)] /\ zero1T prog 165 = some (.pointer none) /\ zeroT prog 167 = some [.pointer none, .pointer none, .nilIface, .nilIface] /\ fieldT prog 167 0 = some (0, 1, false) /\ fieldT prog 167 1 = some (1, 1, false) /\ fieldT prog 167 2 = some (2, 1, false) /\ fieldT prog 167 3 = some (3, 1, false) /\ plT prog 167 = some [(0, 1), (1, 1), (2, 1), (3, 1)] /\ zero1T prog 168 = some (.pointer none) /\ zeroT prog 169 = some [.pointer none, .pointer none, .nilIface] /\ fieldT prog 169 0 = some (0, 1, false) /\ fieldT prog 169 1 = some (1, 1, false) /\ fieldT prog 169 2 = some (2, 1, false) /\ plT prog 169 = some [(0, 1), (1, 1), (2, 1)] /\ zeroT prog 172 = some [.int .i64 0, .int .i64 0, .int .i64 0, .int .i64 0, .int .i64 0] /\ fieldT prog 172 0 = some (0, 1, false) /\ fieldT prog 172 1 = some (1, 1, false) /\ fieldT prog 172 2 = some (2, 1, false) /\ fieldT prog 172 3 = some (3, 1, false) /\ fieldT prog 172 4 = some (4, 1, false) /\ plT prog 172 = some [(0, 1), (1, 1), (2, 1), (3, 1), (4, 1)] := by and_intros <;> kernel_rfl
theorem zT5 : intT prog 207 = none /\ zeroT prog 223 = some [.int .u8 0, .int .u8 0, .int .u8 0, .int .u8 0, .int .u8 0, .int .u8 0, .int .u8 0, .int .u8 0, .int .u8 0, .int .u8 0, .int .u8 0, .int .u8 0, .int .u8 0, .int .u8 0, .int .u8 0, .int .u8 0, .int .u8 0, .int .u8 0, .int .u8 0, .int .u8 0, .int .u8 0, .int .u8 0, .int .u8 0, .int .u8 0] /\ intT prog 224 = some .u64 /\ zeroT prog 230 = some [.string ⟨#[]⟩, .pointer none, .int .i64 0] /\ fieldT prog 230 0 = some (0, 1, false) /\ fieldT prog 230 1 = some (1, 1, false) /\ plT prog 230 = some [(0, 1), (1, 1), (2, 1)] /\ zeroT prog 239 = some [.string ⟨#[]⟩, .nilIface, .string ⟨#[]⟩] /\ fieldT prog 239 0 = some (0, 1, false) /\ fieldT prog 239 1 = some (1, 1, false) /\ plT prog 239 = some [(0, 1), (1, 1), (2, 1)] /\ intT prog 255 = some .u32 /\ prog.underlying 255 = some (.int .u32) /\ zeroT prog 261 = some [.int .u8 0, .int .u8 0, .int .u8 0, .int .u8 0, .int .u8 0, .int .u8 0, .int .u8 0, .int .u8 0, .int .u8 0, .int .u8 0, .int .u8 0, .int .u8 0, .int .u8 0, .int .u8 0, .int .u8 0, .int .u8 0, .int .u8 0, .int .u8 0, .int .u8 0, .int .u8 0, .int .u8 0, .int .u8 0, .int .u8 0, .int .u8 0, .int .u8 0, .int .u8 0, .int .u8 0, .int .u8 0, .int .u8 0, .int .u8 0, .int .u8 0, .int .u8 0] /\ fieldT prog 270 0 = some (0, 800, true) /\ fieldT prog 270 1 = some (800, 1, false) /\ fieldT prog 270 2 = some (801, 1, false) /\ fieldT prog 270 3 = some (802, 1, false) /\ fieldT prog 270 4 = some (803, 1, false) /\ fieldT prog 288 0 = some (0, 1, false) /\ fieldT prog 288 1 = some (1, 1, false) /\ fieldT prog 288 2 = some (2, 1, false) /\ zeroT prog 308 = some [.int .u64 0, .int .u64 0, .int .i64 0] /\ fieldT prog 308 0 = some (0, 1, false) /\ fieldT prog 308 1 = some (1, 1, false) /\ fieldT prog 308 2 = some (2, 1, false) /\ intT prog 311 = some .u64 /\ elT prog 331 = some (3, 1) /\ prog.underlying 331 = some (.slice 3) /\ elT prog 332 = some (68, 1) /\ fieldT prog 335 0 = some (0, 1, false) /\ fieldT prog 335 1 = some (1, 1, false) /\ fieldT prog 341 0 = some (0, 1, false) /\ fieldT prog 341 1 = some (1, 1, false) /\ elT prog 342 = some (341, 2) /\ concT prog 2 = true /\ isStrT prog 9 = true /\ ifaceT prog 54 = true /\ concT prog 68 = true /\ ifaceT prog 70 = true := by and_intros <;> kernel_rfl
theorem zT6 : concT prog 75 = true /\ ptrT prog 79 = true /\ ptrT prog 82 = true /\ ptrT prog 88 = true /\ concT prog 93 = true /\ ptrT prog 95 = true /\ ifaceT prog 115 = true /\ concT prog 117 = true /\ concT prog 118 = true /\ concT prog 122 = true /\ concT prog 125 = true /\ concT prog 128 = true /\ ptrT prog 128 = true /\ concT prog 131 = true /\ concT prog 133 = true /\ concT prog 136 = true /\ concT prog 139 = true /\ concT prog 141 = true /\ concT prog 144 = true /\ concT prog 147 = true /\ concT prog 150 = true /\ concT prog 153 = true /\ concT prog 157 = true /\ concT prog 158 = true /\ concT prog 162 = false /\ concT prog 165 = true /\ concT prog 168 = true /\ concT prog 215 = true /\ concT prog 224 = true /\ ptrT prog 235 = true := by and_intros <;> kernel_rfl
attribute [go_sem] un2 st2 sz3 un3 st3 sz4 st4 sz5 un5 sz9 un9 sz20 un21 sz24 sz28 sz31 sz35 sz50 sz54 sz68 un68 sz79 sz82 sz83 sz88 sz95 sz96 sz97 sz128 sz154 sz157 sz162 el207 un207 sz224 un224 sz237 sz331 sz332 sz342 zT0 zT1 zT2 zT3 zT4 zT5 zT6
end
def Byt (g e n : Nat) : Asn where
 P w F := (∀ k, F k ↔ k = g) /\ ∃ C lo hi, w.heap[g]? = some (.cells C e (lo, hi)) /\ n <= C.size /\ n <= lo /\ ∀ j : Nat, j < n -> ∃ b : Int, 0 <= b /\ b < 256 /\ C[j]? = some (.int .u8 b)
 loc := fun {w w' F} hw h => ⟨h.1, by rw [hw g ((h.1 g).2 rfl)]; exact h.2⟩
section
variable {E : En} {S : St} {o : Oper} {P : Program}
theorem LS_s2b {src dst e : TypeId} {x : Operand} {s : ByteArray} (hP : E.X.P = P) (ho : o.op = .convert src dst x) (hx : ev S x = .sc (.va (.string s))) (hs : P.underlying src = some .string) (hd : P.underlying dst = some (.slice e)) (he : P.underlying e = some (.int .u8)) :
 LS E S o [] (fun _ : Nat × Nat => True) (fun z => S.putM o.dst (.sc (.va (.slice (some ⟨z.1, 0, none⟩) s.size z.2)))) (fun z => (S.m, Byt z.1 e s.size) :: outF [] E.A) := by
 intro a w r own hsim K Q hK
 subst hP
 have hv := va_of (hx ▸ (ev_ok hsim.toR x).1)
 have hrun := run_bytes_of_string (P := E.X.P) w src dst e s hs hd he
 generalize hrow : bytesRow s (grownCap w s.size 0 e) = row at hrun
 have hw' : ∀ k, k < w.heap.size -> (w.drew.alloc (.cells row e (row.size, row.size + 1))).heap[k]? = w.heap[k]? := fun k hk => heap_alloc_old w.drew _ hk
 have hnew : (w.drew.alloc (.cells row e (row.size, row.size + 1))).heap[w.heap.size]? = some (.cells row e (row.size, row.size + 1)) := heap_alloc_new w.drew _
 have hsz : (w.drew.alloc (.cells row e (row.size, row.size + 1))).heap.size = w.heap.size + 1 := by simp
 have hfr : Frm (fun k => ∃ j ∈ ([] : List Nat), own k = some (.fa j)) w (w.drew.alloc (.cells row e (row.size, row.size + 1))) := ⟨rfl, rfl, rfl, by rw [hsz]; omega, fun k hk _ => hw' k hk⟩
 have hsr : s.size <= row.size := by rw [<- hrow]; unfold bytesRow; rw [Array.size_append, Array.size_map]; exact Nat.le_add_right _ _
 have h2 := hsim.trade [] (B := Byt w.heap.size e s.size) (F := fun k => k = w.heap.size) hfr ⟨fun k => Iff.rfl, row, _, _, hnew, hsr, hsr, fun j hj => by
  refine ⟨_, ?_, ?_, by rw [<- hrow]; exact bytesRow_at s _ j hj⟩
  · omega
  · have := (s.data[j]'hj).toNat_lt
    omega⟩ (fun k hk => .inr ⟨by omega, by rw [hsz]; omega⟩)
 have hr : Res E.X.P o a w (a.put o.dst (.slice (some ⟨w.heap.size, 0, none⟩) s.size (grownCap w s.size 0 e))) (w.drew.alloc (.cells row e (row.size, row.size + 1))) := by
  refine ⟨_, ?_, .inl ⟨_, rfl, rfl⟩⟩
  simp [execOp, ho, hv, hrun]
 exact hr.wp (hK (w.heap.size, grownCap w s.size 0 e) trivial _ _ r _ (h2.put o.dst (ok_va r _) trivial) (.same (put_h ..).1 (put_h ..).2 hfr.size fun n t cs hm _ => hfr.block _ (hsim.bnd _ _ (hsim.heap n t cs hm).2.2.1).1 (fun ⟨j, hj, _⟩ => by cases hj)))
theorem Byt.cell {w : World} {g e n : Nat} {F : Nat -> Prop} (h : (Byt g e n).P w F) {q : Nat} (hq : q < n) : ∃ b : Int, 0 <= b /\ b < 256 /\ w.cell? ⟨g, q, none⟩ = some (.int .u8 b) /\ w.frozen? ⟨g, q, none⟩ = false := by
 obtain ⟨_, C, lo, hi, h1, h2, h3, h4⟩ := h
 obtain ⟨b, b0, b1, hb⟩ := h4 q hq
 refine ⟨b, b0, b1, ?_, ?_⟩
 · simp [World.cell?, h1, hb]
 · simp only [World.frozen?, h1]
   simp
   omega
theorem LS_bload {t : TypeId} {x : Operand} {g q e n : Nat} (j : Nat) (hP : E.X.P = P) (ho : o.op = .load t x) (hx : ev S x = .sc (.va (.pointer (some ⟨g, q, none⟩)))) (hj : (j, Byt g e n) ∈ E.A) (hq : q < n) (hsz : szT P t = some (1, false)) :
 LS E S o [] (fun b : Int => 0 <= b /\ b < 256) (fun b => S.put o.dst (.sc (.va (.int .u8 b)))) (fun _ => E.A) := by
 intro a w r own hsim K Q hK
 subst hP
 have hp := va_of (hx ▸ (ev_ok hsim.toR x).1)
 obtain ⟨b, b0, b1, hc, _⟩ := Byt.cell (hsim.fact j _ hj).2 hq
 have hr : Res E.X.P o a w (a.put o.dst (.int .u8 b)) w := by
  refine ⟨_, ?_, .inl ⟨_, rfl, rfl⟩⟩
  simp [execOp, ho, hp, Instr.loadAt, Instr.sureAddr, loadVar, run_isAgg' hsz, hc]
 exact hr.wp (hK b ⟨b0, b1⟩ _ _ r own (hsim.put o.dst (ok_va r _) trivial) (.same (put_h ..).1 (put_h ..).2 (Nat.le_refl _) fun _ _ _ _ _ => rfl))
theorem LS_b2s {src dst e : TypeId} {x : Operand} {g n cp : Nat} (j : Nat) (hP : E.X.P = P) (ho : o.op = .convert src dst x) (hx : ev S x = .sc (.va (.slice (some ⟨g, 0, none⟩) n cp))) (hj : (j, Byt g e n) ∈ E.A)
 (hs : P.underlying src = some (.slice e)) (hd : P.underlying dst = some .string) (he : P.underlying e = some (.int .u8)) :
 LS E S o [] (fun _ : ByteArray => True) (fun z => S.put o.dst (.sc (.va (.string z)))) (fun _ => E.A) := by
 intro a w r own hsim K Q hK
 subst hP
 have hv := va_of (hx ▸ (ev_ok hsim.toR x).1)
 have hB := (hsim.fact j _ hj).2
 obtain ⟨ns, hl, hns⟩ : ∃ ns : List Int, ns.length = n /\ ∀ i v, (ns.map (Value.int .u8))[i]? = some v -> w.cell? ⟨g, i, none⟩ = some v := by
  have key : ∀ m, m <= n -> ∃ ns : List Int, ns.length = m /\ ∀ i v, (ns.map (Value.int .u8))[i]? = some v -> w.cell? ⟨g, i, none⟩ = some v := by
   intro m
   induction m with
   | zero => exact fun _ => ⟨[], rfl, fun i v h => by simp at h⟩
   | succ m ih =>
     intro hm
     obtain ⟨ns, e1, e2⟩ := ih (by omega)
     obtain ⟨b, _, _, hc, _⟩ := Byt.cell hB (q := m) (by omega)
     refine ⟨ns ++ [b], by simp [e1], fun i v h => ?_⟩
     rw [List.map_append, List.getElem?_append] at h
     split at h
     · exact e2 i v h
     · rename_i hi
       simp only [List.length_map, e1] at hi h
       have : i - m = 0 := by
        rcases Nat.eq_zero_or_pos (i - m) with h0 | h0
        · exact h0
        · rw [List.getElem?_eq_none (by simp; omega)] at h
          cases h
       have him : i = m := by omega
       subst him
       simp at h
       rw [hc, <- h]
  exact key n (Nat.le_refl n)
 have hlc : (loadCells ⟨g, 0, none⟩ n).run E.X.P w = .ok (ns.map (Value.int .u8)).toArray w := by
  have := run_loadCells_list (P := E.X.P) w ⟨g, 0, none⟩ (ns.map (Value.int .u8)) (fun i v hi => by rw [addr_add]; simpa using hns i v hi)
  simpa [hl] using this
 have hrun := run_bytesToString (P := E.X.P) w ⟨g, 0, none⟩ n cp ns hlc
 have hconv := run_convert_bytes_string (P := E.X.P) w src dst e (some ⟨g, 0, none⟩) n cp hs he hd
 rw [hrun] at hconv
 have hr : Res E.X.P o a w (a.put o.dst (.string (ns.foldl (fun r n => r.push (UInt8.ofNat n.toNat)) ByteArray.empty))) w := by
  refine ⟨_, ?_, .inl ⟨_, rfl, rfl⟩⟩
  simp [execOp, ho, hv, hconv]
 exact hr.wp (hK _ trivial _ _ r own (hsim.put o.dst (ok_va r _) trivial) (.same (put_h ..).1 (put_h ..).2 (Nat.le_refl _) fun _ _ _ _ _ => rfl))
theorem setCell_heap (w : World) (g q : Nat) (v : Value) (k : Nat) : (w.setCell ⟨g, q, none⟩ v).heap[k]? = if k = g then (w.heap[k]?).map (fun | .cells c elem fr => .cells (c.setIfInBounds q v) elem fr | o => o) else w.heap[k]? := by
 show (w.heap.modify g _)[k]? = _
 rw [Array.getElem?_modify]
 by_cases h : g = k
 · subst h
   simp only [if_true]
   cases w.heap[g]? with
   | none => rfl
   | some o => cases o <;> rfl
 · rw [if_neg h, if_neg (fun e => h e.symm)]
theorem LS_bstore {t : TypeId} {x v : Operand} {g q e n : Nat} {b : Int} (j : Nat) (hP : E.X.P = P) (ho : o.op = .store t x v) (hx : ev S x = .sc (.va (.pointer (some ⟨g, q, none⟩)))) (hv : ev S v = .sc (.va (.int .u8 b))) (hj : (j, Byt g e n) ∈ E.A) (hq : q < n) (hb0 : 0 <= b) (hb1 : b < 256) (hsz : szT P t = some (1, false)) :
 LS E S o [] (fun _ : Unit => True) (fun _ => S.putM o.dst undefSV) (fun _ => (S.m, Byt g e n) :: outF [j] E.A) := by
 intro a w r own hsim K Q hK
 subst hP
 have hp := va_of (hx ▸ (ev_ok hsim.toR x).1)
 have hvv := va_of (hv ▸ (ev_ok hsim.toR v).1)
 have hB := (hsim.fact j _ hj).2
 obtain ⟨b', _, _, hc, hfz⟩ := Byt.cell hB hq
 have hst := run_storeCells_cells (P := E.X.P) g q [.int .u8 b] 0 w (fun i hi => by
  obtain rfl : i = 0 := by simpa using hi
  simp [hc]) (fun i hi => by
  obtain rfl : i = 0 := by simpa using hi
  simpa using hfz) (by simp [Value.oneCell'])
 simp only [World.setCells, Nat.add_zero] at hst
 have hheap := setCell_heap w g q (.int .u8 b)
 have hsz' : (w.setCell ⟨g, q, none⟩ (.int .u8 b)).heap.size = w.heap.size := by simp [World.setCell]
 obtain ⟨hF, C, lo, hi, h1, h2, h3, h4⟩ := hB
 have hfr : Frm (fun k => ∃ j' ∈ [j], own k = some (.fa j')) w (w.setCell ⟨g, q, none⟩ (.int .u8 b)) :=
  ⟨rfl, rfl, rfl, by rw [hsz']; exact Nat.le_refl _, fun k hk hno => by rw [hheap k, if_neg (fun e => hno ⟨j, by simp, (hF k).2 e⟩)]⟩
 have h5 := hsim.trade [j] (B := Byt g e n) (F := fun k => k = g) hfr ⟨fun k => Iff.rfl, C.setIfInBounds q (.int .u8 b), lo, hi, by rw [hheap g, if_pos rfl, h1]; rfl, by simpa using h2, h3, fun i hi => by
  by_cases hiq : q = i
  · subst hiq
    exact ⟨b, hb0, hb1, by rw [Array.getElem?_setIfInBounds_self_of_lt (by omega)]⟩
  · rw [Array.getElem?_setIfInBounds_ne hiq]
    exact h4 i hi⟩ (fun k hk => .inl ⟨j, by simp, (hF k).2 hk⟩)
 have hr : Res E.X.P o a w (a.put o.dst undef) (w.setCell ⟨g, q, none⟩ (.int .u8 b)) := by
  refine ⟨_, ?_, .inr ⟨rfl, rfl⟩⟩
  simp [execOp, ho, hp, hvv, Instr.storeAt, Instr.sureAddr, storeVar, run_sizeOf' hsz, Value.cells]
  first
   | (rw [hst]; rfl)
   | (simp only [hst]; rfl)
 exact hr.wp (hK () trivial _ _ r _ (h5.put o.dst (ok_va r undef) trivial) (.same (put_h ..).1 (put_h ..).2 hfr.size fun n t cs hm _ => hfr.block _ (hsim.bnd _ _ (hsim.heap n t cs hm).2.2.1).1 (fun ⟨j, _, hj⟩ => by
  rw [(hsim.heap n t cs hm).2.2.1] at hj; cases hj)))
section
variable {dst : Option Tmp} {ty : TypeId} {pos : String} {after : Array Edge} {guard : Option (Nat × Bool)}
theorem LS_bload' {t : TypeId} {x : Operand} (g q e n : Nat) (j : Nat) (hP : E.X.P = P) (hx : ev S x = .sc (.va (.pointer (some ⟨g, q, none⟩)))) (hj : (j, Byt g e n) ∈ E.A) (hq : q < n) (hsz : szT P t = some (1, false)) :
 LS E S ⟨dst, .load t x, ty, pos, after, guard⟩ [] (fun b : Int => 0 <= b /\ b < 256) (fun b => S.put dst (.sc (.va (.int .u8 b)))) (fun _ => E.A) := LS_bload j hP rfl hx hj hq hsz
theorem LS_bstore' {t : TypeId} {x v : Operand} (g q e n : Nat) (b : Int) (j : Nat) (hP : E.X.P = P) (hx : ev S x = .sc (.va (.pointer (some ⟨g, q, none⟩)))) (hv : ev S v = .sc (.va (.int .u8 b))) (hj : (j, Byt g e n) ∈ E.A) (hq : q < n) (hb0 : 0 <= b) (hb1 : b < 256) (hsz : szT P t = some (1, false)) :
 LS E S ⟨dst, .store t x v, ty, pos, after, guard⟩ [] (fun _ : Unit => True) (fun _ => S.putM dst undefSV) (fun _ => (S.m, Byt g e n) :: outF [j] E.A) := LS_bstore j hP rfl hx hv hj hq hb0 hb1 hsz
theorem LS_b2s' {src d e : TypeId} {x : Operand} (g n cp : Nat) (j : Nat) (hP : E.X.P = P) (hx : ev S x = .sc (.va (.slice (some ⟨g, 0, none⟩) n cp))) (hj : (j, Byt g e n) ∈ E.A)
 (hs : P.underlying src = some (.slice e)) (hd : P.underlying d = some .string) (he : P.underlying e = some (.int .u8)) :
 LS E S ⟨dst, .convert src d x, ty, pos, after, guard⟩ [] (fun _ : ByteArray => True) (fun z => S.put dst (.sc (.va (.string z)))) (fun _ => E.A) := LS_b2s j hP rfl hx hj hs hd he
end
theorem WX_lp1 {J : Act -> World -> Prop} {X : Cx} {k : Kt} (S' : St) (j0 : Nat) (B : Asn) (hX : E.X = X) (hJ : ∀ a w r own, Sim X S' [(j0, B)] a w r own -> J a w) (j1 : Nat) (hA : (j1, B) ∈ E.A) (ht : leT S'.t S.t) (hh : leH S'.h S.h) (h1 : ltTb S'.n S'.t = true) (h2 : ltHb S'.n S'.h = true)
 (hr : (X.rt.all fun x => decide (x.1 < S'.n)) = true) (hm : j0 < S'.m) : WX E .normal (.lp J k) S :=
 WX_lp S' [(j0, B)] hX hJ fun a w r own hs => hs.weak S' [(j0, B)] [(j1, j0)] ht hh h1 h2 hr (by simp [hm])
  (fun i i' l hi hi' => by
    simp only [List.lookup_cons, List.lookup_nil] at hi hi'
    split at hi
    · split at hi'
      · simp_all
      · cases hi'
    · cases hi)
  (fun l B' hl => by
    obtain ⟨rfl, rfl⟩ : l = j0 /\ B' = B := by simpa using hl
    exact ⟨j1, B', by simp [List.lookup_cons], hA, fun _ _ h => h⟩)
end
inductive G where
 | mk (vals : List Value) (kids : List G)
def G.vals : G -> List Value
 | .mk v _ => v
def G.kids : G -> List G
 | .mk _ k => k
mutual
inductive GA (w : World) (e size : Nat) : (Nat -> Prop) -> List Value -> List G -> Prop
 | nil {F : Nat -> Prop} : GA w e size F [] []
 | cons {F : Nat -> Prop} {vals : List Value} {v : Value} {rows : List Value} {kids l : List G} : vals.length + 1 = size -> GS w e size F v kids -> GA w e size F rows l -> GA w e size F (vals ++ v :: rows) (.mk vals kids :: l)
inductive GS (w : World) (e size : Nat) : (Nat -> Prop) -> Value -> List G -> Prop
 | mk {F : Nat -> Prop} {v : Value} {rows : List Value} {l : List G} : w.ownsRow 0 e size v l.length rows -> (∀ k, v.ownBlock = some k -> F k) -> (∀ u ∈ rows, u.oneCell' = true) ->
    GA w e size (fun k => F k /\ v.ownBlock ≠ some k) rows l -> GS w e size F v l
end
theorem ownsRow_loc {w w' : World} {e size n : Nat} {v : Value} {xs : List Value} (h : w.ownsRow 0 e size v n xs) (hw : ∀ k, v.ownBlock = some k -> w'.heap[k]? = w.heap[k]?) : w'.ownsRow 0 e size v n xs := by
 obtain ⟨h1, h2⟩ := h
 refine ⟨h1, ?_⟩
 rcases h2 with h2 | ⟨g, cap, cur, rfl, hb, hg, rest⟩
 · exact .inl h2
 · exact .inr ⟨g, cap, cur, rfl, hb, by rw [hw g rfl]; exact hg, rest⟩
mutual
theorem GA.ext {w w' : World} {e size : Nat} : ∀ {F F' : Nat -> Prop} {rows : List Value} {l : List G}, GA w e size F rows l -> (∀ k, F k -> F' k) -> (∀ k, F k -> w'.heap[k]? = w.heap[k]?) -> GA w' e size F' rows l
 | _, _, _, _, .nil, _, _ => .nil
 | _, _, _, _, .cons h1 h2 h3, hF, hw => .cons h1 (GS.ext h2 hF hw) (GA.ext h3 hF hw)
theorem GS.ext {w w' : World} {e size : Nat} : ∀ {F F' : Nat -> Prop} {v : Value} {l : List G}, GS w e size F v l -> (∀ k, F k -> F' k) -> (∀ k, F k -> w'.heap[k]? = w.heap[k]?) -> GS w' e size F' v l
 | _, _, _, _, .mk h1 h2 h3 h4, hF, hw => .mk (ownsRow_loc h1 (fun k hk => hw k (h2 k hk))) (fun k hk => hF k (h2 k hk)) h3 (GA.ext h4 (fun k hk => ⟨hF k hk.1, hk.2⟩) (fun k hk => hw k hk.1))
end
theorem GA.append {w : World} {e size : Nat} : ∀ {F : Nat -> Prop} {rows rows' : List Value} {l l' : List G}, GA w e size F rows l -> GA w e size F rows' l' -> GA w e size F (rows ++ rows') (l ++ l')
 | _, _, _, _, _, .nil, h => h
 | _, _, _, _, _, .cons (vals := vals) (v := v) (rows := rows) h1 h2 h3, h => by
   have := GA.cons h1 h2 (GA.append h3 h)
   simpa using this
theorem GA.at {w : World} {e size : Nat} : ∀ {F : Nat -> Prop} {rows : List Value} {l : List G} (i : Nat) (x : G), GA w e size F rows l -> l[i]? = some x -> ∃ v, (rows.drop (i * size)).take size = x.vals ++ [v] /\ x.vals.length + 1 = size /\ GS w e size F v x.kids
 | _, _, _, i, x, .nil, hx => by simp at hx
 | _, _, _, 0, x, .cons (vals := vals) (v := v) (rows := rows) h1 h2 h3, hx => by
   simp only [List.getElem?_cons_zero, Option.some.injEq] at hx
   subst hx
   refine ⟨v, ?_, h1, h2⟩
   subst h1
   simp [G.vals, List.take_append, List.take_of_length_le (Nat.le_succ vals.length)]
 | _, _, _, i + 1, x, .cons (vals := vals) (v := v) (rows := rows) h1 h2 h3, hx => by
   obtain ⟨v', e1, e2, e3⟩ := GA.at i x h3 (by simpa using hx)
   refine ⟨v', ?_, e2, e3⟩
   rw [<- e1]
   have : (vals ++ v :: rows).drop ((i + 1) * size) = rows.drop (i * size) := by
    rw [Nat.succ_mul, Nat.add_comm, <- h1, <- List.drop_drop]
    congr 1
    rw [List.append_cons, List.drop_append]
    simp
   rw [this]
def Trs (e size : Nat) (v : Value) (l : List G) : Asn where
 P w F := GS w e size F v l
 loc := fun hw h => h.ext (fun _ h => h) hw
theorem GS.nil {w : World} {e size : Nat} {F : Nat -> Prop} : GS w e size F (.slice none 0 0) [] :=
 .mk (World.ownsRow_nil w _ e size) (fun k hk => by cases hk) (fun u hu => by cases hu) .nil
theorem GS.at {w : World} {e size : Nat} {F : Nat -> Prop} {v : Value} {l : List G} (h : GS w e size F v l) : ∃ A cp, v = .slice A l.length cp /\ (l = [] \/ A.isSome = true) /\ ∀ i x, l[i]? = some x -> F (A.getD default).block /\ x.vals.length + 1 = size /\ ∃ v', (∀ j u, (x.vals ++ [v'])[j]? = some u -> w.cell? (((A.getD default).add (i * size)).add j) = some u) /\ GS w e size F v' x.kids := by
 obtain ⟨⟨h1, h2⟩, h3, h4, h5⟩ := h
 rcases h2 with ⟨rfl, h2⟩ | ⟨g, cap, cur, rfl, hb, hg, hn, hc, hs, rfl⟩
 · obtain rfl : l = [] := List.eq_nil_of_length_eq_zero h2
   exact ⟨none, 0, rfl, .inl rfl, fun i x hx => by simp at hx⟩
 · refine ⟨some ⟨g, 0, none⟩, cap, rfl, .inr rfl, fun i x hx => ?_⟩
   obtain ⟨v', e1, e2, e3⟩ := GA.at i x h5 hx
   refine ⟨h3 g rfl, e2, v', fun j u hu => ?_, e3.ext (fun k hk => hk.1) (fun _ _ => rfl)⟩
   have hj : j < size := by
    have := (List.getElem?_eq_some_iff.1 hu).1
    simp at this
    omega
   have hil : i < l.length := (List.getElem?_eq_some_iff.1 hx).1
   rw [<- e1, List.getElem?_take_of_lt hj, List.getElem?_drop, List.getElem?_take] at hu
   split at hu
   · rw [Option.getD_some, addr_add, addr_add]
     simp only [World.cell?, hg]
     simpa using hu
   · cases hu
def Asn.sep (B1 B2 : Asn) : Asn where
 P w F := ∃ F1 F2 : Nat -> Prop, (∀ k, F k ↔ F1 k \/ F2 k) /\ (∀ k, F1 k -> ¬ F2 k) /\ B1.P w F1 /\ B2.P w F2
 loc := fun {w w' F} hw h => by
  obtain ⟨F1, F2, h1, h2, h3, h4⟩ := h
  exact ⟨F1, F2, h1, h2, B1.loc (fun k hk => hw k ((h1 k).2 (.inl hk))) h3, B2.loc (fun k hk => hw k ((h1 k).2 (.inr hk))) h4⟩
section
variable {X : Cx} {S : St} {A : Facts} {a : Act} {w : World} {r : Nat -> Nat} {own : Nat -> Option Ent}
theorem Sim.split (h : Sim X S A a w r own) {j : Nat} {B1 B2 : Asn} (hj : (j, Asn.sep B1 B2) ∈ A) : ∃ own', Sim X { S with m := S.m + 2 } ((S.m + 1, B2) :: (S.m, B1) :: outF [j] A) a w r own' := by
 obtain ⟨_, F1, F2, h1, h2, h3, h4⟩ := h.fact j _ hj
 have hs := h.trade [j] (B := B1) (F := F1) (w' := w) (Frm.refl _ w) h3 (fun k hk => .inl ⟨j, by simp, (h1 k).2 (.inl hk)⟩)
 have hs2 := hs.addF (B := B2) (F := F2) h4 (fun k hk => by
  have hk' := (h1 k).2 (.inr hk)
  refine ⟨?_, (h.bnd k _ hk').1, (h.bnd k _ hk').2⟩
  have : ¬ F1 k := fun hf => h2 k hf hk
  simp [this, hk'])
 exact ⟨_, hs2⟩
theorem Sim.addE (h : Sim X S A a w r own) {B : Asn} (hB : ∀ w, B.P w (fun _ => False)) : ∃ own', Sim X { S with m := S.m + 1 } ((S.m, B) :: A) a w r own' :=
 ⟨_, h.addF (B := B) (F := fun _ => False) (hB w) (fun _ hk => hk.elim)⟩
theorem Sim.cell (h : Sim X S A a w r own) {ad : Addr} {v : Value} (hc : X.w0.cell? ad = some v) (hM : ¬ X.M ad.block) : w.cell? ad = some v := by
 have hlt : ad.block < X.w0.heap.size := by
  unfold World.cell? at hc
  split at hc
  · rename_i hb
    exact (Array.getElem?_eq_some_iff.1 hb).1
  · cases hc
 unfold World.cell? at hc ⊢
 rw [h.frm.block _ hlt hM]
 exact hc
end
theorem add_block (ad : Addr) (n : Nat) : (ad.add n).block = ad.block := by
 unfold Addr.add
 split <;> rfl
section
variable {E : En} {S : St} {α : Type} {φ : α -> Prop} {c : Call} {dst : Option Tmp} {ty : TypeId} {pos : String} {after : Array Edge} {guard : Option (Nat × Bool)} {o : Oper} {wr : List Nat}
theorem LS.then {S1 : α -> St} {A1 : α -> Facts} (hl : LS E S o wr φ S1 A1) (S2 : α -> St) (A2 : α -> Facts) (hh : ∀ x, (S2 x).h = (S1 x).h) (hn : ∀ x, (S2 x).n = (S1 x).n)
 (ht : ∀ x a w r own, Sim E.X (S1 x) (A1 x) a w r own -> ∃ own', Sim E.X (S2 x) (A2 x) a w r own') : LS E S o wr φ S2 A2 := by
 intro a w r own hs K Q hK
 refine hl a w r own hs K Q fun x hx a' w' r' own' hs' hk => ?_
 obtain ⟨own2, h2⟩ := ht x _ _ _ _ hs'
 exact hK x hx _ _ _ _ h2 ⟨hk.nam, hk.blk, hk.siz, by rw [hn]; exact hk.bnd, by rw [hh]; exact hk.dwn, by rw [hh]; exact hk.up⟩
theorem LS_rcell {P : Program} {t : TypeId} {x : Operand} (ad : Addr) (vals : List Value) (agg : Bool) (hP : E.X.P = P) (hx : ev S x = .sc (.va (.pointer (some ad)))) (hc : ∀ a w r own, Sim E.X S E.A a w r own -> ∀ j u, vals[j]? = some u -> w.cell? (ad.add j) = some u)
 (hsz : szT P t = some (vals.length, agg)) (hag : agg = false -> vals.length = 1) : LS E S ⟨dst, .load t x, ty, pos, after, guard⟩ [] (fun _ : Unit => True) (fun _ => S.put dst (rdV agg vals)) (fun _ => E.A) :=
 LS_yl fun a w r own hs => by
  subst hP
  have he := (ev_ok hs.toR x).1
  rw [hx] at he
  have hp := va_of he
  have hget := hc a w r own hs
  cases agg with
  | true =>
    refine ⟨.agg vals.toArray, ⟨vals, rfl, CL_va _⟩, ltL_va _ _, ?_⟩
    have hrun : (loadCells ad vals.length).run E.X.P w = .ok vals.toArray w := run_loadCells_list w _ _ hget
    simp [execOp, hp, Instr.loadAt, Instr.sureAddr, loadVar, run_isAgg' hsz, run_sizeOf' hsz, hrun]
  | false =>
    obtain ⟨v, rfl⟩ := List.length_eq_one_iff.1 (hag rfl)
    refine ⟨v, ok_va r v, trivial, ?_⟩
    have hc0 : w.cell? ad = some v := by have := hget 0 v rfl; simpa [Addr.add] using this
    simp [execOp, hp, Instr.loadAt, Instr.sureAddr, loadVar, run_isAgg' hsz, hc0]
theorem LS_rcell0 {P : Program} {t : TypeId} {x : Operand} (ad : Addr) (vals : List Value) (agg : Bool) (hP : E.X.P = P) (hx : ev S x = .sc (.va (.pointer (some ad)))) (hc : ∀ j u, vals[j]? = some u -> E.X.w0.cell? (ad.add j) = some u) (hM : ¬ E.X.M ad.block)
 (hsz : szT P t = some (vals.length, agg)) (hag : agg = false -> vals.length = 1) : LS E S ⟨dst, .load t x, ty, pos, after, guard⟩ [] (fun _ : Unit => True) (fun _ => S.put dst (rdV agg vals)) (fun _ => E.A) :=
 LS_rcell ad vals agg hP hx (fun a w r own hs j u hu => hs.cell (hc j u hu) (by rw [add_block]; exact hM)) hsz hag
theorem LS_callM2 {f : FuncId} {P : Program} (n t : Nat) (J : List Nat) (res : α -> SV) (φ : α -> Prop) (B1 B2 : α -> Asn) (cs' : α -> List Value) {cs : List Cl} (hP : E.X.P = P) (hc : c.callee = .value (.func f)) (hf : callable P f = true) (hl : ∀ x, (res x).lt 0)
 (hk : (c.args.toList.all fun x => (ev S x).known) = true) (hm : (n, t, cs) ∈ S.h) (hu : ∀ t' cs', (n, t', cs') ∈ S.h -> t' = t)
 (hcall : ∀ a w r own, Sim E.X S E.A a w r own -> Calls P f ((c.args.toList.map fun x => (ev S x).den r).toArray) w (RetN res φ (fun x => Asn.sep (B1 x) (B2 x)) (r n) t cs' (fun k => ∃ j ∈ J, own k = some (.fa j)) w)) :
 LS E S ⟨dst, .call c, ty, pos, after, guard⟩ [n] φ (fun x => { S.putN n (cs' x) dst (res x) with m := S.m + 3 }) (fun x => (S.m + 2, B2 x) :: (S.m + 1, B1 x) :: outF (S.m :: J) E.A) := by
 refine LS.then (LS_callM n t J res φ (fun x => Asn.sep (B1 x) (B2 x)) cs' hP hc hf hl hk hm hu hcall) _ _ (fun _ => rfl) (fun _ => rfl) fun x a w r own hs => ?_
 obtain ⟨own', h2⟩ := hs.split (j := S.m) (List.mem_cons_self ..)
 have hm' : (S.putN n (cs' x) dst (res x)).m = S.m + 1 := by cases dst <;> rfl
 rw [hm'] at h2
 refine ⟨own', ?_⟩
 have hA : outF [S.m] ((S.m, Asn.sep (B1 x) (B2 x)) :: outF J E.A) = outF (S.m :: J) E.A := by
  simp only [outF, List.filter_cons, List.contains_cons, BEq.rfl, Bool.true_or, Bool.not_true, List.filter_filter]
  refine (if_neg (by simp)).trans ?_
  refine List.filter_congr fun y _ => ?_
  simp
 rw [hA] at h2
 exact h2
end
def startF (svs : List SV) (h : Heap) (n : Nat) (k : Nat) : St := ⟨svs ++ List.replicate k undefSV, h, n, 1⟩
theorem calls_startF {P : Program} {f : FuncId} {fn : Func} {c : Code} {args : List Value} {w : World} {R : Ending -> World -> Prop} (n : Nat) (gs : List Nat) (hp : Heap) (svs : List SV) (B : Asn) (F0 : Nat -> Prop)
 (hf : P.funcs[f]? = some fn) (hb : fn.body = some c) (hargs' : ArgsOk gs svs args)
 (hnd : gs.Nodup) (hh : HpOk w gs hp) (hB : B.P w F0) (hF : ∀ k, F0 k -> k ∉ gs /\ k < w.heap.size)
 (h : ∀ E : En, E.X = ⟨P, w, fun k => k ∈ gs \/ F0 k, [], rtOf 0 gs⟩ -> E.X.P = P -> E.A = [(0, B)] -> E.Q = bodyPost P fn R -> vc E n c .nil (startF svs hp gs.length (fn.ntmps - args.length))) : Calls P f args.toArray w R := by
 classical
 obtain ⟨hlen, hargs⟩ := ArgsOk_spec hargs'
 refine calls_of_wp hf hb ?_
 replace h := h ⟨⟨P, w, fun k => k ∈ gs \/ F0 k, [], rtOf 0 gs⟩, [(0, B)], bodyPost P fn R⟩ rfl rfl rfl rfl
 have hfr := frame_ok (vs := args) (svs := svs) (r := fun n => gs.getD n 0) (b := gs.length) (k := fn.ntmps - args.length) hlen hargs
 have hown : ∀ n, n < gs.length -> gs.idxOf (gs.getD n 0) = n := fun n hn => by
  rw [List.getD_eq_getElem?_getD, List.getElem?_eq_getElem hn]
  exact hnd.idxOf_getElem n hn
 have hmem : ∀ n, n < gs.length -> gs.getD n 0 ∈ gs := fun n hn => by
  rw [List.getD_eq_getElem?_getD, List.getElem?_eq_getElem hn]
  exact List.getElem_mem hn
 have := vc_ok n c .nil _ h { tmps := args.toArray ++ Array.replicate (fn.ntmps - args.toArray.size) undef, defers := [] } w (fun n => gs.getD n 0) (fun k => if k ∈ gs /\ k < w.heap.size then some (.nm (gs.idxOf k)) else if F0 k then some (.fa 0) else none)
  ⟨rfl, by simpa [startF] using hfr.1, by simpa [startF] using hfr.2.1, hfr.2.2, (fun m t cs hm => by
   obtain ⟨e1, e2, vs, e3, e4, e5⟩ := HpOk_mem hh m t cs hm
   refine ⟨e1, e2, ?_, vs, e3, e4, e5⟩
   show (if gs.getD m 0 ∈ gs /\ gs.getD m 0 < w.heap.size then some (Ent.nm (gs.idxOf (gs.getD m 0))) else _) = some (Ent.nm m)
   rw [if_pos ⟨hmem m e1, (Array.getElem?_eq_some_iff.1 e3).1⟩, hown m e1]),
  (fun j B' hm => by
    obtain ⟨rfl, rfl⟩ : j = 0 /\ B' = B := by simpa using hm
    refine ⟨Nat.lt_succ_self 0, ?_⟩
    have : (fun k => (if k ∈ gs /\ k < w.heap.size then some (Ent.nm (gs.idxOf k)) else if F0 k then some (Ent.fa 0) else none) = some (.fa 0)) = F0 := by
     funext k
     apply propext
     by_cases hk : F0 k
     · have := hF k hk
       simp [this.1, hk]
     · by_cases hg : k ∈ gs /\ k < w.heap.size
       · simp [hg, hk]
       · simp only [if_neg hg, hk, if_false, reduceCtorEq]
    rw [this]
    exact hB),
  (fun k e hk => by
    by_cases hkg : k ∈ gs /\ k < w.heap.size
    · exact ⟨hkg.2, .inr (.inl hkg.1)⟩
    · by_cases hf0 : F0 k
      · exact ⟨(hF k hf0).2, .inr (.inr hf0)⟩
      · simp only [if_neg hkg, if_neg hf0, reduceCtorEq] at hk),
  (fun k m hk => by
    by_cases hkg : k ∈ gs /\ k < w.heap.size
    · simp only [hkg, and_self, if_true, Option.some.injEq, Ent.nm.injEq] at hk
      subst hk
      exact List.idxOf_lt_length_iff.2 hkg.1
    · by_cases hf0 : F0 k
      · simp only [if_neg hkg, if_pos hf0, Option.some.injEq, reduceCtorEq] at hk
      · simp only [if_neg hkg, if_neg hf0, reduceCtorEq] at hk),
  (fun k j hk => by
    by_cases hkg : k ∈ gs /\ k < w.heap.size
    · simp [hkg] at hk
    · by_cases hf0 : F0 k
      · simp only [if_neg hkg, if_pos hf0, Option.some.injEq, Ent.fa.injEq] at hk
        subst hk
        exact Nat.lt_succ_self 0
      · simp only [if_neg hkg, if_neg hf0, reduceCtorEq] at hk), Frm.refl _ _, (fun m g hm => by
    obtain ⟨_, h2⟩ := rtOf_mem hm
    rw [Nat.sub_zero] at h2
    exact ⟨(List.getElem?_eq_some_iff.1 h2).1, by rw [List.getD_eq_getElem?_getD, h2]; rfl⟩)⟩
 simpa [kq] using this
theorem retN_fin2 {α : Type} {P : Program} {w0 : World} {g : Nat} {F0 : Nat -> Prop} {S : St} {A : Facts} {a : Act} {w : World} {r : Nat -> Nat} {own : Nat -> Option Ent} (hs : Sim ⟨P, w0, fun k => k ∈ [g] \/ F0 k, [], rtOf 0 [g]⟩ S A a w r own) {t : Nat} {res : α -> SV} {φ : α -> Prop} {B1 B2 : α -> Asn} {cs : α -> List Value}
 (x : α) (hx : φ x) (hm : (0, t, (cs x).map .va) ∈ S.h) {u : Value} (hu : ∀ r, (res x).ok r u) {j1 j2 : Nat} (h1 : (j1, B1 x) ∈ A) (h2 : (j2, B2 x) ∈ A) (hne : j1 ≠ j2) :
 RetN res φ (fun x => Asn.sep (B1 x) (B2 x)) g t cs F0 w0 (.returned u) w := by
 have hr := (hs.rts 0 g (List.mem_singleton_self _)).2
 obtain ⟨_, _, e3, vs, e4, e5, e6⟩ := hs.heap 0 t _ hm
 have hv : vs = cs x := by
  have := CL_den (by simp [Cl.known]) e5
  rw [this, List.map_map]
  exact (List.map_congr_left fun v _ => rfl).trans (List.map_id _)
 subst hv
 rw [hr] at e4 e3
 refine ⟨x, hx, ⟨u, rfl, hu⟩, ⟨hs.frm.os, hs.frm.tape, hs.frm.output, hs.frm.size, fun k hk hn => hs.frm.block k hk (fun hm => hn (hm.imp (fun h => by simpa using h) id))⟩, e4, e6, fun k => own k = some (.fa j1) \/ own k = some (.fa j2), fun k hk => ?_, fun k => own k = some (.fa j1), fun k => own k = some (.fa j2), fun k => Iff.rfl, fun k hk hk' => ?_, (hs.fact j1 _ h1).2, (hs.fact j2 _ h2).2⟩
 · have hkk : ∃ j, own k = some (.fa j) := hk.elim (fun h => ⟨_, h⟩) (fun h => ⟨_, h⟩)
   obtain ⟨j, hj⟩ := hkk
   obtain ⟨b1, b2⟩ := hs.bnd k _ hj
   rcases b2 with b2 | b2 | b2
   · exact .inr ⟨b2, b1⟩
   · have hkg : k = g := by simpa using b2
     subst hkg
     rw [e3] at hj
     cases hj
   · exact .inl b2
 · have hk1 : own k = some (.fa j1) := hk
   have hk2 : own k = some (.fa j2) := hk'
   rw [hk1] at hk2
   simp only [Option.some.injEq, Ent.fa.injEq] at hk2
   exact hne hk2
attribute [go_sem] startF
abbrev Nw := Option Nat × List Value × Value × List G
def Nw.g (y : Nw) : G := .mk y.2.1 y.2.2.2
def Nw.cells (y : Nw) : List Value := y.2.1 ++ [y.2.2.1]
def Nw.ok (A : Facts) (e size j : Nat) (y : Nw) : Prop := y.2.1.length + 1 = size /\ match y.1 with
 | some i => i ≠ j /\ (i, Trs e size y.2.2.1 y.2.2.2) ∈ A
 | none => y.2.2 = (.slice none 0 0, [])
theorem GA.news {w : World} {e size : Nat} {F : Nat -> Prop} : ∀ {ys : List Nw}, (∀ y ∈ ys, y.2.1.length + 1 = size /\ GS w e size F y.2.2.1 y.2.2.2) -> GA w e size F (ys.map Nw.cells).flatten (ys.map Nw.g)
 | [], _ => .nil
 | y :: ys, h => by
   have h1 := h y (List.mem_cons_self ..)
   have := GA.cons h1.1 h1.2 (GA.news (ys := ys) fun z hz => h z (List.mem_cons_of_mem _ hz))
   simpa [Nw.cells, Nw.g] using this
theorem flat_len {size : Nat} : ∀ {ys : List Nw}, (∀ y ∈ ys, y.2.1.length + 1 = size) -> (ys.map Nw.cells).flatten.length = ys.length * size
 | [], _ => by simp
 | y :: ys, h => by
   have h1 := h y (List.mem_cons_self ..)
   have := flat_len (ys := ys) fun z hz => h z (List.mem_cons_of_mem _ hz)
   simp only [List.map_cons, List.flatten_cons, List.length_append, this, List.length_cons, Nat.succ_mul]
   simp only [Nw.cells, List.length_append, List.length_cons, List.length_nil]
   omega
section
variable {E : En} {S : St} {c : Call} {dst : Option Tmp} {ty : TypeId} {pos : String} {after : Array Edge} {guard : Option (Nat × Bool)}
theorem LS_appendG {P : Program} {s x : Operand} {t e size bytes : Nat} (j : Nat) (v : Value) (l : List G) (ys : List Nw) (hP : E.X.P = P) (hc : c = { callee := .builtin .append, args := #[s, x], argTypes := #[t, t] })
 (hT : rowT P t e size bytes = true) (hv : ev S s = .sc (.va v)) (hj : (j, Trs e size v l) ∈ E.A) (hn : News E S x ys.length (ys.map Nw.cells).flatten) (hy : ∀ y ∈ ys, y.ok E.A e size j) (hm : l.length + ys.length <= 2147483648) (hb : bytes <= 65536) :
 LS E S ⟨dst, .call c, ty, pos, after, guard⟩ [] (fun v' : Value => ∃ a cp, v' = .slice a (l.length + ys.length) cp /\ (ys ≠ [] -> a.isSome = true)) (fun v' => S.putM dst (.sc (.va v'))) (fun v' => (S.m, Trs e size v' (l ++ ys.map Nw.g)) :: outF (j :: ys.filterMap (·.1)) E.A) := by
 intro a w r own hs K Q hK
 subst hP
 subst hc
 obtain ⟨t1, ⟨i, z, t2, t3, t4, t5, t6⟩, t7⟩ := rowT_spec hT
 have he := (ev_ok hs.toR s).1
 rw [hv] at he
 obtain ⟨ad, cp, hx, hcell, hone⟩ := hn a w r own hs
 obtain ⟨rows, hrow, hF, h1, hga⟩ : ∃ rows, w.ownsRow 0 e size v l.length rows /\ (∀ k, v.ownBlock = some k -> own k = some (.fa j)) /\ (∀ u ∈ rows, u.oneCell' = true) /\ GA w e size (fun k => own k = some (.fa j) /\ v.ownBlock ≠ some k) rows l := by
  obtain ⟨e1, e2, e3, e4⟩ := (hs.fact j _ hj).2
  exact ⟨_, e1, e2, e3, e4⟩
 have hbb : (l.length + ys.length) * bytes <= 140737488355328 := by
  have : (l.length + ys.length) * bytes <= 2147483648 * 65536 := Nat.mul_le_mul hm hb
  omega
 obtain ⟨v', w', hr, hown, hg, hnil, hblk⟩ := run_append_blk (P := E.X.P) w t ty e i z size bytes t1 t2 t3 t4 t5 t6 t7 v l.length rows hrow ad ys.length cp (ys.map Nw.cells).flatten (flat_len fun y hy' => (hy y hy').1) hcell hone (by simp only [maxLen]; omega) hbb
 have hve := va_of he
 unfold Oper.wp execOp
 simp only [resolve, invoke, builtin, Sem.run_bind, Sem.run_pure, Result.andThen_ok, List.map_toArray, List.map_cons, List.map_nil, hve, hx, hr]
 have hfr : Frm (fun k => ∃ j' ∈ j :: ys.filterMap (·.1), own k = some (.fa j')) w w' := ⟨hg.os, hg.tape, hg.output, hg.size, fun k hk hno => hg.block k hk (fun he => hno ⟨j, by simp, hF k he.symm⟩)⟩
 have hlt : ∀ k e, own k = some e -> k < w.heap.size := fun k e hk => (hs.bnd k e hk).1
 have hno : ∀ k i', own k = some (.fa i') -> (v.ownBlock ≠ some k) -> v'.ownBlock ≠ some k := fun k i' hk h0 he => by
  rcases hblk k he with h | h
  · exact h0 h
  · exact absurd (hlt k _ hk) (Nat.not_lt.2 h.1)
 have hsame : ∀ k i', own k = some (.fa i') -> v.ownBlock ≠ some k -> w'.heap[k]? = w.heap[k]? := fun k i' hk h0 => hg.block k (hlt k _ hk) (fun he => h0 he.symm)
 have h2 := hs.trade (j :: ys.filterMap (·.1)) (B := Trs e size v' (l ++ ys.map Nw.g)) (F := fun k => v'.ownBlock = some k \/ ∃ j' ∈ j :: ys.filterMap (·.1), own k = some (.fa j') /\ v.ownBlock ≠ some k) hfr ?_ ?_
 · refine hK v' ?_ _ _ _ _ (h2.put dst (ok_va r v') trivial) (.same (put_h ..).1 (put_h ..).2 hfr.size fun n t cs hm _ => hfr.block _ (hs.bnd _ _ (hs.heap n t cs hm).2.2.1).1 (fun ⟨j, _, hj⟩ => by
    rw [(hs.heap n t cs hm).2.2.1] at hj; cases hj))
   obtain ⟨_, h2 | ⟨g, cap, cur, rfl, _⟩⟩ := hown
   · refine ⟨none, 0, by rw [h2.1, h2.2], fun hne => ?_⟩
     have := h2.2
     have h0 : ys.length = 0 := by omega
     exact absurd (List.eq_nil_of_length_eq_zero h0) hne
   · exact ⟨_, _, rfl, fun _ => rfl⟩
 · refine GS.mk (rows := rows ++ (ys.map Nw.cells).flatten) (by simpa using hown) (fun k hk => .inl hk) (fun u hu => (List.mem_append.1 hu).elim (h1 u) (hone u)) ?_
   refine GA.append (hga.ext (fun k hk => ⟨.inr ⟨j, by simp, hk⟩, hno k _ hk.1 hk.2⟩) (fun k hk => hsame k _ hk.1 hk.2)) (GA.news fun y hy' => ?_)
   obtain ⟨e1, e2⟩ := hy y hy'
   refine ⟨e1, ?_⟩
   split at e2
   · rename_i i' hi'
     obtain ⟨e3, e4⟩ := e2
     have hd : ∀ k, own k = some (.fa i') -> v.ownBlock ≠ some k := fun k hk hb' => by
      have := hF k hb'
      rw [hk] at this
      simp only [Option.some.injEq, Ent.fa.injEq] at this
      exact e3 this
     have hgs : GS w e size (fun k => own k = some (.fa i')) y.2.2.1 y.2.2.2 := (hs.fact i' _ e4).2
     exact hgs.ext (fun k hk => ⟨.inr ⟨i', List.mem_cons_of_mem _ (List.mem_filterMap.2 ⟨y, hy', hi'⟩), hk, hd k hk⟩, hno k _ hk (hd k hk)⟩) (fun k hk => hsame k _ hk (hd k hk))
   · rw [e2]
     exact GS.nil
 · intro k hk
   rcases hk with hk | ⟨j', hj', hk, _⟩
   · exact (hblk k hk).imp (fun h => ⟨j, by simp, hF k h⟩) id
   · exact .inl ⟨j', hj', hk⟩
end
attribute [go_sem] Nw.g Nw.cells List.filterMap
def Sel : List (Nat × Nat) -> Facts -> Facts -> Prop
 | [], _, [] => True
 | x :: σ, A, y :: A' => y.1 = x.2 /\ (x.1, y.2) ∈ A /\ Sel σ A A'
 | _, _, _ => False
def nodupB : List Nat -> Bool
 | [] => true
 | x :: l => !l.contains x && nodupB l
theorem nodupB_ok : ∀ {l : List Nat}, nodupB l = true -> l.Nodup
 | [], _ => List.nodup_nil
 | x :: l, h => by
   simp only [nodupB, Bool.and_eq_true, Bool.not_eq_true', List.contains_eq_mem, decide_eq_false_iff_not] at h
   exact List.nodup_cons.2 ⟨h.1, nodupB_ok h.2⟩
theorem lookup_mem' : ∀ {σ : List (Nat × Nat)} {j l : Nat}, σ.lookup j = some l -> (j, l) ∈ σ
 | x :: σ, j, l, h => by
   rw [List.lookup_cons] at h
   split at h
   · rename_i hj
     simp only [beq_iff_eq] at hj
     simp only [Option.some.injEq] at h
     subst hj h
     exact List.mem_cons_self ..
   · exact List.mem_cons_of_mem _ (lookup_mem' h)
theorem lookup_of_mem : ∀ {σ : List (Nat × Nat)} {j l : Nat}, (σ.map (·.1)).Nodup -> (j, l) ∈ σ -> σ.lookup j = some l
 | x :: σ, j, l, hn, h => by
   rw [List.map_cons, List.nodup_cons] at hn
   rcases List.mem_cons.1 h with rfl | h
   · simp
   · rw [List.lookup_cons]
     split
     · rename_i hj
       simp only [beq_iff_eq] at hj
       subst hj
       exact absurd (List.mem_map.2 ⟨_, h, rfl⟩) hn.1
     · exact lookup_of_mem hn.2 h
theorem nodup_snd_inj : ∀ {σ : List (Nat × Nat)} {j j' l : Nat}, (σ.map (·.2)).Nodup -> (j, l) ∈ σ -> (j', l) ∈ σ -> j = j'
 | x :: σ, j, j', l, hn, h, h' => by
   rw [List.map_cons, List.nodup_cons] at hn
   rcases List.mem_cons.1 h with rfl | hm
   · rcases List.mem_cons.1 h' with e | h'
     · exact (congrArg Prod.fst e).symm
     · exact absurd (List.mem_map.2 ⟨(j', l), h', rfl⟩) hn.1
   · rcases List.mem_cons.1 h' with rfl | h'
     · exact absurd (show l ∈ σ.map (·.2) from List.mem_map.2 ⟨(j, l), hm, rfl⟩) hn.1
     · exact nodup_snd_inj hn.2 hm h'
theorem Sel.spec : ∀ {σ : List (Nat × Nat)} {A A' : Facts}, Sel σ A A' -> ∀ l B, (l, B) ∈ A' -> ∃ j, (j, l) ∈ σ /\ (j, B) ∈ A
 | [], _, [], _, _, _, h => by cases h
 | [], _, _ :: _, h, _, _, _ => h.elim
 | x :: σ, A, y :: A', ⟨h1, h2, h3⟩, l, B, h => by
   rcases List.mem_cons.1 h with rfl | h
   · exact ⟨x.1, by simp only at h1; subst h1; exact List.mem_cons_self .., h2⟩
   · obtain ⟨j, e1, e2⟩ := Sel.spec h3 l B h
     exact ⟨j, List.mem_cons_of_mem _ e1, e2⟩
theorem Sim.sel {X : Cx} {S : St} {A : Facts} {a : Act} {w : World} {r : Nat -> Nat} {own : Nat -> Option Ent} (h : Sim X S A a w r own) (S' : St) (A' : Facts) (σ : List (Nat × Nat)) (ht : leT S'.t S.t) (hh : leH S'.h S.h) (h1 : ltTb S'.n S'.t = true) (h2 : ltHb S'.n S'.h = true)
 (hr : (X.rt.all fun x => decide (x.1 < S'.n)) = true) (hs : (σ.all fun x => decide (x.2 < S'.m)) = true) (hk : (nodupB (σ.map (·.1)) && nodupB (σ.map (·.2))) = true) (hf : Sel σ A A') : ∃ own', Sim X S' A' a w r own' := by
 simp only [Bool.and_eq_true] at hk
 obtain ⟨k1, k2⟩ := And.intro (nodupB_ok hk.1) (nodupB_ok hk.2)
 exact h.weak S' A' σ ht hh h1 h2 hr hs (fun j j' l e e' => nodup_snd_inj k2 (lookup_mem' e) (lookup_mem' e')) fun l B hl => by
  obtain ⟨j, e1, e2⟩ := hf.spec l B hl
  exact ⟨j, B, lookup_of_mem k1 e1, e2, fun _ _ h => h⟩
section
variable {E : En} {k : Kt} {S : St} {X : Cx}
theorem WC_addE {c : Code} (B : Asn) (hB : ∀ w, B.P w (fun _ => False)) (h : ∀ E' : En, E'.X = E.X -> E'.A = (S.m, B) :: E.A -> E'.Q = E.Q -> WC E' c k { S with m := S.m + 1 }) : WC E c k S :=
 WC_weak _ _ (fun _ _ _ _ hsim => hsim.addE hB) h
theorem WC_loopG {ι : Type} {b : Code} (φ : ι -> Prop) (ms : List Nat) (f : ι -> List (Nat × SV)) (Hp : ι -> Heap) (AI : ι -> Facts) (μ : ι -> Nat) (i0 : ι) (h0 : φ i0) (σ : List (Nat × Nat)) (hX : E.X = X)
 (hin : leT (over (forget S.t ms) (f i0)) S.t) (hh : leH (Hp i0) S.h) (h1 : ltTb S.n (over (forget S.t ms) (f i0)) = true) (h2 : ltHb S.n (Hp i0) = true)
 (hr : (X.rt.all fun x => decide (x.1 < S.n)) = true) (hs : (σ.all fun x => decide (x.2 < S.m)) = true) (hk : (nodupB (σ.map (·.1)) && nodupB (σ.map (·.2))) = true) (hA : Sel σ E.A (AI i0))
 (round : ∀ i, φ i -> ∀ E' : En, E'.X = X -> E'.A = AI i -> E'.Q = E.Q -> ∀ J : Act -> World -> Prop, (∀ j, φ j -> μ j < μ i -> ∀ a w r own, Sim X { S with t := over (forget S.t ms) (f j), h := Hp j } (AI j) a w r own -> J a w) ->
   WC E' b (.lp J k) { S with t := over (forget S.t ms) (f i), h := Hp i }) : WC E (.loop b) k S := by
 subst hX
 exact WC_loop_in φ (fun i => { S with t := over (forget S.t ms) (f i), h := Hp i }) AI μ i0 h0 (fun a w r own hsim => hsim.sel _ (AI i0) σ hin hh h1 h2 hr hs hk hA) round
theorem WX_lpG {J : Act -> World -> Prop} (S' : St) (A' : Facts) (σ : List (Nat × Nat)) (hX : E.X = X) (hJ : ∀ a w r own, Sim X S' A' a w r own -> J a w) (ht : leT S'.t S.t) (hh : leH S'.h S.h) (h1 : ltTb S'.n S'.t = true) (h2 : ltHb S'.n S'.h = true) (hr : (X.rt.all fun x => decide (x.1 < S'.n)) = true)
 (hs : (σ.all fun x => decide (x.2 < S'.m)) = true) (hk : (nodupB (σ.map (·.1)) && nodupB (σ.map (·.2))) = true) (hA : Sel σ E.A A') : WX E .normal (.lp J k) S :=
 WX_lp S' A' hX hJ fun a w r own hsim => hsim.sel S' A' σ ht hh h1 h2 hr hs hk hA
end
attribute [go_sem] Sel nodupB
