/- Lemmas for FnFilterTree; each condition stands in its statement. -/
import Derived.Test.YtbfenkhnfflpnaaGreatDoorGah
import Derived.Test.YtbfenkhnfflpnaaGreatDoorGck
namespace Go.Proofs.YtbfenkhnfflpnaaGreatDoor.Sx
open Go Go.RowKit
set_option maxRecDepth 100000
set_option maxHeartbeats 40000000
set_option linter.all false
section
attribute [local irreducible] leT leH WO WX WC WD
inductive T where
 | mk (k : Int) (v an tg : ByteArray) (st : Int) (kids : List T)
def T.k : T -> Int | .mk k _ _ _ _ _ => k
def T.v : T -> ByteArray | .mk _ v _ _ _ _ => v
def T.an : T -> ByteArray | .mk _ _ a _ _ _ => a
def T.tg : T -> ByteArray | .mk _ _ _ t _ _ => t
def T.st : T -> Int | .mk _ _ _ _ s _ => s
def T.kids : T -> List T | .mk _ _ _ _ _ l => l
def tvals (k : Int) (v an tg : ByteArray) (st : Int) : List Value := [.int .i64 k, .string v, .string an, .string tg, .int .i64 st]
mutual
def T.g : T -> G
 | .mk k v an tg st kids => .mk (tvals k v an tg st) (T.gs kids)
def T.gs : List T -> List G
 | [] => []
 | t :: l => T.g t :: T.gs l
end
theorem gs_map : ∀ l : List T, T.gs l = l.map T.g
 | [] => rfl
 | t :: l => by rw [T.gs, gs_map l, List.map_cons]
theorem gs_len (l : List T) : (T.gs l).length = l.length := by rw [gs_map, List.length_map]
theorem gs_get (l : List T) (i : Nat) : (T.gs l)[i]? = l[i]?.map T.g := by rw [gs_map, List.getElem?_map]
theorem gs_append (l m : List T) : T.gs (l ++ m) = T.gs l ++ T.gs m := by simp [gs_map]
theorem kid_at {w : World} {F : Nat -> Prop} {v : Value} {l : List T} (h : GS w 24 6 F v (T.gs l)) : ∃ A cp, v = .slice A l.length cp /\ (l = [] \/ A.isSome = true) /\ ∀ i t, l[i]? = some t -> F (A.getD default).block /\ ∃ ka kc, (∀ j u, (treeC t.k t.v t.an t.tg t.st ka t.kids.length kc)[j]? = some u -> w.cell? (((A.getD default).add (i * 6)).add j) = some u) /\ GS w 24 6 F (.slice ka t.kids.length kc) (T.gs t.kids) := by
 obtain ⟨A, cp, e1, e2, e3⟩ := h.at; rw [gs_len] at e1
 refine ⟨A, cp, e1, e2.imp (fun h => by cases l with | nil => rfl | cons x l => simp [T.gs] at h) id, fun i t ht => ?_⟩
 obtain ⟨f1, _, v', f3, f4⟩ := e3 i t.g (by rw [gs_get, ht]; rfl)
 cases t with
 | mk k v an tg st kids =>
   obtain ⟨ka, kc, rfl, _⟩ := f4.at; simp only [T.g, G.kids, gs_len] at *; exact ⟨f1, ka, kc, f3, f4⟩
def InT : Nat -> World -> (Nat -> Prop) -> Option Addr -> Nat -> Prop
 | 0, _, _, _, _ => True
 | d + 1, w, F, A, n => n <= 2147483647 /\ (n = 0 \/ A.isSome = true) /\ ∀ i, i < n -> F (A.getD default).block /\ ∃ k v an tg st ka kn kc, (∀ j u, (treeC k v an tg st ka kn kc)[j]? = some u -> w.cell? (((A.getD default).add (i * 6)).add j) = some u) /\ v.size <= 1048576 /\ an.size <= 1048576 /\ tg.size <= 1048576 /\ InT d w F ka kn
theorem cell_loc {w w' : World} {a : Addr} (h : w'.heap[a.block]? = w.heap[a.block]?) : w'.cell? a = w.cell? a := by
 unfold World.cell?
 rw [h]
theorem InT.ext : ∀ {d : Nat} {w w' : World} {F F' : Nat -> Prop} {A : Option Addr} {n : Nat}, InT d w F A n -> (∀ k, F k -> F' k) -> (∀ k, F k -> w'.heap[k]? = w.heap[k]?) -> InT d w' F' A n
 | 0, _, _, _, _, _, _, _, _, _ => trivial
 | d + 1, w, w', F, F', A, n, h, hF, hw => ⟨h.1, h.2.1, fun i hi => by
   obtain ⟨h1, k, v, an, tg, st, ka, kn, kc, h2, h3, h4, h5, h6⟩ := h.2.2 i hi
   refine ⟨hF _ h1, k, v, an, tg, st, ka, kn, kc, fun j u hj => ?_, h3, h4, h5, InT.ext h6 hF hw⟩
   rw [cell_loc (hw _ (by rw [add_block, add_block]; exact h1))]
   exact h2 j u hj⟩
theorem svI {k : IntKind} {x y : Int} (h : x = y) : SV.sc (.va (.int k x)) = SV.sc (.va (.int k y)) := by rw [h]
theorem one_cell {w : World} {ad : Addr} {v : Value} (h : w.cell? ad = some v) : ∀ (j : Nat) (u : Value), [v][j]? = some u -> w.cell? (ad.add j) = some u := fun j u hj => by
 cases j with
 | zero => simp only [List.getElem?_cons_zero, Option.some.injEq] at hj; subst hj; exact h
 | succ j => simp at hj
theorem LS_rc {E : En} {S : St} {dst : Option Tmp} {ty : TypeId} {pos : String} {after : Array Edge} {guard : Option (Nat × Bool)} {P : Program} {w0 : World} {M : Nat -> Prop} {d : List Deferred} {rt : List (Nat × Nat)} {t : TypeId} {x : Operand}
 (ad : Addr) (vals : List Value) (agg : Bool) (hX : E.X = ⟨P, w0, M, d, rt⟩) (hx : ev S x = .sc (.va (.pointer (some ad)))) (hc : ∀ j u, vals[j]? = some u -> w0.cell? (ad.add j) = some u) (hM : ¬ M ad.block)
 (hsz : szT P t = some (vals.length, agg)) (hag : agg = false -> vals.length = 1) : LS E S ⟨dst, .load t x, ty, pos, after, guard⟩ [] (fun _ : Unit => True) (fun _ => S.put dst (rdV agg vals)) (fun _ => E.A) :=
 LS_rcell0 ad vals agg (by rw [hX]) hx (by rw [hX]; exact hc) (by rw [hX]; exact hM) hsz hag
def arT (P : Program) (t : TypeId) : Option (Nat × Nat) :=
 match P.underlying t with
 | some (.array n e) => match P.info? e with
   | some i => some (n, i.size)
   | none => none
 | _ => none
theorem arT_spec {P : Program} {t n k : Nat} (h : arT P t = some (n, k)) : ∃ e i, P.underlying t = some (.array n e) /\ P.info? e = some i /\ i.size = k := by
 unfold arT at h
 split at h
 · rename_i m e he
   split at h
   · rename_i i hi
     simp only [Option.some.injEq, Prod.mk.injEq] at h; obtain ⟨rfl, rfl⟩ := h; exact ⟨e, i, he, hi, rfl⟩
   · cases h
 · cases h
def adOf : SV -> Addr
 | .sc (.va (.pointer (some a))) => a
 | _ => default
def isP : SV -> Bool
 | .sc (.va (.pointer (some _))) => true
 | _ => false
def isInt : SV -> Bool
 | .sc (.va (.int _ _)) => true
 | _ => false
def slOf : SV -> Option Addr × Nat × Nat
 | .sc (.va (.slice a n c)) => (a, n, c)
 | _ => (none, 0, 0)
def isSl : SV -> Bool
 | .sc (.va (.slice _ _ _)) => true
 | _ => false
theorem isP_of {s : SV} (h : isP s = true) : s = .sc (.va (.pointer (some (adOf s)))) := by
 unfold isP at h
 split at h
 · rfl
 · cases h
theorem isInt_of {s : SV} (h : isInt s = true) : ∃ k, s = .sc (.va (.int k (intOf s))) := by
 unfold isInt at h
 split at h
 · exact ⟨_, rfl⟩
 · cases h
theorem isSl_of {s : SV} (h : isSl s = true) : s = .sc (.va (.slice (slOf s).1 (slOf s).2.1 (slOf s).2.2)) := by
 unfold isSl at h
 split at h
 · rfl
 · cases h
section
variable {E : En} {S : St} {α : Type} {φ : α -> Prop} {c : Call} {dst : Option Tmp} {ty : TypeId} {pos : String} {after : Array Edge} {guard : Option (Nat × Bool)} {o : Oper} {P : Program}
theorem LS_aix {t : TypeId} {x i : Operand} (n k : Nat) (hP : E.X.P = P) (hT : arT P t = some (n, k)) (hx0 : isP (ev S x) = true) (hi0 : isInt (ev S i) = true) (h1 : 0 <= intOf (ev S i)) (h2 : intOf (ev S i) < n) :
 LS E S ⟨dst, .indexAddr t x i, ty, pos, after, guard⟩ [] (fun _ : Unit => True) (fun _ => S.put dst (.sc (.va (.pointer (some ((adOf (ev S x)).add ((intOf (ev S i)).toNat * k))))))) (fun _ => E.A) := by
 have hx := isP_of hx0; obtain ⟨k', hi⟩ := isInt_of hi0
 generalize adOf (ev S x) = ad at *
 generalize intOf (ev S i) = m at *
 refine LS_any (o := ⟨dst, .indexAddr t x i, ty, pos, after, guard⟩) (fun _ : Unit => Value.pointer (some (ad.add (m.toNat * k)))) (fun _ => True) fun a w r own hs => ⟨(), trivial, w, .inl rfl, ?_⟩
 subst hP; have e1 := va_of (hx ▸ (ev_ok hs.toR x).1); have e2 := va_of (hi ▸ (ev_ok hs.toR i).1); obtain ⟨e, inf, hu, he, rfl⟩ := arT_spec hT
 simp [execOp, e1, e2, Instr.indexAt, asIntOf, run_underlying hu, Instr.sureAddr, h1, h2, sizeOf, typeInfo, he]
def lowOf (S : St) : Option Operand -> Int
 | some x => intOf (ev S x)
 | none => 0
def highOf (S : St) (d : Nat) : Option Operand -> Int
 | some x => intOf (ev S x)
 | none => d
def isIntO (S : St) : Option Operand -> Bool
 | some x => isInt (ev S x)
 | none => true
theorem sliceBounds_run {P : Program} {w : World} {a : Act} {r : Nat -> Nat} (h : SimR S a w r) {b : Bool} {len cap : Nat} {lo hi : Option Operand} (h1 : isIntO S lo = true) (h2 : isIntO S hi = true) (h3 : 0 <= lowOf S lo) (h4 : lowOf S lo <= highOf S len hi) (h5 : highOf S len hi <= cap) :
 (Instr.sliceBounds b len cap (lo.map a.eval) (hi.map a.eval) none).run P w = .ok ((lowOf S lo).toNat, (highOf S len hi).toNat, cap) w := by
 have hb : ∀ (x : Operand) (y : Nat) (c : BoundsCode), isInt (ev S x) = true -> 0 <= intOf (ev S x) -> intOf (ev S x) <= y -> (Instr.sliceBound (a.eval x) y c).run P w = .ok (intOf (ev S x)).toNat w := fun x y c hx h0 hy => by
  obtain ⟨k, hk⟩ := isInt_of hx; have e := va_of (hk ▸ (ev_ok h x).1); exact run_sliceBound e h0 hy w
 cases lo with
 | none =>
   cases hi with
   | none => simp [Instr.sliceBounds, lowOf, highOf]
   | some y =>
     simp only [highOf, lowOf, isIntO] at *
     simp [Instr.sliceBounds, hb y cap _ h2 h4 h5]
 | some x =>
   cases hi with
   | none =>
     simp only [highOf, lowOf, isIntO] at *
     simp [Instr.sliceBounds, hb x len _ h1 h3 h4]
   | some y =>
     simp only [highOf, lowOf, isIntO] at *
     have : intOf (ev S x) <= ((intOf (ev S y)).toNat : Nat) := by omega
     simp [Instr.sliceBounds, hb y cap _ h2 zo h5, hb x _ _ h1 h3 this]
def cutA (a : Addr) (c : Nat) (l : Int) (k : Nat) : Addr := if c = l.toNat then a else a.add (l.toNat * k)
theorem LS_asl {t : TypeId} {x : Operand} {lo hi : Option Operand} (n k : Nat) (hP : E.X.P = P) (hT : arT P t = some (n, k)) (hx0 : isP (ev S x) = true) (hl : isIntO S lo = true) (hh : isIntO S hi = true)
 (h1 : 0 <= lowOf S lo) (h2 : lowOf S lo <= highOf S n hi) (h3 : highOf S n hi <= n) :
 LS E S ⟨dst, .slice t x lo hi none, ty, pos, after, guard⟩ [] (fun _ : Unit => True) (fun _ => S.put dst (.sc (.va (.slice (some (cutA (adOf (ev S x)) n (lowOf S lo) k)) ((highOf S n hi).toNat - (lowOf S lo).toNat) (n - (lowOf S lo).toNat))))) (fun _ => E.A) := by
 have hx := isP_of hx0
 generalize adOf (ev S x) = ad at *
 refine LS_any (o := ⟨dst, .slice t x lo hi none, ty, pos, after, guard⟩) (fun _ : Unit => Value.slice (some (cutA ad n (lowOf S lo) k)) ((highOf S n hi).toNat - (lowOf S lo).toNat) (n - (lowOf S lo).toNat)) (fun _ => True) fun a w r own hs => ⟨(), trivial, w, .inl rfl, ?_⟩
 subst hP; have e1 := va_of (hx ▸ (ev_ok hs.toR x).1); obtain ⟨e, inf, hu, he, rfl⟩ := arT_spec hT; have hb := sliceBounds_run (P := E.X.P) hs.toR (b := false) hl hh h1 h2 h3
 simp [execOp, e1, Instr.sliceAt, run_underlying hu, Instr.sureAddr, hb, sizeOf, typeInfo, he, cutA]
theorem LS_ssl {t e k : Nat} {x : Operand} {lo hi : Option Operand} (hP : E.X.P = P) (hT : elT P t = some (e, k)) (hx0 : isSl (ev S x) = true) (hl : isIntO S lo = true) (hh : isIntO S hi = true)
 (h1 : 0 <= lowOf S lo) (h2 : lowOf S lo <= highOf S (slOf (ev S x)).2.1 hi) (h3 : highOf S (slOf (ev S x)).2.1 hi <= (slOf (ev S x)).2.2) :
 LS E S ⟨dst, .slice t x lo hi none, ty, pos, after, guard⟩ [] (fun _ : Unit => True) (fun _ => S.put dst (.sc (.va (.slice ((slOf (ev S x)).1.map fun a => cutA a (slOf (ev S x)).2.2 (lowOf S lo) k) ((highOf S (slOf (ev S x)).2.1 hi).toNat - (lowOf S lo).toNat) ((slOf (ev S x)).2.2 - (lowOf S lo).toNat))))) (fun _ => E.A) := by
 have hx := isSl_of hx0
 generalize slOf (ev S x) = sl at *
 obtain ⟨sa, sn, sc⟩ := sl
 simp only at *
 refine LS_any (o := ⟨dst, .slice t x lo hi none, ty, pos, after, guard⟩) (fun _ : Unit => Value.slice (sa.map fun a => cutA a sc (lowOf S lo) k) ((highOf S sn hi).toNat - (lowOf S lo).toNat) (sc - (lowOf S lo).toNat)) (fun _ => True) fun a w r own hs => ⟨(), trivial, w, .inl rfl, ?_⟩
 subst hP; have e1 := va_of (hx ▸ (ev_ok hs.toR x).1); obtain ⟨inf, hu, he, rfl⟩ := elT_spec hT; have hb := sliceBounds_run (P := E.X.P) hs.toR (b := true) hl hh h1 h2 h3
 have hsa : (if sc = (lowOf S lo).toNat then sa else Option.map (fun x => x.add ((lowOf S lo).toNat * inf.size)) sa) = sa.map fun a => cutA a sc (lowOf S lo) inf.size := by
  unfold cutA
  split
  · simp
  · rfl
 simp only [execOp, e1, Instr.sliceAt, Instr.slice, Sem.run_bind, run_underlying hu, Result.andThen_ok, sizeOf, typeInfo]
 simp [he, hb, hsa]
end
attribute [go_sem] adOf isP isInt slOf isSl lowOf highOf isIntO
section
attribute [local irreducible] LS WS
structure Gl (w : World) (F : Nat -> Prop) : Prop where
 lt : ∀ k, F k -> k < w.heap.size
 p10 : F 10 /\ ∀ i, i < 1392 -> ∃ v, U64 v /\ w.cell? ⟨10, i, none⟩ = some (.int .u64 v)
 u10 : F 3 /\ ∀ i, i < 20 -> w.cell? ⟨3, i, none⟩ = some (.int .u64 (10 ^ i))
 opt : F 2 /\ w.cell? ⟨2, 0, none⟩ = some (.bool true)
 inf : F 6 /\ w.cell? ⟨6, 0, none⟩ = some (.int .u64 52) /\ w.cell? ⟨6, 1, none⟩ = some (.int .u64 11) /\ w.cell? ⟨6, 2, none⟩ = some (.int .i64 (-1023))
 pt : F 8 /\ ∃ b o cp, F b /\ w.cell? ⟨8, 0, none⟩ = some (.slice (some ⟨b, o, none⟩) 9 cp) /\ ∀ i v, [1, 3, 6, 9, 13, 16, 19, 23, 26][i]? = some v -> w.cell? ⟨b, o + i, none⟩ = some (.int .i64 v)
 f10 : F 9 /\ ∃ b o cp, F b /\ w.cell? ⟨9, 0, none⟩ = some (.slice (some ⟨b, o, none⟩) 23 cp) /\ ∀ i, i < 23 -> ∃ v, w.cell? ⟨b, o + i, none⟩ = some (.float .f64 v)
 lc : F 11 /\ ∃ b o cp, F b /\ w.cell? ⟨11, 0, none⟩ = some (.slice (some ⟨b, o, none⟩) 61 cp) /\
  (w.cell? ⟨b, o + 2, none⟩ = some (.int .i64 1) /\ ∃ s : ByteArray, w.cell? ⟨b, o + 2 + 1, none⟩ = some (.string s) /\ 0 < s.size /\ s.size <= 2147483647 /\ bt s 0 = 53) /\
  (w.cell? ⟨b, o + 106, none⟩ = some (.int .i64 16) /\ ∃ s : ByteArray, w.cell? ⟨b, o + 106 + 1, none⟩ = some (.string s) /\ 0 < s.size /\ s.size <= 2147483647 /\ bt s 0 = 49)
 es : F 0 /\ ∃ t v, w.cell? ⟨0, 0, none⟩ = some (.iface t v)
 er : F 1 /\ ∃ t v, w.cell? ⟨1, 0, none⟩ = some (.iface t v)
theorem Gl.ext {w w' : World} {F : Nat -> Prop} (h : Gl w F) (hs : w.heap.size <= w'.heap.size) (hb : ∀ k, F k -> w'.heap[k]? = w.heap[k]?) : Gl w' F := by
 have hc : ∀ (k o : Nat) (v : Value), F k -> w.cell? ⟨k, o, none⟩ = some v -> w'.cell? ⟨k, o, none⟩ = some v := fun k o v hk hv => by
  rw [cell_loc (hb k hk)]; exact hv
 obtain ⟨h0, ⟨a1, a2⟩, ⟨b1, b2⟩, ⟨c1, c2⟩, ⟨d1, d2, d3, d4⟩, ⟨e1, be, oe, ce, e2, e3, e4⟩, ⟨f1, bf, ou, cf, f2, f3, f4⟩, ⟨g1, bg, og, cg, g2, g3, ⟨g4, s4, g5, g6⟩, g7, s7, g8, g9⟩, ⟨i1, ti, vi, i2⟩, j1, tj, vj, j2⟩ := h
 exact ⟨fun k hk => Nat.lt_of_lt_of_le (h0 k hk) hs, ⟨a1, fun i hi => let ⟨v, hv, h⟩ := a2 i hi; ⟨v, hv, hc _ _ _ a1 h⟩⟩, ⟨b1, fun i hi => hc _ _ _ b1 (b2 i hi)⟩, ⟨c1, hc _ _ _ c1 c2⟩, ⟨d1, hc _ _ _ d1 d2, hc _ _ _ d1 d3, hc _ _ _ d1 d4⟩,
  ⟨e1, be, oe, ce, e2, hc _ _ _ e1 e3, fun i v hv => hc _ _ _ e2 (e4 i v hv)⟩, ⟨f1, bf, ou, cf, f2, hc _ _ _ f1 f3, fun i hi => let ⟨v, h⟩ := f4 i hi; ⟨v, hc _ _ _ f2 h⟩⟩,
  ⟨g1, bg, og, cg, g2, hc _ _ _ g1 g3, ⟨hc _ _ _ g2 g4, s4, hc _ _ _ g2 g5, g6⟩, hc _ _ _ g2 g7, s7, hc _ _ _ g2 g8, g9⟩, ⟨i1, ti, vi, hc _ _ _ i1 i2⟩, j1, tj, vj, hc _ _ _ j1 j2⟩
theorem Gl.of {X : Cx} {S : St} {A : Facts} {a : Act} {w : World} {r : Nat -> Nat} {own : Nat -> Option Ent} {F : Nat -> Prop} (h : Gl X.w0 F) (hs : Sim X S A a w r own) (hM : ∀ k, F k -> ¬ X.M k) : Gl w F :=
 h.ext hs.frm.size fun k hk => hs.frm.block k (h.lt k hk) (hM k hk)
end
end
section
attribute [local irreducible] leT leH WO WX WC WD LS WS
structure Gy (w : World) (F : Nat -> Prop) : Prop where
 gl : Gl w F
 tab : ∃ t c, w.heap[3]? = some (.cells (Lib.pow10Tab.map fun z => Value.int .u64 z).toArray t c)
theorem Gy.ext {w w' : World} {F : Nat -> Prop} (h : Gy w F) (hs : w.heap.size <= w'.heap.size) (hb : ∀ k, F k -> w'.heap[k]? = w.heap[k]?) : Gy w' F :=
 ⟨h.gl.ext hs hb, by rw [hb 3 h.gl.u10.1]; exact h.tab⟩
theorem Gy.of {X : Cx} {S : St} {A : Facts} {a : Act} {w : World} {r : Nat -> Nat} {own : Nat -> Option Ent} {F : Nat -> Prop} (h : Gy X.w0 F) (hs : Sim X S A a w r own) (hM : ∀ k, F k -> ¬ X.M k) : Gy w F :=
 h.ext hs.frm.size fun k hk => hs.frm.block k (h.gl.lt k hk) (hM k hk)
theorem Gy.tabIs {w : World} {F : Nat -> Prop} (h : Gy w F) : Lib.TabIs Tryz.prog w "internal/strconv.uint64pow10" .u64 Lib.pow10Tab := by
 obtain ⟨t, c, ht⟩ := h.tab
 have hg : Tryz.prog.globalNamed "internal/strconv.uint64pow10" = some 3 := zk
 unfold Lib.TabIs World.var?
 rw [hg]; simp only [Option.bind_some, ht]
theorem frm_grow (w : World) (k : Nat) (os : Array Obj) : Frm (fun _ => False) w (Sort.grow (w.drewN k) os) :=
 ⟨rfl, rfl, rfl, by simp only [Sort.grow, World.drewN, Array.size_append]; omega, fun j hj _ => by simp only [Sort.grow, World.drewN]; rw [Array.getElem?_append_left hj]⟩
theorem c72 (b : Bool) (w : World) : Calls Tryz.prog 72 [.bool b].toArray w (RetS (.sc (.va (.string ⟨(Lib.formatBool b).toArray⟩))) w) :=
 (Tryz.strconv_FormatBool b w).mono fun e w' h => by
   obtain ⟨rfl, rfl⟩ := h; exact retS_va _ (Frm.refl _ _)
theorem c95 (s : ByteArray) (b : Bool) (h : Lib.parseBool s.data.toList = some b) (w : World) : Calls Tryz.prog 95 [.string s].toArray w (RetS (.tu [.sc (.va (.bool b)), .sc (.va .nilIface)]) w) :=
 (Tryz.strconv_ParseBool s b h w).mono fun e w' h => by
   obtain ⟨rfl, rfl⟩ := h; exact ⟨⟨_, rfl, fun r => tu2v _ _⟩, Frm.refl _ _⟩
theorem c179 (s p : ByteArray) (w : World) : Calls Tryz.prog 179 [.string s, .string p].toArray w (RetS (.sc (.va (.bool (Lib.hasPrefix s.data.toList p.data.toList)))) w) :=
 (Tryz.strings_HasPrefix s p w).mono fun e w' h => by
   obtain ⟨rfl, rfl⟩ := h; exact retS_va _ (Frm.refl _ _)
theorem c182 (s p : ByteArray) (w : World) : Calls Tryz.prog 182 [.string s, .string p].toArray w (RetS (.sc (.va (.string ⟨(Lib.trimPrefix s.data.toList p.data.toList).toArray⟩))) w) :=
 (Tryz.strings_TrimPrefix s p w).mono fun e w' h => by
   obtain ⟨rfl, rfl⟩ := h; exact retS_va _ (Frm.refl _ _)
theorem c24 (w : World) (F : Nat -> Prop) (hG : Gy w F) (n : Int) (hn : I64 n) : Calls Tryz.prog 24 [.int .i64 n, .int .i64 10].toArray w (RetS (.sc (.va (.string ⟨(Lib.itoa n).toArray⟩))) w) :=
 (Tryz.strconv_FormatInt_10 n hn.1 hn.2 w hG.tabIs).mono fun e w' h => by
   obtain ⟨rfl, k, os, rfl⟩ := h; exact retS_va _ (frm_grow w k os)
theorem c90 (w : World) (F : Nat -> Prop) (hG : Gy w F) (u : Nat) (h1 : 1 <= u) (h2 : u < 18446744073709551616) : Calls Tryz.prog 90 [.int .u64 u].toArray w (RetS (.sc (.va (.int .i64 (Lib.nDigits u)))) w) :=
 (Tryz.internal_strconv_numDigits u h1 h2 w hG.tabIs).mono fun e w' h => by
   obtain ⟨rfl, rfl⟩ := h; exact retS_va _ (Frm.refl _ _)
theorem c89 (i : Nat) (h : i < 100) (w : World) : Calls Tryz.prog 89 [.int .i64 i].toArray w (RetS (.sc (.va (.string ⟨(Lib.decDigits i).toArray⟩))) w) :=
 (Tryz.internal_strconv_small i h w).mono fun e w' h => by
   obtain ⟨rfl, rfl⟩ := h; exact retS_va _ (Frm.refl _ _)
theorem c183 (s : ByteArray) (hs : s.size <= 2147483647) (v : Int) (h : Lib.parseIntB 64 s.data.toList = .ok v) (w : World) : Calls Tryz.prog 183 [.string s, .int .i64 10, .int .i64 64].toArray w (RetS (.tu [.sc (.va (.int .i64 v)), .sc (.va .nilIface)]) w) :=
 (Tryz.strconv_ParseInt_10_at64_ok s zo v h w).mono fun e w' h => by
   obtain ⟨rfl, h⟩ := h
   refine ⟨⟨_, rfl, fun r => tu2v _ _⟩, ?_⟩
   rcases h with rfl | ⟨t, rfl⟩
   exact Frm.refl _ _; exact Frm.of_below (Lib.bytesWorld_below _ _ _)
theorem c184 (s : ByteArray) (hs : s.size <= 2147483647) (u : Nat) (h : Lib.parseUintB 64 s.data.toList = .ok u) (w : World) : Calls Tryz.prog 184 [.string s, .int .i64 10, .int .i64 64].toArray w (RetS (.tu [.sc (.va (.int .u64 u)), .sc (.va .nilIface)]) w) :=
 (Tryz.strconv_ParseUint_10_at64_ok s zo u h w).mono fun e w' h => by
   obtain ⟨rfl, h⟩ := h
   refine ⟨⟨_, rfl, fun r => tu2v _ _⟩, ?_⟩
   rcases h with rfl | rfl
   exact Frm.refl _ _; exact Frm.of_below (Lib.bytesWorld_below _ _ _)
theorem el336 : elT Tryz.prog 336 = none := zk
attribute [go_sem] el336
theorem ar336 : arT Tryz.prog 336 = some (696, 2) := zk
theorem retN_finA {α : Type} {P : Program} {w0 : World} {g : Nat} {S : St} {A : Facts} {a : Act} {w : World} {r : Nat -> Nat} {own : Nat -> Option Ent} (hs : Sim ⟨P, w0, fun k => k ∈ [g], [], rtOf 0 [g]⟩ S A a w r own) {t : Nat} {res : α -> SV} {φ : α -> Prop} {cs : α -> List Value} (x : α) (hx : φ x) (hm : (0, t, (cs x).map .va) ∈ S.h) {u : Value} (hu : ∀ r, (res x).ok r u) :
 RetN res φ (fun _ => Asn.emp) g t cs (fun _ => False) w0 (.returned u) w := by
 obtain ⟨_, _, ⟨u', e, h2⟩, h3, h4, h5, h6⟩ := retN_fin hs hm (sv := res x) hu
 cases e
 exact ⟨x, hx, ⟨u, rfl, h2⟩, h3, h4, h5, h6⟩
theorem tu0 {r : Nat -> Nat} : (SV.tu []).ok r (.tuple #[]) := ⟨[], rfl, rfl, fun i t ht => by simp at ht⟩
def psC (a b s : Int) : List Value := [.int .u64 a, .int .u64 b, .int .i64 s]
theorem c162 (w : World) (F : Nat -> Prop) (g : Nat) (e p lp : Int) (hG : Gl w F) (hF : ¬ F g) (hg : w.heap[g]? = some (.cells (psC 0 0 0).toArray 308 (0, 0))) (h1 : -348 <= p) (h2 : p <= 347) (h3 : -100000 <= e) (h4 : e <= 100000) (h5 : -100000 <= lp) (h6 : lp <= 100000) :
 Calls Tryz.prog 162 [.pointer (some ⟨g, 0, none⟩), .int .i64 e, .int .i64 p, .int .i64 lp].toArray w (RetN (fun _ : Int × Int => .tu []) (fun x => U64 x.1 /\ U64 x.2) (fun _ => Asn.emp) g 308 (fun x => psC x.1 x.2 (0 - (e + lp + 3))) (fun _ => False) w) := by
 have hh := HpOk_one hg rfl; obtain ⟨v1, hv1, c1⟩ := hG.p10.2 ((p - -348).toNat * 2) zo; obtain ⟨v2, hv2, c2⟩ := hG.p10.2 ((p - -348).toNat * 2 + 1) zo; have hn10 : ¬ (fun k => k ∈ [g]) (10 : Nat) := fun h => hF (by have : 10 = g := (by simpa using h); rw [<- this]; exact hG.p10.1)
 refine calls_startG 1000 [g] [(0, 308, [.va (.int .u64 0), .va (.int .u64 0), .va (.int .i64 0)])] [.sc (.pt 0 0), .sc (.va (.int .i64 e)), .sc (.va (.int .i64 p)), .sc (.va (.int .i64 lp))] Tryz.func162 rfl ⟨⟨rfl, rfl⟩, ⟨rfl, rfl⟩, ⟨rfl, rfl⟩, ⟨rfl, rfl⟩, trivial⟩ zp hh fun E hX hP hA hQ => ?_
 repeat' first
  | refine zA ?_ | apply zI <;> intro hdec | with_reducible constructor
  | apply WX_fin hX rfl hQ (.inr rfl)
  | (refine WO_LE 850 (LS_aix 696 2 hP ar336 ?_ ?_ ?_ ?_) ?_
     exact zq0; exact zq0
     rotate_left 2
     intro _ _)
  | (refine WO_LE 850 (LS_rc (⟨10, (p - -348).toNat * 2, none⟩) [.int .u64 v1] false hX ?_ ?_ ?_ ?_ (fun _ => rfl)) ?_; exact zq0; exact one_cell c1; exact hn10; exact sz224; intro _ _) | (refine WO_LE 850 (LS_rc (⟨10, (p - -348).toNat * 2 + 1, none⟩) [.int .u64 v2] false hX ?_ ?_ ?_ ?_ (fun _ => rfl)) ?_; exact zq0; exact one_cell c2; exact hn10; exact sz224; intro _ _)
  | simp (maxSteps := 20000000) only [Tryz.f162, go_sem, zL, ↓reduceIte, reduceCtorEq, Nat.reduceAdd, Nat.reduceMul, Nat.reduceSub, Nat.reduceLeDiff, Nat.reduceEqDiff, Nat.reduceLT, Nat.reduceBEq, Int.reduceEq, hP, hX, addr_add, psC]
 all_goals try first
  | omega | (unfold I64; omega)
 intro a w' r own hs'; exact retN_finA hs' (v1, v2) ⟨hv1, hv2⟩ zm fun r => tu0
theorem c164 (w : World) (g : Nat) (x a b s : Int) (hx : U64 x) (hg : w.heap[g]? = some (.cells (psC a b s).toArray 308 (0, 0))) :
 Calls Tryz.prog 164 [.int .u64 x, .pointer (some ⟨g, 0, none⟩)].toArray w (RU w) := by
 have hh := HpOk_one hg rfl
 refine calls_startG 1000 [g] [(0, 308, [.va (.int .u64 a), .va (.int .u64 b), .va (.int .i64 s)])] [.sc (.va (.int .u64 x)), .sc (.pt 0 0)] Tryz.func164 rfl ⟨⟨rfl, rfl⟩, ⟨rfl, rfl⟩, trivial⟩ zp hh ?_
 have hs63 := and64i s 63 63 zi zi; intro E hX hP hA hQ
 repeat' first
  | refine zA ?_ | apply zI <;> intro hdec | with_reducible constructor
  | (apply WO_call0 (α := Int × Int) (f := 193) 900 (fun x => .tu [.sc (.va (.int .u64 x.1)), .sc (.va (.int .u64 x.2))]) (fun x => U64 x.1 /\ U64 x.2) hP
     rfl; exact zq1; exact zq35; exact zq0
     · (intro a w r own hSim; simp only [go_sem]; with_reducible exact c193 _ _ _)
     intro ⟨hi1, lo1⟩ ⟨hh1, hl1⟩)
  | (refine zc0 (α := Int) 153 (fun x : Int => .sc (.va (.int .u64 x))) (fun x => 0 <= x /\ x <= 1) ?_ ?_; exact zq80; intro b1 hb1) | (refine WD_LS 850 ?_ (LS_call0 (α := Int) (f := 153) (fun x : Int => .sc (.va (.int .u64 x))) (fun x => 0 <= x /\ x <= 1) hP ?_ ?_ ?_ ?_ ?_) ?_ ?_; exact zq2; rfl; exact zq1; exact zq9; exact zq0; exact zq80; exact zq16; intro b2 hb2 E2 h1 h2 h3; obtain rfl := En_eq _ _ h1 h2 h3)
  | refine zu 7 sch164_7 [] ?_
  | refine zs20 ?_
 all_goals try first
  | omega
  | exact hs63.1
  | (intro a w' r own hs'
     exact ⟨_, wrapU64_rng _, ⟨_, rfl, fun r => .inr rfl⟩, frm_back hs' _ hh rfl (fun x hx => hx) (fun n hn => ⟨_, List.mem_singleton_self _, by simp at hn; omega⟩)⟩)
theorem c113 (k st : Int) (v an tg key : ByteArray) (ka : Option Addr) (kc : Nat) (l : List T) (F : Nat -> Prop) (w : World) (hl : l.length <= 100) (hg : GS w 24 6 F (.slice ka l.length kc) (T.gs l)) :
 Calls Tryz.prog 113 [.agg (treeC k v an tg st ka l.length kc).toArray, .string key].toArray w (Ret0 (fun b : Bool => .sc (.va (.bool b))) (fun b => b = true -> ∃ i t, l[2 * i]? = some t /\ t.v = key) w) := by
 obtain ⟨A, cp, e1, e2, e3⟩ := kid_at hg
 cases e1
 refine calls_start 1000 Tryz.func113 rfl fun E hX hP hA hQ => ?_
 repeat' first
  | refine zA ?_ | apply zI <;> intro hdec | with_reducible constructor
  | simp (maxSteps := 20000000) only [Tryz.f113, go_sem, zM, ↓reduceIte, reduceCtorEq, Nat.reduceAdd, Nat.reduceMul, Nat.reduceSub, Nat.reduceLeDiff, Nat.reduceEqDiff, hP, hX, treeC]
 apply WC_loopF (ι := Nat) (fun i => 2 * i <= l.length + 1) [6, 7, 8, 9, 10, 13, 14, 15, 16, 17, 18, 19, 20, 21, 22, 23, 24, 25, 26, 27, 28, 29, 4, 11, 12, 5] (fun i => [(5, .sc (.va (.int .i64 ((2 * i : Nat) : Int))))]) (fun i => l.length + 1 - i) 0 (Nat.zero_le _) hX
 exact zq10; exact zq24; intro i hi E' hX' hA' hQ' J hJ; rw [hA] at hJ; refine zl ?_; intro hX hP hA hQ
 refine vc_ok 900 _ _ _ ?_
 by_cases hlt : 2 * i < l.length
 · obtain ⟨A, rfl⟩ : ∃ A, ka = some A := by
    rcases e2 with e2 | e2
    · rw [e2] at hlt; simp at hlt
    · exact zq48
   obtain ⟨hF, ka', kc', hcell, _⟩ := e3 (2 * i) l[2 * i] (List.getElem?_eq_getElem hlt)
   generalize ht : l[2 * i] = t at hcell
   have hc0 := hcell 0 _ rfl; have hc1 := hcell 1 _ rfl; rw [Option.getD_some] at hc0 hc1; rw [show (A.add (2 * i * 6)).add 0 = A.add (2 * i * 6) from rfl] at hc0
   repeat' first
    | refine zA ?_ | apply zI <;> intro hdec | with_reducible constructor | (refine WO_LE 850 (LS_rc (A.add (2 * i * 6)) [.int .i64 t.k] false hX ?_ ?_ ?_ ?_ (fun _ => rfl)) ?_; exact zq0; exact one_cell hc0; exact zq8; exact sz3; intro _ _) | (refine WO_LE 850 (LS_rc ((A.add (2 * i * 6)).add 1) [.string t.v] false hX ?_ ?_ ?_ ?_ (fun _ => rfl)) ?_; exact zq0; exact one_cell hc1; exact zq8; exact sz9; intro _ _)
    | (apply WX_lpF _ hX (hJ (i + 1) zo zo)
       · (simp only [go_sem, Nat.reduceEqDiff, ↓reduceIte, true_and, and_self]; try first | rfl | exact svI zo)
       exact zq3; exact zq3; exact zq3; rfl)
    | simp (maxSteps := 20000000) only [Tryz.f113, go_sem, zM, ↓reduceIte, reduceCtorEq, Nat.reduceAdd, Nat.reduceMul, Nat.reduceSub, Nat.reduceLeDiff, Nat.reduceEqDiff, hP, hX, Int.toNat_natCast]
   all_goals first
    | omega | rfl | exact zr36 | (intro a w' r own hs'; exact ⟨_, fun _ => ⟨i, t, by rw [List.getElem?_eq_getElem hlt, ht], by assumption⟩, ⟨_, rfl, fun r => .inr rfl⟩, hs'.frm⟩) | (unfold I64; omega)
 · skip
   repeat' first
    | refine zA ?_ | apply zI <;> intro hdec | with_reducible constructor | refine zs5 ?_
   all_goals first
    | omega | (exfalso; omega) | exact zr36
end
section
attribute [local irreducible] leT leH WO WX WC WD
def T.good : Nat -> T -> Prop
 | 0, _ => False
 | d + 1, .mk k v an tg st kids => (k = 4 /\ kids = []) \/ (k = 1 /\ kids = [] /\ goodS v st) \/
    ((k = 2 \/ k = 3) /\ kids.length <= 6 /\ (k = 3 -> kids.length % 2 = 0 /\ ∀ i t, kids[2 * i]? = some t -> t.k = 1) /\ ∀ t ∈ kids, T.good d t)
def fitC (lf : Int) (sa : Option Addr) (sn sc : Nat) : List Value := [.int .i64 63, .int .i64 lf, .slice sa sn sc]
structure FO where
 t : T
 ka : Option Addr
 kc : Nat
 lf : Int
 sa : Option Addr
 sn : Nat
 sc : Nat
 xs : List Value
def FO.res (x : FO) : SV := .ag ((treeC x.t.k x.t.v x.t.an x.t.tg x.t.st x.ka x.t.kids.length x.kc).map .va)
def FO.row (x : FO) : Asn := Row 9 1 (.slice x.sa x.sn x.sc) x.sn x.xs
def FO.trs (x : FO) : Asn := Trs 24 6 (.slice x.ka x.t.kids.length x.kc) (T.gs x.t.kids)
def FO.cs (x : FO) : List Value := fitC x.lf x.sa x.sn x.sc
def strs (xs : List Value) : Prop := ∀ u ∈ xs, ∃ s : ByteArray, u = .string s
def fitOk (B lf : Int) (sn : Nat) (xs : List Value) : Prop := 0 <= lf /\ ((sn : Int) + lf <= B /\ B <= 30) /\ strs xs
def FO.ok (B : Int) (d : Nat) (lf : Int) (x : FO) : Prop := x.t.good d /\ x.lf <= lf - 1 /\ fitOk B x.lf x.sn x.xs
structure FitIn (B : Int) (w : World) (g : Nat) (lf : Int) (sa : Option Addr) (sn sc : Nat) (xs : List Value) (F0 FI : Nat -> Prop) : Prop where
 hg : w.heap[g]? = some (.cells (fitC lf sa sn sc).toArray 60 (0, 0))
 row : (Row 9 1 (.slice sa sn sc) sn xs).P w F0
 f0 : ∀ k, F0 k -> k ≠ g /\ k < w.heap.size
 fi : ∀ k, FI k -> k < w.heap.size /\ k ≠ g /\ ¬ F0 k
 ok : fitOk B lf sn xs
def TreeC (n : Nat) : Prop := ∀ (B : Int) (w : World) (g : Nat) (lf : Int) (sa : Option Addr) (sn sc : Nat) (xs : List Value) (F0 FI : Nat -> Prop) (k st : Int) (v an tg : ByteArray) (ka : Option Addr) (kn kc : Nat) (fl : Bool),
 FitIn B w g lf sa sn sc xs F0 FI -> 1 <= lf -> InT n w FI ka kn -> v.size <= 1048576 -> an.size <= 1048576 -> tg.size <= 1048576 ->
 Calls Tryz.prog 19 [.pointer (some ⟨g, 0, none⟩), .agg (treeC k v an tg st ka kn kc).toArray, .int .i64 (5 - n), .bool fl].toArray w
  (RetN FO.res (fun x => x.ok B (n + 1) lf /\ ((k.tmod 4 + 4).tmod 4 = 1 -> x.t.k = 1 /\ x.lf = lf - 1)) (fun x => Asn.sep x.row x.trs) g 60 FO.cs F0 w)
def KeyC (n : Nat) : Prop := ∀ (B : Int) (w : World) (g : Nat) (lf : Int) (sa : Option Addr) (sn sc : Nat) (xs : List Value) (F0 FI FM : Nat -> Prop) (k st : Int) (v an tg : ByteArray) (ka : Option Addr) (kn kc : Nat)
 (k' st' : Int) (v' an' tg' : ByteArray) (ka' : Option Addr) (kc' : Nat) (l : List T),
 FitIn B w g lf sa sn sc xs F0 FI -> 1 <= lf -> InT n w FI ka kn -> v.size <= 1048576 -> an.size <= 1048576 -> tg.size <= 1048576 -> l.length <= 4 -> GS w 24 6 FM (.slice ka' l.length kc') (T.gs l) -> (∀ k, FM k -> k < w.heap.size /\ k ≠ g /\ ¬ F0 k) ->
 Calls Tryz.prog 80 [.pointer (some ⟨g, 0, none⟩), .agg (treeC k v an tg st ka kn kc).toArray, .agg (treeC k' v' an' tg' st' ka' l.length kc').toArray, .int .i64 (4 - n)].toArray w
  (RetN FO.res (fun x => x.ok B (n + 1) lf /\ x.t.k = 1 /\ x.lf = lf - 1) (fun x => Asn.sep x.row x.trs) g 60 FO.cs F0 w)
def CollC (n : Nat) : Prop := ∀ (B : Int) (w : World) (g : Nat) (lf : Int) (sa : Option Addr) (sn sc : Nat) (xs : List Value) (F0 FI : Nat -> Prop) (k st : Int) (v an tg : ByteArray) (ka : Option Addr) (kn kc : Nat) (k' st' : Int) (v' an' tg' : ByteArray) (fl : Bool),
 FitIn B w g lf sa sn sc xs F0 FI -> k' = 2 \/ k' = 3 -> InT (n + 1) w FI ka kn -> v.size <= 1048576 -> an.size <= 1048576 -> tg.size <= 1048576 ->
 Calls Tryz.prog 37 [.pointer (some ⟨g, 0, none⟩), .agg (treeC k' v' an' tg' st' none 0 0).toArray, .agg (treeC k v an tg st ka kn kc).toArray, .int .i64 (4 - n), .bool fl].toArray w
  (RetN FO.res (fun x => x.ok B (n + 2) (lf + 1) /\ x.t.k = k') (fun x => Asn.sep x.row x.trs) g 60 FO.cs F0 w)
theorem P_congr {B : Asn} {w : World} {F F' : Nat -> Prop} (h : B.P w F) (he : ∀ k, F k ↔ F' k) : B.P w F' := by
 have : F = F' := funext fun k => propext (he k); exact this ▸ h
theorem FitIn.of {B : Int} {w0 : World} {g : Nat} {F0 FI : Nat -> Prop} {S : St} {A : Facts} {a : Act} {w : World} {r : Nat -> Nat} {own : Nat -> Option Ent} (hs : Sim ⟨Tryz.prog, w0, fun k => k ∈ [g] \/ F0 k, [], rtOf 0 [g]⟩ S A a w r own) {lf : Int} {sa : Option Addr} {sn sc : Nat} {xs : List Value}
 (hm : (0, 60, (fitC lf sa sn sc).map .va) ∈ S.h) (j : Nat) (hj : (j, Row 9 1 (.slice sa sn sc) sn xs) ∈ A) (hfi : ∀ k, FI k -> k < w0.heap.size /\ k ≠ g /\ ¬ F0 k) (hok : fitOk B lf sn xs) :
 FitIn B w (r 0) lf sa sn sc xs (fun k => ∃ j' ∈ [j], own k = some (.fa j')) FI := by
 have hr := (hs.rts 0 g (List.mem_singleton_self _)).2; have hon := (hs.heap 0 60 _ hm).2.2.1
 refine ⟨hs.blk hm, P_congr (hs.fact j _ hj).2 fun k => by simp, fun k hk => ?_, fun k hk => ?_, hok⟩
 · obtain ⟨j', _, hj'⟩ := hk
   refine ⟨fun he => ?_, (hs.bnd k _ hj').1⟩
   rw [he, hon] at hj'
   cases hj'
 · obtain ⟨h1, h2, h3⟩ := hfi k hk
   refine ⟨Nat.lt_of_lt_of_le h1 hs.frm.size, by rw [hr]; exact h2, fun ⟨j', _, hj'⟩ => ?_⟩
   rcases (hs.bnd k _ hj').2 with h | h | h
   exact absurd h (Nat.not_le.2 h1); exact h2 (by simpa using h); exact h3 h
theorem InT.of {w0 : World} {g : Nat} {F0 FI : Nat -> Prop} {S : St} {A : Facts} {a : Act} {w : World} {r : Nat -> Nat} {own : Nat -> Option Ent} (hs : Sim ⟨Tryz.prog, w0, fun k => k ∈ [g] \/ F0 k, [], rtOf 0 [g]⟩ S A a w r own)
 (hfi : ∀ k, FI k -> k < w0.heap.size /\ k ≠ g /\ ¬ F0 k) {n : Nat} {ka : Option Addr} {kn : Nat} (h : InT n w0 FI ka kn) : InT n w FI ka kn :=
 h.ext (fun _ h => h) fun k hk => hs.frm.block k (hfi k hk).1 fun hm => hm.elim (fun he => (hfi k hk).2.1 (by simpa using he)) (hfi k hk).2.2
theorem InT.nil : ∀ {n : Nat} {w : World} {FI : Nat -> Prop}, InT n w FI none 0
 | 0, _, _ => trivial
 | _ + 1, _, _ => ⟨Nat.zero_le _, .inl rfl, fun i hi => absurd hi (Nat.not_lt_zero i)⟩
theorem LS_i2s {E : En} {S : St} {dst : Option Tmp} {ty : TypeId} {pos : String} {after : Array Edge} {guard : Option (Nat × Bool)} {P : Program} {src d : TypeId} {x : Operand} {k : IntKind} {m : Int} (z : ByteArray) (hP : E.X.P = P) (hx : ev S x = .sc (.va (.int k m))) (hz : Utf8.encode m = z)
 (hs : (P.underlying src).isSome = true) (hd : P.underlying d = some .string) : LS E S ⟨dst, .convert src d x, ty, pos, after, guard⟩ [] (fun _ : Unit => True) (fun _ => S.put dst (.sc (.va (.string z)))) (fun _ => E.A) :=
 LS_yl fun a w r own hsim => by
  subst hP; have hv := va_of (hx ▸ (ev_ok hsim.toR x).1)
  refine ⟨.string z, .inr rfl, trivial, ?_⟩
  have := run_convert_int_string (P := E.X.P) w src d k m hs hd; rw [hz] at this
  simp [execOp, hv, this]
section
attribute [local irreducible] LS WS
section
variable {k : Int} {v an tg : ByteArray} {st : Int} {l : List T}
theorem T.k_mk : (T.mk k v an tg st l).k = k := rfl
theorem T.v_mk : (T.mk k v an tg st l).v = v := rfl
theorem T.an_mk : (T.mk k v an tg st l).an = an := rfl
theorem T.tg_mk : (T.mk k v an tg st l).tg = tg := rfl
theorem T.st_mk : (T.mk k v an tg st l).st = st := rfl
theorem T.kids_mk : (T.mk k v an tg st l).kids = l := rfl
end
attribute [go_sem] FO.res FO.row FO.trs FO.cs fitC T.k_mk T.v_mk T.an_mk T.tg_mk T.st_mk T.kids_mk
end
theorem LS.map {E : En} {S : St} {o : Oper} {wr : List Nat} {α β : Type} {φ : α -> Prop} {ψ : β -> Prop} {S1 : α -> St} {A1 : α -> Facts} {S2 : β -> St} {A2 : β -> Facts} (h : LS E S o wr φ S1 A1) (f : ∀ x, φ x -> ∃ y, ψ y /\ S2 y = S1 x /\ A2 y = A1 x) : LS E S o wr ψ S2 A2 := by
 intro a w r own hs K Q hK
 refine h a w r own hs K Q fun x hx a' w' r' own' hs' hk => ?_
 obtain ⟨y, hy, e1, e2⟩ := f x hx; exact hK y hy a' w' r' own' (by rw [e1, e2]; exact hs') (by rw [e1]; exact hk)
structure Ny where
 j : Nat
 t : T
 ka : Option Addr
 kc : Nat
def Ny.cells (y : Ny) : List Value := treeC y.t.k y.t.v y.t.an y.t.tg y.t.st y.ka y.t.kids.length y.kc
def Ny.nw (y : Ny) : Nw := (some y.j, tvals y.t.k y.t.v y.t.an y.t.tg y.t.st, .slice y.ka y.t.kids.length y.kc, T.gs y.t.kids)
theorem Ny.g (y : Ny) : y.nw.g = y.t.g := by
 obtain ⟨j, ⟨k, v, an, tg, st, kids⟩, ka, kc⟩ := y; rfl
theorem fm_some : ∀ (ys : List Ny), (ys.map Ny.nw).filterMap (·.1) = ys.map Ny.j
 | [] => rfl
 | y :: ys => by
   rw [List.map_cons, List.filterMap_cons, List.map_cons, <- fm_some ys]; rfl
section
variable {E : En} {S : St} {c : Call} {dst : Option Tmp} {ty : TypeId} {pos : String} {after : Array Edge} {guard : Option (Nat × Bool)}
theorem LS_appendT {P : Program} {s x : Operand} (j : Nat) (ka : Option Addr) (kc : Nat) (l : List T) (ys : List Ny) (hP : E.X.P = P) (hc : c = { callee := .builtin .append, args := #[s, x], argTypes := #[22, 22] })
 (hT : rowT P 22 24 6 88 = true) (hv : ev S s = .sc (.va (.slice ka l.length kc))) (hj : (j, Trs 24 6 (.slice ka l.length kc) (T.gs l)) ∈ E.A) (hn : News E S x ys.length (ys.map Ny.cells).flatten)
 (hy : ∀ y ∈ ys, y.j ≠ j /\ (y.j, Trs 24 6 (.slice y.ka y.t.kids.length y.kc) (T.gs y.t.kids)) ∈ E.A) (hm : l.length + ys.length <= 2147483648) :
 LS E S ⟨dst, .call c, ty, pos, after, guard⟩ [] (fun _ : Option Addr × Nat => True) (fun z => S.putM dst (.sc (.va (.slice z.1 (l ++ ys.map Ny.t).length z.2)))) (fun z => (S.m, Trs 24 6 (.slice z.1 (l ++ ys.map Ny.t).length z.2) (T.gs (l ++ ys.map Ny.t))) :: outF (j :: ys.map Ny.j) E.A) := by
 have hfl : ((ys.map Ny.nw).map Nw.cells) = ys.map Ny.cells := by
  rw [List.map_map]; exact List.map_congr_left fun y _ => rfl
 have hg : (ys.map Ny.nw).map Nw.g = T.gs (ys.map Ny.t) := by
  rw [gs_map, List.map_map, List.map_map]; exact List.map_congr_left fun y _ => y.g
 refine LS.map (LS_appendG (size := 6) (e := 24) (bytes := 88) j (.slice ka l.length kc) (T.gs l) (ys.map Ny.nw) hP hc hT hv hj (by rw [hfl, List.length_map]; exact hn) (fun y hy' => ?_) (by rw [gs_len, List.length_map]; exact hm) zi) ?_
 · obtain ⟨z, hz, rfl⟩ := List.mem_map.1 hy'
   exact ⟨rfl, (hy z hz).1, (hy z hz).2⟩
 · rintro v' ⟨a, cp, rfl, _⟩
   refine ⟨(a, cp), trivial, ?_, ?_⟩
   · simp only [gs_len, List.length_map, List.length_append]
   · simp only [gs_len, List.length_map, List.length_append, hg, gs_append, fm_some]
end
theorem WS_rc {E : En} {S : St} {g : Rg} {k : Kt} {P : Program} {w0 : World} {M : Nat -> Prop} {d : List Deferred} {rt : List (Nat × Nat)} {t : TypeId} {x : Operand} {i : Nat} {lv : Option (List Nat)} {s : Sch}
 {dst : Option Tmp} {ty : TypeId} {pos : String} {after : Array Edge} {guard : Option (Nat × Bool)} (n : Nat) (ad : Addr) (vals : List Value) (agg : Bool) (hX : E.X = ⟨P, w0, M, d, rt⟩) (hQ : QP E.Q) (ho : nthO g.ops i = some ⟨dst, .load t x, ty, pos, after, guard⟩) (hx : ev (S.live g.n0 lv) x = .sc (.va (.pointer (some ad))))
 (hc : ∀ j u, vals[j]? = some u -> w0.cell? (ad.add j) = some u) (hM : ¬ M ad.block) (hsz : szT P t = some (vals.length, agg)) (hag : agg = false -> vals.length = 1) (h : vd E n g k s (S.put dst (rdV agg vals))) : WS E g k (.take i lv s) S := by
 refine WS_take (sv := rdV agg vals) hQ ho (fun a w r hr hf => ?_) ?_ (vd_ok hQ n s _ h)
 · rw [hX] at hf ⊢
   have he := (ev_ok hr x).1; rw [hx] at he; have hp := va_of he
   have hget : ∀ j u, vals[j]? = some u -> w.cell? (ad.add j) = some u := fun j u hj => by
    have h0 := hc j u hj
    have hlt : ad.block < w0.heap.size := by
     unfold World.cell? at h0
     split at h0
     · rename_i hb
       rw [add_block] at hb; exact (Array.getElem?_eq_some_iff.1 hb).1
     · cases h0
    rw [cell_loc (hf.block _ (by rw [add_block]; exact hlt) (by rw [add_block]; exact hM))]; exact h0
   cases agg with
   | true =>
     refine ⟨.agg vals.toArray, ⟨vals, rfl, CL_va _⟩, ltL_va _ _, ?_⟩
     have hrun : (loadCells ad vals.length).run P w = .ok vals.toArray w := run_loadCells_list w _ _ hget
     simp [execOp, hp, Instr.loadAt, Instr.sureAddr, loadVar, run_isAgg' hsz, run_sizeOf' hsz, hrun]
   | false =>
     obtain ⟨v, rfl⟩ := List.length_eq_one_iff.1 (hag rfl)
     refine ⟨v, ok_va r v, trivial, ?_⟩
     have hc0 : w.cell? ad = some v := by have := hget 0 v rfl; simpa [Addr.add] using this
     simp [execOp, hp, Instr.loadAt, Instr.sureAddr, loadVar, run_isAgg' hsz, hc0]
 · cases agg with
   | true => simp [rdV, SV.known, Cl.known]
   | false =>
     obtain ⟨v, rfl⟩ := List.length_eq_one_iff.1 (hag rfl); rfl
attribute [go_sem] Ny.cells
