/- Lemmas for FnFilterTree; each condition stands in its statement. -/
import Derived.Test.YtbfenkhnfflpnaaGreatDoorGdd
import Derived.Test.YtbfenkhnfflpnaaGreatDoorGdj
import Derived.Lib.ItoaMem
namespace Go.Proofs.YtbfenkhnfflpnaaGreatDoor.Sx
open Go Go.RowKit
set_option maxRecDepth 100000
set_option maxHeartbeats 40000000
set_option linter.all false
section
attribute [local irreducible] leT leH WO WX WC WD
theorem c47 (w : World) (g b : Nat) (hb : Hp w b 230 baseC) : Calls Tryz.prog 47 [.iface 75 (ptr g), ptr b].toArray w (RetS (.tu []) w) := by
 refine calls_start 1000 Tryz.func47 rfl fun E hX hP hA hQ => ?_
 repeat' first
  | refine zA ?_ | apply zI <;> intro hdec | with_reducible constructor
  | apply WX_fin hX rfl hQ (.inr rfl)
  | (refine WO_LE 850 (LS_rc (⟨b, 1, none⟩) [.pointer none] false hX ?_ ?_ ?_ ?_ (fun _ => rfl)) ?_; exact zq0; exact one_cell (cell_hp hb rfl); exact zq8; exact sz88; intro _ _) | refine zs1 ?_
 all_goals (intro a w' r own hs; exact ⟨⟨_, rfl, fun r => tu0⟩, hs.frm⟩)
theorem Row.pred {e size n : Nat} {v : Value} {xs : List Value} {w : World} {F F' : Nat -> Prop} (h : (Row e size v n xs).P w F) (hF : ∀ k, F' k ↔ F k) : (Row e size v n xs).P w F' := ⟨h.1, fun k => (hF k).trans (h.2.1 k), h.2.2⟩
abbrev WalkQ (res : SV) (g : Nat) (F0 : Nat -> Prop) (K : Int) (m' : Nat) (xs' : List Value) (w : World) : Ending -> World -> Prop :=
 RetN (fun _ : Option Addr × Nat => res) (fun _ => True) (fun x => Row 54 1 (.slice x.1 m' x.2) m' xs') g 77 (fun x => flwC K x.1 m' x.2) F0 w
def WalkC (n : N) : Prop := ∀ (w : World) (F : Nat -> Prop) (d : D), ATd w F n d -> (∀ k, F k -> k < w.heap.size) -> ∀ (g : Nat) (F0 : Nat -> Prop) (K : Int) (a : Option Addr) (m cp : Nat) (xs : List Value), Hp w g 77 (flwC K a m cp) -> (Row 54 1 (.slice a m cp) m xs).P w F0 -> (∀ k, F0 k -> k ≠ g /\ k < w.heap.size) -> (∀ k, F k -> k ≠ g /\ ¬ F0 k) -> m + n.cnt <= 1000000 ->
 Calls Tryz.prog 25 [.iface 75 (ptr g), d.x].toArray w (WalkQ (.tu []) g F0 K (m + (hit K (prs n d)).length) (xs ++ hit K (prs n d)) w)
section
variable {E : En} {S : St} {dst : Option Tmp} {ty : TypeId} {pos : String} {after : Array Edge} {guard : Option (Nat × Bool)} {c : Call}
theorem LS_visit {x y : Operand} (g : Nat) (k K : Int) (Tn gx j : Nat) (hT : kpT k = Tn) (a : Option Addr) (m cp : Nat) (xs : List Value) (hk : kOk k) (hP : E.X.P = Tryz.prog) (hrt : (0, g) ∈ E.X.rt) (hc : c.callee = .invoke x "Visit") (ha : c.args = #[y]) (hx : ev S x = .sc (.ic 75 0 0)) (hy : ev S y = .sc (.va (.iface Tn (ptr gx))))
 (hm : (0, 77, (flwC K a m cp).map .va) ∈ S.h) (hu : ∀ t' cs', (0, t', cs') ∈ S.h -> t' = 77) (hj : (j, Row 54 1 (.slice a m cp) m xs) ∈ E.A) (hlim : m + 1 <= 1000000) :
 LS E S ⟨dst, .call c, ty, pos, after, guard⟩ [0] (fun _ : Option Addr × Nat => True) (fun z : Option Addr × Nat => S.putN 0 (flwC K z.1 (m + (vy K k (.iface Tn (ptr gx))).length) z.2) dst (.sc (.va (.iface 75 (ptr g)))))
  (fun z : Option Addr × Nat => (S.m, Row 54 1 (.slice z.1 (m + (vy K k (.iface Tn (ptr gx))).length) z.2) (m + (vy K k (.iface Tn (ptr gx))).length) (xs ++ vy K k (.iface Tn (ptr gx)))) :: outF [j] E.A) := by
 refine LS_enterM (f := 218) (o := ⟨dst, .call c, ty, pos, after, guard⟩) 0 77 [j] (fun _ => .sc (.va (.iface 75 (ptr g)))) (fun _ => True) (fun z : Option Addr × Nat => Row 54 1 (.slice z.1 (m + (vy K k (.iface Tn (ptr gx))).length) z.2) (m + (vy K k (.iface Tn (ptr gx))).length) (xs ++ vy K k (.iface Tn (ptr gx)))) (fun z : Option Addr × Nat => flwC K z.1 (m + (vy K k (.iface Tn (ptr gx))).length) z.2) (fun _ => True.intro) hm hu fun a' w r own hs => ?_
 have hr := (hs.rts 0 g hrt).2; have hxe := ic_of (hx ▸ (ev_ok hs.toR x).1); have hye := va_of (hy ▸ (ev_ok hs.toR y).1); have hb := hs.blk hm; have ho := (hs.heap 0 77 _ hm).2.2.1; rw [hr] at hxe hb ho; rw [hP, hr]
 refine ⟨_, exec_invoke hc hxe (run_methT (f := 218) zk (Tryz.prog.types.size + Made.depth - 1) _ w) zk rfl, ?_⟩
 rw [ha]
 have h2 := c218 w g gx k K (fun k => ∃ j' ∈ [j], own k = some (.fa j')) a m cp xs hk hb (Row.pred (hs.fact j _ hj).2 fun k => by simp) (fun k hk => by
  obtain ⟨j', _, hj'⟩ := hk
  refine ⟨fun e => ?_, (hs.bnd k _ hj').1⟩
  rw [e, ho] at hj'
  cases hj') hlim
 rw [hT] at h2
 simpa [hye] using h2
theorem LS_walk {x y : Operand} (g : Nat) (n : N) (d : D) (F : Nat -> Prop) (K : Int) (j : Nat) (a : Option Addr) (m cp : Nat) (xs : List Value) (hw : WalkC n) (hat : ATd E.X.w0 F n d) (hF : ∀ k, F k -> k < E.X.w0.heap.size /\ ¬ E.X.M k) (hg : E.X.M g) (hP : E.X.P = Tryz.prog) (hrt : (0, g) ∈ E.X.rt)
 (hc : c.callee = .value (.func 25)) (ha : c.args = #[x, y]) (hx : ev S x = .sc (.va (.iface 75 (ptr g)))) (hy : ev S y = .sc (.va d.x))
 (hm : (0, 77, (flwC K a m cp).map .va) ∈ S.h) (hu : ∀ t' cs', (0, t', cs') ∈ S.h -> t' = 77) (hj : (j, Row 54 1 (.slice a m cp) m xs) ∈ E.A) (hlim : m + n.cnt <= 1000000) :
 LS E S ⟨dst, .call c, ty, pos, after, guard⟩ [0] (fun _ : Option Addr × Nat => True) (fun z : Option Addr × Nat => S.putN 0 (flwC K z.1 (m + (hit K (prs n d)).length) z.2) dst (.tu []))
  (fun z : Option Addr × Nat => (S.m, Row 54 1 (.slice z.1 (m + (hit K (prs n d)).length) z.2) (m + (hit K (prs n d)).length) (xs ++ hit K (prs n d))) :: outF [j] E.A) := by
 refine LS_callM (f := 25) 0 77 [j] (fun _ => .tu []) (fun _ => True) (fun z : Option Addr × Nat => Row 54 1 (.slice z.1 (m + (hit K (prs n d)).length) z.2) (m + (hit K (prs n d)).length) (xs ++ hit K (prs n d))) (fun z : Option Addr × Nat => flwC K z.1 (m + (hit K (prs n d)).length) z.2) hP hc zk (fun _ t ht => by cases ht) (by rw [ha]; simp [hx, hy, SV.known, Cl.known]) hm hu fun a' w r own hs => ?_
 have hr := (hs.rts 0 g hrt).2; have hb := hs.blk hm; have ho := (hs.heap 0 77 _ hm).2.2.1; rw [hr] at hb ho; rw [hr]
 have h2 := hw w F d (hat.ext (fun _ h => h) fun k hk => hs.frm.block k (hF k hk).1 (hF k hk).2) (fun k hk => Nat.lt_of_lt_of_le (hF k hk).1 hs.frm.size) g (fun k => ∃ j' ∈ [j], own k = some (.fa j')) K a m cp xs hb (Row.pred (hs.fact j _ hj).2 fun k => by simp) (fun k hk => by
  obtain ⟨j', _, hj'⟩ := hk
  refine ⟨fun e => ?_, (hs.bnd k _ hj').1⟩
  rw [e, ho] at hj'
  cases hj') (fun k hk => ⟨fun e => (hF k hk).2 (e ▸ hg), fun ⟨j', _, hj'⟩ => by
   rcases (hs.bnd k _ hj').2 with h | h
   · exact absurd (hF k hk).1 (Nat.not_lt.2 h)
   · exact (hF k hk).2 h⟩) hlim
 rw [ha]
 simpa [hx, hy, SV.den, Cl.den] using h2
end
section
attribute [local irreducible] LS WS WQ
theorem c25_2 (w : World) (F : Nat -> Prop) (hFl : ∀ k, F k -> k < w.heap.size) (g gx b tk : Nat) (F0 : Nat -> Prop) (K : Int) (a : Option Addr) (m cp : Nat) (xs : List Value) (hg : Hp w g 77 (flwC K a m cp)) (hrow : (Row 54 1 (.slice a m cp) m xs).P w F0) (hf0 : ∀ k, F0 k -> k ≠ g /\ k < w.heap.size) (hdis : ∀ k, F k -> k ≠ g /\ ¬ F0 k)
 (hFg : F gx) (hFb : F b) (hgx : Hp w gx 121 [ptr b, ptr tk]) (hb : Hp w b 230 baseC) (hlim : m + 1 <= 1000000) :
 Calls Tryz.prog 25 [.iface 75 (ptr g), .iface 118 (ptr gx)].toArray w (WalkQ (.tu []) g F0 K (m + (vy K 2 (.iface 118 (ptr gx))).length) (xs ++ vy K 2 (.iface 118 (ptr gx))) w) := by
 have hFm : ∀ k, F k -> ¬ (k ∈ [g] \/ F0 k) := fun k hk h => h.elim (fun h => (hdis k hk).1 (by simpa using h)) (hdis k hk).2
 refine calls_startF 1000 [g] [(0, 77, [.va (.int .i64 K), .va (.slice a m cp)])] [.sc (.ic 75 0 0), .sc (.va (.iface 118 (ptr gx)))] (Row 54 1 (.slice a m cp) m xs) F0 Tryz.func25 rfl ⟨⟨rfl, rfl⟩, ⟨rfl, rfl⟩, trivial⟩ zp (HpOk_one hg rfl) hrow (fun k hk => ⟨by simpa using (hf0 k hk).1, (hf0 k hk).2⟩) fun E hX hP hA hQ => ?_
 repeat' first
  | refine zB ?_ | apply zI <;> intro hdec | with_reducible constructor
  | apply WX_fin hX rfl hQ (.inr rfl)
  | (refine WO_LS 850 (LS_visit g 2 K 118 gx 0 rfl a m cp xs (by simp [kOk]) hP ?_ rfl rfl ?_ ?_ ?_ ?_ ?_ zo) ?_; exact zq28; exact zq0; exact zq0; exact zq15; exact zq14; exact zq13; rintro ⟨a1, q1⟩ _ E2 h1 h2 h3; refine zz ?_; intro hX hP hA hQ) | (refine zr7 ?_; intro _ _) | (refine zcS 47 (.tu []) ?_ ?_; exact zq36) | refine zs1 ?_
 all_goals try first
  | (intro a' w' r own hs'
     rw [hA] at hs'; exact retN_finF (res := fun _ : Option Addr × Nat => .tu []) (φ := fun _ => True) (cs := fun x => flwC K x.1 (m + (vy K 2 (.iface 118 (ptr gx))).length) x.2) (B := fun x : Option Addr × Nat => Row 54 1 (.slice x.1 (m + (vy K 2 (.iface 118 (ptr gx))).length) x.2) (m + (vy K 2 (.iface 118 (ptr gx))).length) (xs ++ vy K 2 (.iface 118 (ptr gx)))) hs' (a1, q1) trivial zm (fun r' => tu0) (j := 1) zm)
theorem c25_3 (w : World) (F : Nat -> Prop) (hFl : ∀ k, F k -> k < w.heap.size) (g gx b tk : Nat) (F0 : Nat -> Prop) (K : Int) (a : Option Addr) (m cp : Nat) (xs : List Value) (hg : Hp w g 77 (flwC K a m cp)) (hrow : (Row 54 1 (.slice a m cp) m xs).P w F0) (hf0 : ∀ k, F0 k -> k ≠ g /\ k < w.heap.size) (hdis : ∀ k, F k -> k ≠ g /\ ¬ F0 k)
 (x1 : Bool) (hFg : F gx) (hFb : F b) (hgx : Hp w gx 135 [ptr b, ptr tk, .bool x1]) (hb : Hp w b 230 baseC) (hlim : m + 1 <= 1000000) :
 Calls Tryz.prog 25 [.iface 75 (ptr g), .iface 133 (ptr gx)].toArray w (WalkQ (.tu []) g F0 K (m + (vy K 3 (.iface 133 (ptr gx))).length) (xs ++ vy K 3 (.iface 133 (ptr gx))) w) := by
 have hFm : ∀ k, F k -> ¬ (k ∈ [g] \/ F0 k) := fun k hk h => h.elim (fun h => (hdis k hk).1 (by simpa using h)) (hdis k hk).2
 refine calls_startF 1000 [g] [(0, 77, [.va (.int .i64 K), .va (.slice a m cp)])] [.sc (.ic 75 0 0), .sc (.va (.iface 133 (ptr gx)))] (Row 54 1 (.slice a m cp) m xs) F0 Tryz.func25 rfl ⟨⟨rfl, rfl⟩, ⟨rfl, rfl⟩, trivial⟩ zp (HpOk_one hg rfl) hrow (fun k hk => ⟨by simpa using (hf0 k hk).1, (hf0 k hk).2⟩) fun E hX hP hA hQ => ?_
 repeat' first
  | refine zB ?_ | apply zI <;> intro hdec | with_reducible constructor
  | apply WX_fin hX rfl hQ (.inr rfl)
  | (refine WO_LS 850 (LS_visit g 3 K 133 gx 0 rfl a m cp xs (by simp [kOk]) hP ?_ rfl rfl ?_ ?_ ?_ ?_ ?_ zo) ?_; exact zq28; exact zq0; exact zq0; exact zq15; exact zq14; exact zq13; rintro ⟨a1, q1⟩ _ E2 h1 h2 h3; refine zz ?_; intro hX hP hA hQ) | (refine zr7 ?_; intro _ _) | (refine zcS 47 (.tu []) ?_ ?_; exact zq36) | refine zs1 ?_
 all_goals try first
  | (intro a' w' r own hs'
     rw [hA] at hs'; exact retN_finF (res := fun _ : Option Addr × Nat => .tu []) (φ := fun _ => True) (cs := fun x => flwC K x.1 (m + (vy K 3 (.iface 133 (ptr gx))).length) x.2) (B := fun x : Option Addr × Nat => Row 54 1 (.slice x.1 (m + (vy K 3 (.iface 133 (ptr gx))).length) x.2) (m + (vy K 3 (.iface 133 (ptr gx))).length) (xs ++ vy K 3 (.iface 133 (ptr gx)))) hs' (a1, q1) trivial zm (fun r' => tu0) (j := 1) zm)
theorem c25_4 (w : World) (F : Nat -> Prop) (hFl : ∀ k, F k -> k < w.heap.size) (g gx b tk : Nat) (F0 : Nat -> Prop) (K : Int) (a : Option Addr) (m cp : Nat) (xs : List Value) (hg : Hp w g 77 (flwC K a m cp)) (hrow : (Row 54 1 (.slice a m cp) m xs).P w F0) (hf0 : ∀ k, F0 k -> k ≠ g /\ k < w.heap.size) (hdis : ∀ k, F k -> k ≠ g /\ ¬ F0 k)
 (x1 : Value) (hFg : F gx) (hFb : F b) (hgx : Hp w gx 124 [ptr b, ptr tk, x1]) (hb : Hp w b 230 baseC) (hlim : m + 1 <= 1000000) :
 Calls Tryz.prog 25 [.iface 75 (ptr g), .iface 122 (ptr gx)].toArray w (WalkQ (.tu []) g F0 K (m + (vy K 4 (.iface 122 (ptr gx))).length) (xs ++ vy K 4 (.iface 122 (ptr gx))) w) := by
 have hFm : ∀ k, F k -> ¬ (k ∈ [g] \/ F0 k) := fun k hk h => h.elim (fun h => (hdis k hk).1 (by simpa using h)) (hdis k hk).2
 refine calls_startF 1000 [g] [(0, 77, [.va (.int .i64 K), .va (.slice a m cp)])] [.sc (.ic 75 0 0), .sc (.va (.iface 122 (ptr gx)))] (Row 54 1 (.slice a m cp) m xs) F0 Tryz.func25 rfl ⟨⟨rfl, rfl⟩, ⟨rfl, rfl⟩, trivial⟩ zp (HpOk_one hg rfl) hrow (fun k hk => ⟨by simpa using (hf0 k hk).1, (hf0 k hk).2⟩) fun E hX hP hA hQ => ?_
 repeat' first
  | refine zB ?_ | apply zI <;> intro hdec | with_reducible constructor
  | apply WX_fin hX rfl hQ (.inr rfl)
  | (refine WO_LS 850 (LS_visit g 4 K 122 gx 0 rfl a m cp xs (by simp [kOk]) hP ?_ rfl rfl ?_ ?_ ?_ ?_ ?_ zo) ?_; exact zq28; exact zq0; exact zq0; exact zq15; exact zq14; exact zq13; rintro ⟨a1, q1⟩ _ E2 h1 h2 h3; refine zz ?_; intro hX hP hA hQ) | (refine zr7 ?_; intro _ _) | (refine zcS 47 (.tu []) ?_ ?_; exact zq36) | refine zs1 ?_
 all_goals try first
  | (intro a' w' r own hs'
     rw [hA] at hs'; exact retN_finF (res := fun _ : Option Addr × Nat => .tu []) (φ := fun _ => True) (cs := fun x => flwC K x.1 (m + (vy K 4 (.iface 122 (ptr gx))).length) x.2) (B := fun x : Option Addr × Nat => Row 54 1 (.slice x.1 (m + (vy K 4 (.iface 122 (ptr gx))).length) x.2) (m + (vy K 4 (.iface 122 (ptr gx))).length) (xs ++ vy K 4 (.iface 122 (ptr gx)))) hs' (a1, q1) trivial zm (fun r' => tu0) (j := 1) zm)
theorem c25_5 (w : World) (F : Nat -> Prop) (hFl : ∀ k, F k -> k < w.heap.size) (g gx b tk : Nat) (F0 : Nat -> Prop) (K : Int) (a : Option Addr) (m cp : Nat) (xs : List Value) (hg : Hp w g 77 (flwC K a m cp)) (hrow : (Row 54 1 (.slice a m cp) m xs).P w F0) (hf0 : ∀ k, F0 k -> k ≠ g /\ k < w.heap.size) (hdis : ∀ k, F k -> k ≠ g /\ ¬ F0 k)
 (x1 : Nat) (hFg : F gx) (hFb : F b) (hgx : Hp w gx 127 [ptr b, ptr tk, .int .i64 0, .float .f64 x1]) (hb : Hp w b 230 baseC) (hlim : m + 1 <= 1000000) :
 Calls Tryz.prog 25 [.iface 75 (ptr g), .iface 125 (ptr gx)].toArray w (WalkQ (.tu []) g F0 K (m + (vy K 5 (.iface 125 (ptr gx))).length) (xs ++ vy K 5 (.iface 125 (ptr gx))) w) := by
 have hFm : ∀ k, F k -> ¬ (k ∈ [g] \/ F0 k) := fun k hk h => h.elim (fun h => (hdis k hk).1 (by simpa using h)) (hdis k hk).2
 refine calls_startF 1000 [g] [(0, 77, [.va (.int .i64 K), .va (.slice a m cp)])] [.sc (.ic 75 0 0), .sc (.va (.iface 125 (ptr gx)))] (Row 54 1 (.slice a m cp) m xs) F0 Tryz.func25 rfl ⟨⟨rfl, rfl⟩, ⟨rfl, rfl⟩, trivial⟩ zp (HpOk_one hg rfl) hrow (fun k hk => ⟨by simpa using (hf0 k hk).1, (hf0 k hk).2⟩) fun E hX hP hA hQ => ?_
 repeat' first
  | refine zB ?_ | apply zI <;> intro hdec | with_reducible constructor
  | apply WX_fin hX rfl hQ (.inr rfl)
  | (refine WO_LS 850 (LS_visit g 5 K 125 gx 0 rfl a m cp xs (by simp [kOk]) hP ?_ rfl rfl ?_ ?_ ?_ ?_ ?_ zo) ?_; exact zq28; exact zq0; exact zq0; exact zq15; exact zq14; exact zq13; rintro ⟨a1, q1⟩ _ E2 h1 h2 h3; refine zz ?_; intro hX hP hA hQ) | (refine zr7 ?_; intro _ _) | (refine zcS 47 (.tu []) ?_ ?_; exact zq36) | refine zs1 ?_
 all_goals try first
  | (intro a' w' r own hs'
     rw [hA] at hs'; exact retN_finF (res := fun _ : Option Addr × Nat => .tu []) (φ := fun _ => True) (cs := fun x => flwC K x.1 (m + (vy K 5 (.iface 125 (ptr gx))).length) x.2) (B := fun x : Option Addr × Nat => Row 54 1 (.slice x.1 (m + (vy K 5 (.iface 125 (ptr gx))).length) x.2) (m + (vy K 5 (.iface 125 (ptr gx))).length) (xs ++ vy K 5 (.iface 125 (ptr gx)))) hs' (a1, q1) trivial zm (fun r' => tu0) (j := 1) zm)
theorem c25_6 (w : World) (F : Nat -> Prop) (hFl : ∀ k, F k -> k < w.heap.size) (g gx b tk : Nat) (F0 : Nat -> Prop) (K : Int) (a : Option Addr) (m cp : Nat) (xs : List Value) (hg : Hp w g 77 (flwC K a m cp)) (hrow : (Row 54 1 (.slice a m cp) m xs).P w F0) (hf0 : ∀ k, F0 k -> k ≠ g /\ k < w.heap.size) (hdis : ∀ k, F k -> k ≠ g /\ ¬ F0 k)
 (x1 : Nat) (hFg : F gx) (hFb : F b) (hgx : Hp w gx 138 [ptr b, ptr tk, .float .f64 x1]) (hb : Hp w b 230 baseC) (hlim : m + 1 <= 1000000) :
 Calls Tryz.prog 25 [.iface 75 (ptr g), .iface 136 (ptr gx)].toArray w (WalkQ (.tu []) g F0 K (m + (vy K 6 (.iface 136 (ptr gx))).length) (xs ++ vy K 6 (.iface 136 (ptr gx))) w) := by
 have hFm : ∀ k, F k -> ¬ (k ∈ [g] \/ F0 k) := fun k hk h => h.elim (fun h => (hdis k hk).1 (by simpa using h)) (hdis k hk).2
 refine calls_startF 1000 [g] [(0, 77, [.va (.int .i64 K), .va (.slice a m cp)])] [.sc (.ic 75 0 0), .sc (.va (.iface 136 (ptr gx)))] (Row 54 1 (.slice a m cp) m xs) F0 Tryz.func25 rfl ⟨⟨rfl, rfl⟩, ⟨rfl, rfl⟩, trivial⟩ zp (HpOk_one hg rfl) hrow (fun k hk => ⟨by simpa using (hf0 k hk).1, (hf0 k hk).2⟩) fun E hX hP hA hQ => ?_
 repeat' first
  | refine zB ?_ | apply zI <;> intro hdec | with_reducible constructor
  | apply WX_fin hX rfl hQ (.inr rfl)
  | (refine WO_LS 850 (LS_visit g 6 K 136 gx 0 rfl a m cp xs (by simp [kOk]) hP ?_ rfl rfl ?_ ?_ ?_ ?_ ?_ zo) ?_; exact zq28; exact zq0; exact zq0; exact zq15; exact zq14; exact zq13; rintro ⟨a1, q1⟩ _ E2 h1 h2 h3; refine zz ?_; intro hX hP hA hQ) | (refine zr7 ?_; intro _ _) | (refine zcS 47 (.tu []) ?_ ?_; exact zq36) | refine zs1 ?_
 all_goals try first
  | (intro a' w' r own hs'
     rw [hA] at hs'; exact retN_finF (res := fun _ : Option Addr × Nat => .tu []) (φ := fun _ => True) (cs := fun x => flwC K x.1 (m + (vy K 6 (.iface 136 (ptr gx))).length) x.2) (B := fun x : Option Addr × Nat => Row 54 1 (.slice x.1 (m + (vy K 6 (.iface 136 (ptr gx))).length) x.2) (m + (vy K 6 (.iface 136 (ptr gx))).length) (xs ++ vy K 6 (.iface 136 (ptr gx)))) hs' (a1, q1) trivial zm (fun r' => tu0) (j := 1) zm)
theorem c25_7 (w : World) (F : Nat -> Prop) (hFl : ∀ k, F k -> k < w.heap.size) (g gx b tk : Nat) (F0 : Nat -> Prop) (K : Int) (a : Option Addr) (m cp : Nat) (xs : List Value) (hg : Hp w g 77 (flwC K a m cp)) (hrow : (Row 54 1 (.slice a m cp) m xs).P w F0) (hf0 : ∀ k, F0 k -> k ≠ g /\ k < w.heap.size) (hdis : ∀ k, F k -> k ≠ g /\ ¬ F0 k)
 (hFg : F gx) (hFb : F b) (hgx : Hp w gx 140 [ptr b, ptr tk]) (hb : Hp w b 230 baseC) (hlim : m + 1 <= 1000000) :
 Calls Tryz.prog 25 [.iface 75 (ptr g), .iface 139 (ptr gx)].toArray w (WalkQ (.tu []) g F0 K (m + (vy K 7 (.iface 139 (ptr gx))).length) (xs ++ vy K 7 (.iface 139 (ptr gx))) w) := by
 have hFm : ∀ k, F k -> ¬ (k ∈ [g] \/ F0 k) := fun k hk h => h.elim (fun h => (hdis k hk).1 (by simpa using h)) (hdis k hk).2
 refine calls_startF 1000 [g] [(0, 77, [.va (.int .i64 K), .va (.slice a m cp)])] [.sc (.ic 75 0 0), .sc (.va (.iface 139 (ptr gx)))] (Row 54 1 (.slice a m cp) m xs) F0 Tryz.func25 rfl ⟨⟨rfl, rfl⟩, ⟨rfl, rfl⟩, trivial⟩ zp (HpOk_one hg rfl) hrow (fun k hk => ⟨by simpa using (hf0 k hk).1, (hf0 k hk).2⟩) fun E hX hP hA hQ => ?_
 repeat' first
  | refine zB ?_ | apply zI <;> intro hdec | with_reducible constructor
  | apply WX_fin hX rfl hQ (.inr rfl)
  | (refine WO_LS 850 (LS_visit g 7 K 139 gx 0 rfl a m cp xs (by simp [kOk]) hP ?_ rfl rfl ?_ ?_ ?_ ?_ ?_ zo) ?_; exact zq28; exact zq0; exact zq0; exact zq15; exact zq14; exact zq13; rintro ⟨a1, q1⟩ _ E2 h1 h2 h3; refine zz ?_; intro hX hP hA hQ) | (refine zr7 ?_; intro _ _) | (refine zcS 47 (.tu []) ?_ ?_; exact zq36) | refine zs1 ?_
 all_goals try first
  | (intro a' w' r own hs'
     rw [hA] at hs'; exact retN_finF (res := fun _ : Option Addr × Nat => .tu []) (φ := fun _ => True) (cs := fun x => flwC K x.1 (m + (vy K 7 (.iface 139 (ptr gx))).length) x.2) (B := fun x : Option Addr × Nat => Row 54 1 (.slice x.1 (m + (vy K 7 (.iface 139 (ptr gx))).length) x.2) (m + (vy K 7 (.iface 139 (ptr gx))).length) (xs ++ vy K 7 (.iface 139 (ptr gx)))) hs' (a1, q1) trivial zm (fun r' => tu0) (j := 1) zm)
theorem c25_8 (w : World) (F : Nat -> Prop) (hFl : ∀ k, F k -> k < w.heap.size) (g gx b tk : Nat) (F0 : Nat -> Prop) (K : Int) (a : Option Addr) (m cp : Nat) (xs : List Value) (hg : Hp w g 77 (flwC K a m cp)) (hrow : (Row 54 1 (.slice a m cp) m xs).P w F0) (hf0 : ∀ k, F0 k -> k ≠ g /\ k < w.heap.size) (hdis : ∀ k, F k -> k ≠ g /\ ¬ F0 k)
 (v : ByteArray) (hFg : F gx) (hFb : F b) (hgx : Hp w gx 130 [ptr b, ptr tk, .string v]) (hb : Hp w b 230 baseC) (hlim : m + 1 <= 1000000) :
 Calls Tryz.prog 25 [.iface 75 (ptr g), .iface 128 (ptr gx)].toArray w (WalkQ (.tu []) g F0 K (m + (vy K 8 (.iface 128 (ptr gx))).length) (xs ++ vy K 8 (.iface 128 (ptr gx))) w) := by
 have hFm : ∀ k, F k -> ¬ (k ∈ [g] \/ F0 k) := fun k hk h => h.elim (fun h => (hdis k hk).1 (by simpa using h)) (hdis k hk).2
 refine calls_startF 1000 [g] [(0, 77, [.va (.int .i64 K), .va (.slice a m cp)])] [.sc (.ic 75 0 0), .sc (.va (.iface 128 (ptr gx)))] (Row 54 1 (.slice a m cp) m xs) F0 Tryz.func25 rfl ⟨⟨rfl, rfl⟩, ⟨rfl, rfl⟩, trivial⟩ zp (HpOk_one hg rfl) hrow (fun k hk => ⟨by simpa using (hf0 k hk).1, (hf0 k hk).2⟩) fun E hX hP hA hQ => ?_
 repeat' first
  | refine zB ?_ | apply zI <;> intro hdec | with_reducible constructor
  | apply WX_fin hX rfl hQ (.inr rfl)
  | (refine WO_LS 850 (LS_visit g 8 K 128 gx 0 rfl a m cp xs (by simp [kOk]) hP ?_ rfl rfl ?_ ?_ ?_ ?_ ?_ zo) ?_; exact zq28; exact zq0; exact zq0; exact zq15; exact zq14; exact zq13; rintro ⟨a1, q1⟩ _ E2 h1 h2 h3; refine zz ?_; intro hX hP hA hQ) | (refine zr7 ?_; intro _ _) | (refine zcS 47 (.tu []) ?_ ?_; exact zq36) | refine zs1 ?_
 all_goals try first
  | (intro a' w' r own hs'
     rw [hA] at hs'; exact retN_finF (res := fun _ : Option Addr × Nat => .tu []) (φ := fun _ => True) (cs := fun x => flwC K x.1 (m + (vy K 8 (.iface 128 (ptr gx))).length) x.2) (B := fun x : Option Addr × Nat => Row 54 1 (.slice x.1 (m + (vy K 8 (.iface 128 (ptr gx))).length) x.2) (m + (vy K 8 (.iface 128 (ptr gx))).length) (xs ++ vy K 8 (.iface 128 (ptr gx)))) hs' (a1, q1) trivial zm (fun r' => tu0) (j := 1) zm)
end
end
section
attribute [local irreducible] leT leH
theorem concH_in {n g : Nat} : ∀ {l : Heap} {x : Nat × Nat × List Cl}, x ∈ l -> x.1 ≠ n -> ∃ y ∈ concH n g l, y.1 = x.1
 | z :: l, x, h, hn => by
   rcases List.mem_cons.1 h with rfl | h
   · refine ⟨(x.1, x.2.1, x.2.2.map (Cl.conc n g)), ?_, rfl⟩
     rw [concH, if_neg hn]; exact zm
   · obtain ⟨y, hy, e⟩ := concH_in (g := g) h hn
     refine ⟨y, ?_, e⟩
     rw [concH]
     split
     exact hy; exact List.mem_cons_of_mem _ hy
theorem WD_conc {E : En} {S : St} {g : Rg} {k : Kt} {i : Nat} {o : Oper} {s : Sch} (n t : Nat) (vals : List Value) (hf : findH S.h n = some (t, vals.map .va)) (hn : g.ro.all fun x => x.1 != n)
 (h : ∀ b (E' : En), E'.X = E.X -> E'.A = (S.m, Blk b t vals) :: E.A -> E'.Q = E.Q -> WD E' g k i o s (S.conc n b)) : WD E g k i o s S := by
 intro fuel listed hs hst a w r own r0 ws hd
 have hne : ∀ m js, (m, js) ∈ g.ro -> m ≠ n := fun m js hm e => by
  have := List.all_eq_true.1 hn _ hm
  simp [e] at this
 have hdc : Dc (⟨E.X, (S.m, Blk (r n) t vals) :: E.A, E.Q⟩ : En) g (S.conc n (r n)) listed a w r (fun k => if k = r n then some (.fa S.m) else own k) r0 ws := by
  refine ⟨hd.sim.conc (findH_mem hf), hd.rr, hd.le, hd.rb, fun x hx hlt => ?_, fun m js hm => ?_, hd.rj, hd.cw⟩
  · obtain ⟨_, cs0, h2, _⟩ := concH_mem (m := x.1) (t := x.2.1) (cs := x.2.2) hx
    exact hd.nm (x.1, x.2.1, cs0) h2 hlt
  · obtain ⟨x, hx, e⟩ := hd.sb m js hm
    obtain ⟨y, hy, e2⟩ := concH_in (n := n) (g := r n) hx (by rw [e]; exact hne m js hm); exact ⟨y, hy, e2.trans e⟩
 have h1 := h (r n) ⟨E.X, (S.m, Blk (r n) t vals) :: E.A, E.Q⟩ rfl rfl rfl fuel listed hs hst a w r _ r0 ws hdc
 rwa [kq_congr (E := E) (E' := ⟨E.X, (S.m, Blk (r n) t vals) :: E.A, E.Q⟩) rfl rfl] at h1
theorem ret1_finU {α : Type} {P : Program} {w0 : World} {rt : List (Nat × Nat)} {S : St} {A : Facts} {a : Act} {w : World} {r : Nat -> Nat} {own : Nat -> Option Ent} (hs : Sim ⟨P, w0, fun _ => False, [], rt⟩ S A a w r own) {res : α -> SV} {φ : α -> Prop} {B : α -> Asn}
 (J : List Nat) (x : α) (hx : φ x) {u : Value} (hu : ∀ r, (res x).ok r u) (hB : (B x).P w (fun k => ∃ j ∈ J, own k = some (.fa j))) : Ret1 res φ B w0 (.returned u) w :=
 ⟨x, hx, ⟨u, rfl, hu⟩, hs.frm, fun k => ∃ j ∈ J, own k = some (.fa j), fun k ⟨j, _, hk⟩ => ⟨(hs.bnd k _ hk).2.elim id False.elim, (hs.bnd k _ hk).1⟩, hB⟩
theorem Sim.bk {X : Cx} {S : St} {A : Facts} {a : Act} {w : World} {r : Nat -> Nat} {own : Nat -> Option Ent} (h : Sim X S A a w r own) {j g t : Nat} {cs : List Value} (hj : (j, Blk g t cs) ∈ A) : own g = some (.fa j) /\ Hp w g t cs :=
 ⟨((h.fact j _ hj).2.1 g).2 rfl, (h.fact j _ hj).2.2.1⟩
theorem blkHp {g t : Nat} {cs : List Value} {w : World} {F : Nat -> Prop} (h : (Blk g t cs).P w F) : Hp w g t cs := h.2.1
theorem c55 (w : World) (n : N) (ka : Option Addr) (kc : Nat) (c : Int) (hc : n.c = c) (hc1 : 1 <= c) (hc2 : c <= 200) : Calls Tryz.prog 55 [.agg (n.cells ka kc).toArray].toArray w (Ret1 (fun g : Nat => .sc (.va (ptr g))) (fun _ => True) (fun g => AstA (.mk 8 n.ty n.v n.t n.fl n.c []) (.iface 128 (ptr g))) w) := by
 obtain ⟨k, ty, v, t, fl, c0, kids⟩ := n; obtain rfl : c0 = c := hc
 refine calls_start 1000 Tryz.func55 rfl ?_
 intro E hX hP hA hQ
 repeat' first
  | refine zA ?_ | apply zI <;> intro hdec | with_reducible constructor
  | (with_reducible show WC _ (.region 1 _ _) _ _
     with_reducible apply WC_drawn 900 sch55_1 [] [] hP
     exact zq1; exact zq2; exact zq1)
  | (with_reducible refine WD_LS 850 ?_ (LS_call1 (α := Nat) (f := 26) (fun g : Nat => .sc (.va (.pointer (some ⟨g, 0, none⟩)))) (fun _ => True) (posA c0) hP ?_ ?_ ?_ ?_ ?_) ?_ ?_
     exact zq2; rfl; exact zq1; exact zq9; exact zq0
     · (intro a w r own hSim; rw [hX] at hSim; simp only [go_sem]; with_reducible exact c26 _ c0 hc1 hc2)
     exact zq16; rintro gp _ E2 h1 h2 h3; refine zz ?_; intro hX hP hA hQ)
  | (with_reducible show WD _ _ _ _ _ _ _
     apply WD_conc 1 87 (tokC ty t gp) rfl rfl
     intro tk E2 h1 h2 h3; simp only [go_sem, ↓reduceIte, Nat.reduceAdd, Nat.zero_add, Nat.reduceEqDiff]; refine zz ?_; intro hX hP hA hQ)
  | (with_reducible refine WD_LS 850 ?_ (LS_callP (α := Nat × Nat) (f := 98) (fun x => x.1) (fun _ => True) 130 (fun x => [ptr x.2, ptr tk, .string t]) (fun x => Blk x.2 230 baseC) hP ?_ ?_ ?_ ?_ ?_) ?_ ?_
     exact zq2; rfl; exact zq1; exact zq0
     · (rw [hA]; rfl)
     · (intro a w r own hSim; rw [hX, hA] at hSim; simp only [go_sem]; with_reducible exact c98 _ tk ty t gp (blkHp (hSim.fact 1 _ zm).2))
     exact zq16; rintro ⟨gs, gb⟩ _ E2 h1 h2 h3; simp only [St.callP, List.map_cons, List.map_nil]; refine zz ?_; intro hX hP hA hQ)
  | refine zs32 ?_
 all_goals try first
  | omega
  | (intro a w' r own hs'
     rw [hA] at hs'; have h2 := hs'.conc (n := 2) (t := 130) (vals := [ptr gb, ptr tk, .string v]) zp; have b1 := h2.bk (j := 5) (g := r 2) (by simp; rfl); have b2 := h2.bk (j := 4) (g := gb) (t := 230) (cs := baseC) zp; have b3 := h2.bk (j := 1) (g := tk) (t := 87) (cs := tokC ty t gp) zp; have b4 := h2.bk (j := 0) (g := gp) (t := 172) (cs := posC c0) (by simp [posA])
     refine ret1_finU h2 [0, 1, 4, 5] (r 2) trivial (fun r => .inr rfl) ?_
     refine (AT0.at (n := .mk 8 ty v t fl c0 []) (tk := tk) (p := gp) ⟨r 2, gb, [], _, rfl, ⟨5, zp, b1.1⟩, ⟨4, zp, b2.1⟩, b2.2, b1.2, .str, rfl⟩ ⟨1, zp, b3.1⟩ ⟨0, zp, b4.1⟩ b3.2 b4.2))
end
section
attribute [local irreducible] leT leH WO WX WC WD
abbrev z24 : List Value := List.replicate 24 (.int .u8 0)
section
variable {E : En} {S : St} {α : Type} {c : Call} {dst : Option Tmp} {ty : TypeId} {pos : String} {after : Array Edge} {guard : Option (Nat × Bool)} {P : Program}
theorem LS_callB {f : FuncId} (g t : Nat) (cs : List Value) (j : Nat) (res : α -> SV) (φ : α -> Prop) (B : α -> Asn) (hP : E.X.P = P) (hc : c.callee = .value (.func f)) (hf : callable P f = true) (hl : ∀ x, (res x).lt 0)
 (hk : (c.args.toList.all fun x => (ev S x).known) = true) (hj : (j, Blk g t cs) ∈ E.A)
 (hcall : ∀ a w r own, Sim E.X S E.A a w r own -> Hp w g t cs -> Calls P f ((c.args.toList.map fun x => (ev S x).den r).toArray) w (RetD res φ B g w)) :
 LS E S ⟨dst, .call c, ty, pos, after, guard⟩ [] φ (fun x => S.putM dst (res x)) (fun x => (S.m, B x) :: outF [j] E.A) := by
 refine LS_callJ [j] res φ B hP hc hf hl hk fun a w r own hs => (hcall a w r own hs (hs.bk hj).2).mono fun e w' hr => ?_
 obtain ⟨x, hx, hu, hfr, hB⟩ := hr
 have hM : ∀ k, k = g -> ∃ j' ∈ [j], own k = some (.fa j') := fun k hk => ⟨j, zp, by rw [hk]; exact (hs.bk hj).1⟩
 exact ⟨x, hx, hu, ⟨hfr.os, hfr.tape, hfr.output, hfr.size, fun k hk hn => hfr.block k hk fun he => hn (hM k he)⟩, _, fun k hk => .inl (hM k hk), hB⟩
end
def DigA (g u : Nat) : Asn := ⟨fun w F => ∃ f : Nat -> Value, (FnA g 223 24 f).P w F /\ ∀ i (h : i < (Lib.decDigits u).length), f i = .int .u8 ((Lib.decDigits u)[i].toNat : Int), fun hw h => h.imp fun f h => ⟨(FnA g 223 24 f).loc hw h.1, h.2⟩⟩
theorem getD_at (C : Array Value) (i : Nat) (hi : i < C.size) : C.toList[i]? = some ((C[i]?).getD undef) := by
 simp [Array.getElem?_eq_getElem hi]
theorem c91x (w : World) (g u : Nat) (hg : Hp w g 223 z24) (hu64 : u < 18446744073709551616) (hn : Lib.nDigits u <= 24) :
 Calls Tryz.prog 91 [.slice (some ⟨g, 0, none⟩) (Lib.nDigits u) 24, .int .u64 u].toArray w (RetD (fun _ : Unit => .tu []) (fun _ => True) (fun _ => DigA g u) g w) := by
 have hH : Sort.Holds (fun (b : UInt8) => Value.int .u8 (b.toNat : Int)) w g 0 (Array.replicate (Lib.nDigits u) 0) := fun j hj => by
  have hj' : j < Lib.nDigits u := by simpa using hj
  constructor
  · simp only [World.cell?, hg]
    simp [hj', show j < 24 by omega, List.getElem?_replicate, getElem!_def]
  · simp [World.frozen?, hg]
 have h := Tryz.internal_strconv_formatBase10 g 0 24 u (Array.replicate (Lib.nDigits u) 0) w hH (by rw [Array.size_replicate]; exact Lib.lt_pow_nDigits u) hu64 (by rw [Array.size_replicate]; omega); rw [Array.size_replicate] at h
 refine h.mono fun e w' hr => ?_
 obtain ⟨rfl, k, v', dk, rfl, hF⟩ := hr
 have hb : (Sort.putRow (fun (b : UInt8) => Value.int .u8 (b.toNat : Int)) w g 0 dk).heap[g]? = some (.cells (Sort.putCells (fun (b : UInt8) => Value.int .u8 (b.toNat : Int)) 0 dk z24.toArray) 223 (0, 0)) := by
  simp [Sort.putRow, Sort.mapBlock, Array.getElem?_modify, hg, Sort.onCells]
 refine ⟨(), trivial, ⟨_, rfl, fun r => tu0⟩, ⟨rfl, rfl, rfl, by simp [World.drewN, Sort.putRow, Sort.mapBlock], fun j hj hne => ?_⟩, fun i => ((Sort.putCells (fun (b : UInt8) => Value.int .u8 (b.toNat : Int)) 0 dk z24.toArray)[i]?).getD undef, ⟨fun _ => Iff.rfl, (Sort.putCells (fun (b : UInt8) => Value.int .u8 (b.toNat : Int)) 0 dk z24.toArray).toList, ?_, by simp [Sort.putCells], fun i hi => ?_⟩, fun i hi => ?_⟩
 · simp [World.drewN, Sort.putRow, Sort.mapBlock, Array.getElem?_modify, Ne.symm hne]
 · simpa [World.drewN] using hb
 · exact getD_at _ i (by simpa [Sort.putCells] using hi)
 · have hl := Lib.decDigits_length u
   have hs := hF.size
   have hi' : i < dk.size := by omega
   rw [Lib.row_is_numeral hF i hi]
   have hi24 : i < 24 := by omega
   simp [Sort.putCells, hi', hi24, List.getElem?_replicate]
section
variable {E : En} {S : St} {dst : Option Tmp} {ty : TypeId} {pos : String} {after : Array Edge} {guard : Option (Nat × Bool)} {P : Program}
theorem LS_b2sD {src d e : TypeId} {x : Operand} (g u : Nat) (j : Nat) (hP : E.X.P = P) (hx : ev S x = .sc (.va (.slice (some ⟨g, 0, none⟩) (Lib.nDigits u) 24))) (hj : (j, DigA g u) ∈ E.A) (hn : Lib.nDigits u <= 24)
 (hs : P.underlying src = some (.slice e)) (hd : P.underlying d = some .string) (he : P.underlying e = some (.int .u8)) :
 LS E S ⟨dst, .convert src d x, ty, pos, after, guard⟩ [] (fun _ : Unit => True) (fun _ => S.put dst (.sc (.va (.string ⟨(Lib.decDigits u).toArray⟩)))) (fun _ => E.A) := by
 intro a w r own hsim K Q hK; subst hP; have hv := va_of (hx ▸ (ev_ok hsim.toR x).1); obtain ⟨f, hf, hdg⟩ := (hsim.fact j _ hj).2
 have hrun : (convert src d (.slice (some ⟨g, 0, none⟩) (Lib.nDigits u) 24)).run E.X.P w = Result.ok (.string ⟨(Lib.decDigits u).toArray⟩) w := by
  have h := run_convert_bytes_back (P := E.X.P) w src d e ⟨g, 0, none⟩ 24 (Lib.decDigits u) hs he hd (fun i hi => by
   rw [addr_add, Nat.zero_add, FnA.cell hf (by rw [Lib.decDigits_length] at hi; omega), hdg i hi])
  rwa [Lib.decDigits_length] at h
 have hr : Res E.X.P ⟨dst, .convert src d x, ty, pos, after, guard⟩ a w (a.put dst (.string ⟨(Lib.decDigits u).toArray⟩)) w := by
  refine ⟨_, ?_, .inl ⟨_, rfl, rfl⟩⟩
  simp [execOp, hv, hrun]
 exact hr.wp (hK () trivial _ _ r own (hsim.put dst (ok_va r _) trivial) (.same (put_h ..).1 (put_h ..).2 (Nat.le_refl _) fun _ _ _ _ _ => rfl))
end
section
attribute [local irreducible] LS WS WQ
theorem nDig20 {u : Nat} (h1 : 1 <= u) (h : u < 18446744073709551616) : Lib.nDigits u <= 20 := by have := Lib.numDigits_eq u h1 h; split at this <;> omega
theorem el223 : elT Tryz.prog 223 = none := zk
attribute [go_sem] el223
theorem ar223 : arT Tryz.prog 223 = some (24, 1) := zk
theorem cutA0 (a : Addr) (n k : Nat) : cutA a n 0 k = a := by
 unfold cutA
 split
 · rfl
 · obtain ⟨b, q, s⟩ := a
   simp [Addr.add]
theorem c140 (w : World) (FG : Nat -> Prop) (hG : Gy w FG) (u : Nat) (hu : u < 1000000000000000000) : Calls Tryz.prog 140 [.int .u64 u, .int .i64 10].toArray w (RetS (.sc (.va (.string ⟨(Lib.decDigits u).toArray⟩))) w) := by
 have hu64 : u < 18446744073709551616 := by omega
 by_cases h100 : u < 100
 · refine calls_start 1000 Tryz.func140 rfl ?_
   intro E hX hP hA hQ
   repeat' first
    | refine zB ?_ | apply zI <;> intro hdec | with_reducible constructor
    | (refine zcS 89 (.sc (.va (.string ⟨(Lib.decDigits u).toArray⟩))) ?_ ?_
       · (intro a w r own hSim; simp only [go_sem]; with_reducible exact c89 u zo _))
    | refine zs3 ?_
   all_goals try first
    | omega | (unfold I64; omega) | exact zr0
 · have hu1 : 1 <= u := by omega
   have hn20 := nDig20 hu1 hu64
   refine calls_start 1000 Tryz.func140 rfl fun E hX hP hA hQ => ?_
   repeat' first
    | refine zB ?_ | apply zI <;> intro hdec | with_reducible constructor
    | (refine zcS 90 (.sc (.va (.int .i64 (Lib.nDigits u)))) ?_ ?_
       · (intro a w r own hSim; simp only [go_sem]; have hGs := hG.of (by rw [hX] at hSim; exact hSim) (fun k hk h => h); with_reducible exact c90 _ FG hGs u hu1 hu64))
    | (refine WO_LE 850 (LS_b2sD g u 1 hP ?_ ?_ zo un207 un9 un5) ?_; exact zq0; exact zq13; intro _ _)
    | (refine WO_LS 850 (LS_callB (α := Unit) (f := 91) g 223 [.int .u8 0, .int .u8 0, .int .u8 0, .int .u8 0, .int .u8 0, .int .u8 0, .int .u8 0, .int .u8 0, .int .u8 0, .int .u8 0, .int .u8 0, .int .u8 0, .int .u8 0, .int .u8 0, .int .u8 0, .int .u8 0, .int .u8 0, .int .u8 0, .int .u8 0, .int .u8 0, .int .u8 0, .int .u8 0, .int .u8 0, .int .u8 0] 0 (fun _ => .tu []) (fun _ => True) (fun _ => DigA g u) hP ?_ ?_ ?_ ?_ ?_ ?_) ?_
       rfl; exact zq1; exact zq33; exact zq0; exact zq13
       · (intro a w r own hSim hb; simp only [go_sem]; have hb' : Hp w g 223 z24 := hb; with_reducible exact c91x _ g u hb' hu64 zo)
       intro _ _ E2 h1 h2 h3; refine zz ?_; intro hX hP hA hQ)
    | (refine WO_LE 850 (LS_asl 24 1 hP ar223 ?_ ?_ ?_ ?_ ?_ ?_) ?_
       exact zq0; exact zq0; exact zq0
       rotate_left 3
       intro _ _; simp only [go_sem, cutA0, Int.toNat_natCast, Int.toNat_zero, Nat.sub_zero])
    | (with_reducible show WO _ _ _ _ _ _
       apply WO_conc 0 223 [.int .u8 0, .int .u8 0, .int .u8 0, .int .u8 0, .int .u8 0, .int .u8 0, .int .u8 0, .int .u8 0, .int .u8 0, .int .u8 0, .int .u8 0, .int .u8 0, .int .u8 0, .int .u8 0, .int .u8 0, .int .u8 0, .int .u8 0, .int .u8 0, .int .u8 0, .int .u8 0, .int .u8 0, .int .u8 0, .int .u8 0, .int .u8 0] rfl
       intro g E2 h1 h2 h3; simp only [go_sem, ↓reduceIte, Nat.reduceAdd, Nat.zero_add, Nat.reduceEqDiff]; refine zz ?_; intro hX hP hA hQ)
    | refine zs3 ?_
   all_goals try first
    | omega | (unfold I64; omega) | exact zr0
end
end
section
attribute [local irreducible] leT leH WO WX WC WD LS WS WQ
theorem c25_10 (w : World) (F : Nat -> Prop) (hFl : ∀ k, F k -> k < w.heap.size) (g gx b tk : Nat) (F0 : Nat -> Prop) (K : Int) (a : Option Addr) (m cp : Nat) (xs : List Value) (hg : Hp w g 77 (flwC K a m cp)) (hrow : (Row 54 1 (.slice a m cp) m xs).P w F0) (hf0 : ∀ k, F0 k -> k ≠ g /\ k < w.heap.size) (hdis : ∀ k, F k -> k ≠ g /\ ¬ F0 k)
 (gk : Nat) (n0 : N) (ds0 : List D) (hw0 : WalkC n0) (hat0 : ATd w F n0 (.mk (.iface 128 (ptr gk)) ds0)) (hFg : F gx) (hFb : F b) (hgx : Hp w gx 143 [ptr b, ptr tk, ptr gk]) (hb : Hp w b 230 baseC) (hlim : m + (1 + n0.cnt) <= 1000000) :
 Calls Tryz.prog 25 [.iface 75 (ptr g), .iface 141 (ptr gx)].toArray w (WalkQ (.tu []) g F0 K ((m + (vy K 10 (.iface 141 (ptr gx))).length) + (hit K (prs n0 (.mk (.iface 128 (ptr gk)) ds0))).length) ((xs ++ vy K 10 (.iface 141 (ptr gx))) ++ hit K (prs n0 (.mk (.iface 128 (ptr gk)) ds0))) w) := by
 have hFm : ∀ k, F k -> ¬ (k ∈ [g] \/ F0 k) := fun k hk h => h.elim (fun h => (hdis k hk).1 (by simpa using h)) (hdis k hk).2
 refine calls_startF 1000 [g] [(0, 77, [.va (.int .i64 K), .va (.slice a m cp)])] [.sc (.ic 75 0 0), .sc (.va (.iface 141 (ptr gx)))] (Row 54 1 (.slice a m cp) m xs) F0 Tryz.func25 rfl ⟨⟨rfl, rfl⟩, ⟨rfl, rfl⟩, trivial⟩ zp (HpOk_one hg rfl) hrow (fun k hk => ⟨by simpa using (hf0 k hk).1, (hf0 k hk).2⟩) ?_
 intro E hX hP hA hQ; have hv := vy_len K 10 (.iface 141 (ptr gx))
 have hl0 : (hit K (prs n0 (.mk (.iface 128 (ptr gk)) ds0))).length <= n0.cnt := by rw [<- prs_len hat0]; exact hit_len _ _
 repeat' first
  | refine zB ?_ | apply zI <;> intro hdec | with_reducible constructor
  | apply WX_fin hX rfl hQ (.inr rfl)
  | (refine WO_LS 850 (LS_visit g 10 K 141 gx 0 rfl a m cp xs (by simp [kOk]) hP ?_ rfl rfl ?_ ?_ ?_ ?_ ?_ zo) ?_; exact zq28; exact zq0; exact zq0; exact zq15; exact zq14; exact zq13; rintro ⟨a1, q1⟩ _ E2 h1 h2 h3; refine zz ?_; intro hX hP hA hQ) | (refine zr7 ?_; intro _ _) | (refine zcS 47 (.tu []) ?_ ?_; exact zq36)
  | (refine WO_LS 850 (LS_walk g n0 (.mk (.iface 128 (ptr gk)) ds0) F K 1 a1 (m + (vy K 10 (.iface 141 (ptr gx))).length) q1 (xs ++ vy K 10 (.iface 141 (ptr gx))) hw0 (by rw [hX]; exact hat0) (by rw [hX]; exact fun k hk => ⟨hFl k hk, hFm k hk⟩) (by rw [hX]; exact .inl (List.mem_singleton_self _)) hP ?_ rfl rfl ?_ ?_ ?_ ?_ ?_ zo) ?_
     exact zq28; exact zq0
     · simp only [go_sem, D.x]
     exact zq15; exact zq14; exact zq13; rintro ⟨a2, q2⟩ _ E2 h1 h2 h3; refine zz ?_; intro hX hP hA hQ)
  | (refine WO_LE 850 (LS_rc (⟨gx, 2, none⟩) [ptr gk] false hX ?_ ?_ ?_ ?_ (fun _ => rfl)) ?_; exact zq0; exact zq12; exact zq29; exact sz128; intro _ _) | refine zs1 ?_
 all_goals try first
  | (intro a' w' r own hs'
     rw [hA] at hs'; exact retN_finF (res := fun _ : Option Addr × Nat => .tu []) (φ := fun _ => True) (cs := fun x => flwC K x.1 ((m + (vy K 10 (.iface 141 (ptr gx))).length) + (hit K (prs n0 (.mk (.iface 128 (ptr gk)) ds0))).length) x.2) (B := fun x : Option Addr × Nat => Row 54 1 (.slice x.1 ((m + (vy K 10 (.iface 141 (ptr gx))).length) + (hit K (prs n0 (.mk (.iface 128 (ptr gk)) ds0))).length) x.2) ((m + (vy K 10 (.iface 141 (ptr gx))).length) + (hit K (prs n0 (.mk (.iface 128 (ptr gk)) ds0))).length) ((xs ++ vy K 10 (.iface 141 (ptr gx))) ++ hit K (prs n0 (.mk (.iface 128 (ptr gk)) ds0)))) hs' (a2, q2) trivial zm (fun r' => tu0) (j := 2) zm)
theorem c25_13 (w : World) (F : Nat -> Prop) (hFl : ∀ k, F k -> k < w.heap.size) (g gx b tk : Nat) (F0 : Nat -> Prop) (K : Int) (a : Option Addr) (m cp : Nat) (xs : List Value) (hg : Hp w g 77 (flwC K a m cp)) (hrow : (Row 54 1 (.slice a m cp) m xs).P w F0) (hf0 : ∀ k, F0 k -> k ≠ g /\ k < w.heap.size) (hdis : ∀ k, F k -> k ≠ g /\ ¬ F0 k)
 (x0 x1 : Value) (fl : Bool) (n0 : N) (ds0 : List D) (hw0 : WalkC n0) (hat0 : ATd w F n0 (.mk x0 ds0)) (n1 : N) (ds1 : List D) (hw1 : WalkC n1) (hat1 : ATd w F n1 (.mk x1 ds1)) (hFg : F gx) (hFb : F b) (hgx : Hp w gx 164 [ptr b, ptr tk, .pointer none, x0, x1, .pointer none, .bool fl]) (hb : Hp w b 230 baseC) (hlim : m + (1 + n0.cnt + n1.cnt) <= 1000000) :
 Calls Tryz.prog 25 [.iface 75 (ptr g), .iface 157 (ptr gx)].toArray w (WalkQ (.tu []) g F0 K (((m + (vy K 13 (.iface 157 (ptr gx))).length) + (hit K (prs n0 (.mk x0 ds0))).length) + (hit K (prs n1 (.mk x1 ds1))).length) (((xs ++ vy K 13 (.iface 157 (ptr gx))) ++ hit K (prs n0 (.mk x0 ds0))) ++ hit K (prs n1 (.mk x1 ds1))) w) := by
 have hFm : ∀ k, F k -> ¬ (k ∈ [g] \/ F0 k) := fun k hk h => h.elim (fun h => (hdis k hk).1 (by simpa using h)) (hdis k hk).2
 refine calls_startF 1000 [g] [(0, 77, [.va (.int .i64 K), .va (.slice a m cp)])] [.sc (.ic 75 0 0), .sc (.va (.iface 157 (ptr gx)))] (Row 54 1 (.slice a m cp) m xs) F0 Tryz.func25 rfl ⟨⟨rfl, rfl⟩, ⟨rfl, rfl⟩, trivial⟩ zp (HpOk_one hg rfl) hrow (fun k hk => ⟨by simpa using (hf0 k hk).1, (hf0 k hk).2⟩) ?_
 intro E hX hP hA hQ; have hv := vy_len K 13 (.iface 157 (ptr gx))
 have hl0 : (hit K (prs n0 (.mk x0 ds0))).length <= n0.cnt := by rw [<- prs_len hat0]; exact hit_len _ _
 have hl1 : (hit K (prs n1 (.mk x1 ds1))).length <= n1.cnt := by rw [<- prs_len hat1]; exact hit_len _ _
 repeat' first
  | refine zB ?_ | apply zI <;> intro hdec | with_reducible constructor
  | apply WX_fin hX rfl hQ (.inr rfl)
  | (refine WO_LS 850 (LS_visit g 13 K 157 gx 0 rfl a m cp xs (by simp [kOk]) hP ?_ rfl rfl ?_ ?_ ?_ ?_ ?_ zo) ?_; exact zq28; exact zq0; exact zq0; exact zq15; exact zq14; exact zq13; rintro ⟨a1, q1⟩ _ E2 h1 h2 h3; refine zz ?_; intro hX hP hA hQ) | (refine zr7 ?_; intro _ _) | (refine zcS 47 (.tu []) ?_ ?_; exact zq36)
  | (refine WO_LS 850 (LS_walk g n0 (.mk x0 ds0) F K 1 a1 (m + (vy K 13 (.iface 157 (ptr gx))).length) q1 (xs ++ vy K 13 (.iface 157 (ptr gx))) hw0 (by rw [hX]; exact hat0) (by rw [hX]; exact fun k hk => ⟨hFl k hk, hFm k hk⟩) (by rw [hX]; exact .inl (List.mem_singleton_self _)) hP ?_ rfl rfl ?_ ?_ ?_ ?_ ?_ zo) ?_
     exact zq28; exact zq0
     · simp only [go_sem, D.x]
     exact zq15; exact zq14; exact zq13; rintro ⟨a2, q2⟩ _ E2 h1 h2 h3; refine zz ?_; intro hX hP hA hQ)
  | (refine WO_LS 850 (LS_walk g n1 (.mk x1 ds1) F K 2 a2 ((m + (vy K 13 (.iface 157 (ptr gx))).length) + (hit K (prs n0 (.mk x0 ds0))).length) q2 ((xs ++ vy K 13 (.iface 157 (ptr gx))) ++ hit K (prs n0 (.mk x0 ds0))) hw1 (by rw [hX]; exact hat1) (by rw [hX]; exact fun k hk => ⟨hFl k hk, hFm k hk⟩) (by rw [hX]; exact .inl (List.mem_singleton_self _)) hP ?_ rfl rfl ?_ ?_ ?_ ?_ ?_ zo) ?_
     exact zq28; exact zq0
     · simp only [go_sem, D.x]
     exact zq15; exact zq14; exact zq13; rintro ⟨a3, q3⟩ _ E2 h1 h2 h3; refine zz ?_; intro hX hP hA hQ)
  | (refine WO_LE 850 (LS_rc (⟨gx, 3, none⟩) [x0] false hX ?_ ?_ ?_ ?_ (fun _ => rfl)) ?_; exact zq0; exact zq12; exact zq29; exact sz162; intro _ _) | (refine WO_LE 850 (LS_rc (⟨gx, 4, none⟩) [x1] false hX ?_ ?_ ?_ ?_ (fun _ => rfl)) ?_; exact zq0; exact zq12; exact zq29; exact sz54; intro _ _) | refine zs1 ?_
 all_goals try first
  | (intro a' w' r own hs'
     rw [hA] at hs'; exact retN_finF (res := fun _ : Option Addr × Nat => .tu []) (φ := fun _ => True) (cs := fun x => flwC K x.1 (((m + (vy K 13 (.iface 157 (ptr gx))).length) + (hit K (prs n0 (.mk x0 ds0))).length) + (hit K (prs n1 (.mk x1 ds1))).length) x.2) (B := fun x : Option Addr × Nat => Row 54 1 (.slice x.1 (((m + (vy K 13 (.iface 157 (ptr gx))).length) + (hit K (prs n0 (.mk x0 ds0))).length) + (hit K (prs n1 (.mk x1 ds1))).length) x.2) (((m + (vy K 13 (.iface 157 (ptr gx))).length) + (hit K (prs n0 (.mk x0 ds0))).length) + (hit K (prs n1 (.mk x1 ds1))).length) (((xs ++ vy K 13 (.iface 157 (ptr gx))) ++ hit K (prs n0 (.mk x0 ds0))) ++ hit K (prs n1 (.mk x1 ds1)))) hs' (a3, q3) trivial zm (fun r' => tu0) (j := 3) zm)
theorem c25_16 (w : World) (F : Nat -> Prop) (hFl : ∀ k, F k -> k < w.heap.size) (g gx b tk : Nat) (F0 : Nat -> Prop) (K : Int) (a : Option Addr) (m cp : Nat) (xs : List Value) (hg : Hp w g 77 (flwC K a m cp)) (hrow : (Row 54 1 (.slice a m cp) m xs).P w F0) (hf0 : ∀ k, F0 k -> k ≠ g /\ k < w.heap.size) (hdis : ∀ k, F k -> k ≠ g /\ ¬ F0 k)
 (x0 x1 : Value) (n0 : N) (ds0 : List D) (hw0 : WalkC n0) (hat0 : ATd w F n0 (.mk x0 ds0)) (n1 : N) (ds1 : List D) (hw1 : WalkC n1) (hat1 : ATd w F n1 (.mk x1 ds1)) (hFg : F gx) (hFb : F b) (hgx : Hp w gx 167 [ptr b, ptr tk, x0, x1]) (hb : Hp w b 230 baseC) (hlim : m + (1 + n0.cnt + n1.cnt) <= 1000000) :
 Calls Tryz.prog 25 [.iface 75 (ptr g), .iface 165 (ptr gx)].toArray w (WalkQ (.tu []) g F0 K (((m + (vy K 16 (.iface 165 (ptr gx))).length) + (hit K (prs n0 (.mk x0 ds0))).length) + (hit K (prs n1 (.mk x1 ds1))).length) (((xs ++ vy K 16 (.iface 165 (ptr gx))) ++ hit K (prs n0 (.mk x0 ds0))) ++ hit K (prs n1 (.mk x1 ds1))) w) := by
 have hFm : ∀ k, F k -> ¬ (k ∈ [g] \/ F0 k) := fun k hk h => h.elim (fun h => (hdis k hk).1 (by simpa using h)) (hdis k hk).2
 refine calls_startF 1000 [g] [(0, 77, [.va (.int .i64 K), .va (.slice a m cp)])] [.sc (.ic 75 0 0), .sc (.va (.iface 165 (ptr gx)))] (Row 54 1 (.slice a m cp) m xs) F0 Tryz.func25 rfl ⟨⟨rfl, rfl⟩, ⟨rfl, rfl⟩, trivial⟩ zp (HpOk_one hg rfl) hrow (fun k hk => ⟨by simpa using (hf0 k hk).1, (hf0 k hk).2⟩) ?_
 intro E hX hP hA hQ; have hv := vy_len K 16 (.iface 165 (ptr gx))
 have hl0 : (hit K (prs n0 (.mk x0 ds0))).length <= n0.cnt := by rw [<- prs_len hat0]; exact hit_len _ _
 have hl1 : (hit K (prs n1 (.mk x1 ds1))).length <= n1.cnt := by rw [<- prs_len hat1]; exact hit_len _ _
 repeat' first
  | refine zB ?_ | apply zI <;> intro hdec | with_reducible constructor
  | apply WX_fin hX rfl hQ (.inr rfl)
  | (refine WO_LS 850 (LS_visit g 16 K 165 gx 0 rfl a m cp xs (by simp [kOk]) hP ?_ rfl rfl ?_ ?_ ?_ ?_ ?_ zo) ?_; exact zq28; exact zq0; exact zq0; exact zq15; exact zq14; exact zq13; rintro ⟨a1, q1⟩ _ E2 h1 h2 h3; refine zz ?_; intro hX hP hA hQ) | (refine zr7 ?_; intro _ _) | (refine zcS 47 (.tu []) ?_ ?_; exact zq36)
  | (refine WO_LS 850 (LS_walk g n0 (.mk x0 ds0) F K 1 a1 (m + (vy K 16 (.iface 165 (ptr gx))).length) q1 (xs ++ vy K 16 (.iface 165 (ptr gx))) hw0 (by rw [hX]; exact hat0) (by rw [hX]; exact fun k hk => ⟨hFl k hk, hFm k hk⟩) (by rw [hX]; exact .inl (List.mem_singleton_self _)) hP ?_ rfl rfl ?_ ?_ ?_ ?_ ?_ zo) ?_
     exact zq28; exact zq0
     · simp only [go_sem, D.x]
     exact zq15; exact zq14; exact zq13; rintro ⟨a2, q2⟩ _ E2 h1 h2 h3; refine zz ?_; intro hX hP hA hQ)
  | (refine WO_LS 850 (LS_walk g n1 (.mk x1 ds1) F K 2 a2 ((m + (vy K 16 (.iface 165 (ptr gx))).length) + (hit K (prs n0 (.mk x0 ds0))).length) q2 ((xs ++ vy K 16 (.iface 165 (ptr gx))) ++ hit K (prs n0 (.mk x0 ds0))) hw1 (by rw [hX]; exact hat1) (by rw [hX]; exact fun k hk => ⟨hFl k hk, hFm k hk⟩) (by rw [hX]; exact .inl (List.mem_singleton_self _)) hP ?_ rfl rfl ?_ ?_ ?_ ?_ ?_ zo) ?_
     exact zq28; exact zq0
     · simp only [go_sem, D.x]
     exact zq15; exact zq14; exact zq13; rintro ⟨a3, q3⟩ _ E2 h1 h2 h3; refine zz ?_; intro hX hP hA hQ)
  | (refine WO_LE 850 (LS_rc (⟨gx, 2, none⟩) [x0] false hX ?_ ?_ ?_ ?_ (fun _ => rfl)) ?_; exact zq0; exact zq12; exact zq29; exact sz54; intro _ _) | (refine WO_LE 850 (LS_rc (⟨gx, 3, none⟩) [x1] false hX ?_ ?_ ?_ ?_ (fun _ => rfl)) ?_; exact zq0; exact zq12; exact zq29; exact sz54; intro _ _) | refine zs1 ?_
 all_goals try first
  | (intro a' w' r own hs'
     rw [hA] at hs'; exact retN_finF (res := fun _ : Option Addr × Nat => .tu []) (φ := fun _ => True) (cs := fun x => flwC K x.1 (((m + (vy K 16 (.iface 165 (ptr gx))).length) + (hit K (prs n0 (.mk x0 ds0))).length) + (hit K (prs n1 (.mk x1 ds1))).length) x.2) (B := fun x : Option Addr × Nat => Row 54 1 (.slice x.1 (((m + (vy K 16 (.iface 165 (ptr gx))).length) + (hit K (prs n0 (.mk x0 ds0))).length) + (hit K (prs n1 (.mk x1 ds1))).length) x.2) (((m + (vy K 16 (.iface 165 (ptr gx))).length) + (hit K (prs n0 (.mk x0 ds0))).length) + (hit K (prs n1 (.mk x1 ds1))).length) (((xs ++ vy K 16 (.iface 165 (ptr gx))) ++ hit K (prs n0 (.mk x0 ds0))) ++ hit K (prs n1 (.mk x1 ds1)))) hs' (a3, q3) trivial zm (fun r' => tu0) (j := 3) zm)
theorem c25_17 (w : World) (F : Nat -> Prop) (hFl : ∀ k, F k -> k < w.heap.size) (g gx b tk : Nat) (F0 : Nat -> Prop) (K : Int) (a : Option Addr) (m cp : Nat) (xs : List Value) (hg : Hp w g 77 (flwC K a m cp)) (hrow : (Row 54 1 (.slice a m cp) m xs).P w F0) (hf0 : ∀ k, F0 k -> k ≠ g /\ k < w.heap.size) (hdis : ∀ k, F k -> k ≠ g /\ ¬ F0 k)
 (x0 : Value) (n0 : N) (ds0 : List D) (hw0 : WalkC n0) (hat0 : ATd w F n0 (.mk x0 ds0)) (hFg : F gx) (hFb : F b) (hgx : Hp w gx 169 [ptr b, ptr tk, x0]) (hb : Hp w b 230 baseC) (hlim : m + (1 + n0.cnt) <= 1000000) :
 Calls Tryz.prog 25 [.iface 75 (ptr g), .iface 168 (ptr gx)].toArray w (WalkQ (.tu []) g F0 K ((m + (vy K 17 (.iface 168 (ptr gx))).length) + (hit K (prs n0 (.mk x0 ds0))).length) ((xs ++ vy K 17 (.iface 168 (ptr gx))) ++ hit K (prs n0 (.mk x0 ds0))) w) := by
 have hFm : ∀ k, F k -> ¬ (k ∈ [g] \/ F0 k) := fun k hk h => h.elim (fun h => (hdis k hk).1 (by simpa using h)) (hdis k hk).2
 refine calls_startF 1000 [g] [(0, 77, [.va (.int .i64 K), .va (.slice a m cp)])] [.sc (.ic 75 0 0), .sc (.va (.iface 168 (ptr gx)))] (Row 54 1 (.slice a m cp) m xs) F0 Tryz.func25 rfl ⟨⟨rfl, rfl⟩, ⟨rfl, rfl⟩, trivial⟩ zp (HpOk_one hg rfl) hrow (fun k hk => ⟨by simpa using (hf0 k hk).1, (hf0 k hk).2⟩) ?_
 intro E hX hP hA hQ; have hv := vy_len K 17 (.iface 168 (ptr gx))
 have hl0 : (hit K (prs n0 (.mk x0 ds0))).length <= n0.cnt := by rw [<- prs_len hat0]; exact hit_len _ _
 repeat' first
  | refine zB ?_ | apply zI <;> intro hdec | with_reducible constructor
  | apply WX_fin hX rfl hQ (.inr rfl)
  | (refine WO_LS 850 (LS_visit g 17 K 168 gx 0 rfl a m cp xs (by simp [kOk]) hP ?_ rfl rfl ?_ ?_ ?_ ?_ ?_ zo) ?_; exact zq28; exact zq0; exact zq0; exact zq15; exact zq14; exact zq13; rintro ⟨a1, q1⟩ _ E2 h1 h2 h3; refine zz ?_; intro hX hP hA hQ) | (refine zr7 ?_; intro _ _) | (refine zcS 47 (.tu []) ?_ ?_; exact zq36)
  | (refine WO_LS 850 (LS_walk g n0 (.mk x0 ds0) F K 1 a1 (m + (vy K 17 (.iface 168 (ptr gx))).length) q1 (xs ++ vy K 17 (.iface 168 (ptr gx))) hw0 (by rw [hX]; exact hat0) (by rw [hX]; exact fun k hk => ⟨hFl k hk, hFm k hk⟩) (by rw [hX]; exact .inl (List.mem_singleton_self _)) hP ?_ rfl rfl ?_ ?_ ?_ ?_ ?_ zo) ?_
     exact zq28; exact zq0
     · simp only [go_sem, D.x]
     exact zq15; exact zq14; exact zq13; rintro ⟨a2, q2⟩ _ E2 h1 h2 h3; refine zz ?_; intro hX hP hA hQ)
  | (refine WO_LE 850 (LS_rc (⟨gx, 2, none⟩) [x0] false hX ?_ ?_ ?_ ?_ (fun _ => rfl)) ?_; exact zq0; exact zq12; exact zq29; exact sz54; intro _ _) | refine zs1 ?_
 all_goals try first
  | (intro a' w' r own hs'
     rw [hA] at hs'; exact retN_finF (res := fun _ : Option Addr × Nat => .tu []) (φ := fun _ => True) (cs := fun x => flwC K x.1 ((m + (vy K 17 (.iface 168 (ptr gx))).length) + (hit K (prs n0 (.mk x0 ds0))).length) x.2) (B := fun x : Option Addr × Nat => Row 54 1 (.slice x.1 ((m + (vy K 17 (.iface 168 (ptr gx))).length) + (hit K (prs n0 (.mk x0 ds0))).length) x.2) ((m + (vy K 17 (.iface 168 (ptr gx))).length) + (hit K (prs n0 (.mk x0 ds0))).length) ((xs ++ vy K 17 (.iface 168 (ptr gx))) ++ hit K (prs n0 (.mk x0 ds0)))) hs' (a2, q2) trivial zm (fun r' => tu0) (j := 2) zm)
theorem c25_19 (w : World) (F : Nat -> Prop) (hFl : ∀ k, F k -> k < w.heap.size) (g gx b tk : Nat) (F0 : Nat -> Prop) (K : Int) (a : Option Addr) (m cp : Nat) (xs : List Value) (hg : Hp w g 77 (flwC K a m cp)) (hrow : (Row 54 1 (.slice a m cp) m xs).P w F0) (hf0 : ∀ k, F0 k -> k ≠ g /\ k < w.heap.size) (hdis : ∀ k, F k -> k ≠ g /\ ¬ F0 k)
 (x0 : Value) (n0 : N) (ds0 : List D) (hw0 : WalkC n0) (hat0 : ATd w F n0 (.mk x0 ds0)) (hFg : F gx) (hFb : F b) (hgx : Hp w gx 149 [ptr b, .pointer none, ptr tk, x0]) (hb : Hp w b 230 baseC) (hlim : m + (1 + n0.cnt) <= 1000000) :
 Calls Tryz.prog 25 [.iface 75 (ptr g), .iface 147 (ptr gx)].toArray w (WalkQ (.tu []) g F0 K ((m + (vy K 19 (.iface 147 (ptr gx))).length) + (hit K (prs n0 (.mk x0 ds0))).length) ((xs ++ vy K 19 (.iface 147 (ptr gx))) ++ hit K (prs n0 (.mk x0 ds0))) w) := by
 have hFm : ∀ k, F k -> ¬ (k ∈ [g] \/ F0 k) := fun k hk h => h.elim (fun h => (hdis k hk).1 (by simpa using h)) (hdis k hk).2
 refine calls_startF 1000 [g] [(0, 77, [.va (.int .i64 K), .va (.slice a m cp)])] [.sc (.ic 75 0 0), .sc (.va (.iface 147 (ptr gx)))] (Row 54 1 (.slice a m cp) m xs) F0 Tryz.func25 rfl ⟨⟨rfl, rfl⟩, ⟨rfl, rfl⟩, trivial⟩ zp (HpOk_one hg rfl) hrow (fun k hk => ⟨by simpa using (hf0 k hk).1, (hf0 k hk).2⟩) ?_
 intro E hX hP hA hQ; have hv := vy_len K 19 (.iface 147 (ptr gx))
 have hl0 : (hit K (prs n0 (.mk x0 ds0))).length <= n0.cnt := by rw [<- prs_len hat0]; exact hit_len _ _
 repeat' first
  | refine zB ?_ | apply zI <;> intro hdec | with_reducible constructor
  | apply WX_fin hX rfl hQ (.inr rfl)
  | (refine WO_LS 850 (LS_visit g 19 K 147 gx 0 rfl a m cp xs (by simp [kOk]) hP ?_ rfl rfl ?_ ?_ ?_ ?_ ?_ zo) ?_; exact zq28; exact zq0; exact zq0; exact zq15; exact zq14; exact zq13; rintro ⟨a1, q1⟩ _ E2 h1 h2 h3; refine zz ?_; intro hX hP hA hQ) | (refine zr7 ?_; intro _ _) | (refine zcS 47 (.tu []) ?_ ?_; exact zq36)
  | (refine WO_LS 850 (LS_walk g n0 (.mk x0 ds0) F K 1 a1 (m + (vy K 19 (.iface 147 (ptr gx))).length) q1 (xs ++ vy K 19 (.iface 147 (ptr gx))) hw0 (by rw [hX]; exact hat0) (by rw [hX]; exact fun k hk => ⟨hFl k hk, hFm k hk⟩) (by rw [hX]; exact .inl (List.mem_singleton_self _)) hP ?_ rfl rfl ?_ ?_ ?_ ?_ ?_ zo) ?_
     exact zq28; exact zq0
     · simp only [go_sem, D.x]
     exact zq15; exact zq14; exact zq13; rintro ⟨a2, q2⟩ _ E2 h1 h2 h3; refine zz ?_; intro hX hP hA hQ)
  | (refine WO_LE 850 (LS_rc (⟨gx, 3, none⟩) [x0] false hX ?_ ?_ ?_ ?_ (fun _ => rfl)) ?_; exact zq0; exact zq12; exact zq29; exact sz54; intro _ _) | refine zs1 ?_
 all_goals try first
  | (intro a' w' r own hs'
     rw [hA] at hs'; exact retN_finF (res := fun _ : Option Addr × Nat => .tu []) (φ := fun _ => True) (cs := fun x => flwC K x.1 ((m + (vy K 19 (.iface 147 (ptr gx))).length) + (hit K (prs n0 (.mk x0 ds0))).length) x.2) (B := fun x : Option Addr × Nat => Row 54 1 (.slice x.1 ((m + (vy K 19 (.iface 147 (ptr gx))).length) + (hit K (prs n0 (.mk x0 ds0))).length) x.2) ((m + (vy K 19 (.iface 147 (ptr gx))).length) + (hit K (prs n0 (.mk x0 ds0))).length) ((xs ++ vy K 19 (.iface 147 (ptr gx))) ++ hit K (prs n0 (.mk x0 ds0)))) hs' (a2, q2) trivial zm (fun r' => tu0) (j := 2) zm)
theorem c27_7 (w : World) (F : Nat -> Prop) (hG : Gl w F) (ty : Int) (v t : ByteArray) (fl : Bool) (c : Int) (ka : Option Addr) (kn kc : Nat) (tk p : Nat) (htk : Hp w tk 87 (tokC ty t p)) (hv : v = ⟨#[78, 97, 78]⟩) : Calls Tryz.prog 27 [.agg (nodeC 7 ty v t t ⟨#[]⟩ fl false false 1 c c 0 0 ka kn kc).toArray, ptr tk].toArray w (Ret1 (fun g : Nat => .sc (.va (.iface 139 (ptr g)))) (fun _ => True) (fun g => Ast0A tk (.mk 7 ty v t fl c []) (.iface 139 (ptr g))) w) := by
 refine calls_start 1000 Tryz.func27 rfl fun E hX hP hA hQ => ?_
 repeat' first
  | refine zB ?_ | apply zI <;> intro hdec | with_reducible constructor
  | (refine WO_LS 850 (LS_call2 (α := Nat × Nat) (f := 54) (fun x : Nat × Nat => .sc (.va (ptr x.1))) (fun _ => True) (fun x => Blk x.1 140 [ptr x.2, ptr tk]) (fun x => Blk x.2 230 baseC) hP ?_ ?_ ?_ ?_ ?_) ?_
     rfl; exact zq1; exact zq9; exact zq0
     · (intro a w r own hSim; rw [hX] at hSim; simp only [go_sem]; with_reducible exact c54 _ tk)
     rintro ⟨gs, gb⟩ _ E2 h1 h2 h3; refine zy ?_; intro hX hP hA hQ)
  | refine zs6 ?_
 all_goals try first
  | omega
  | (intro a w' r own hs'
     rw [hA] at hs'; have b1 := hs'.bk (j := 1) (g := gs) (by simp; rfl); have b2 := hs'.bk (j := 2) (g := gb) (t := 230) (cs := baseC) zp; exact ret1_finU hs' [1, 2] gs trivial (fun r => .inr rfl) ⟨gs, gb, [], _, rfl, ⟨1, zp, b1.1⟩, ⟨2, zp, b2.1⟩, b2.2, b1.2, .nan hv, rfl⟩)
theorem c27_2 (w : World) (F : Nat -> Prop) (hG : Gl w F) (ty : Int) (v t : ByteArray) (fl : Bool) (c : Int) (ka : Option Addr) (kn kc : Nat) (tk p : Nat) (htk : Hp w tk 87 (tokC ty t p))  : Calls Tryz.prog 27 [.agg (nodeC 2 ty v t t ⟨#[]⟩ fl false false 1 c c 0 0 ka kn kc).toArray, ptr tk].toArray w (Ret1 (fun g : Nat => .sc (.va (.iface 118 (ptr g)))) (fun _ => True) (fun g => Ast0A tk (.mk 2 ty v t fl c []) (.iface 118 (ptr g))) w) := by
 refine calls_start 1000 Tryz.func27 rfl fun E hX hP hA hQ => ?_
 repeat' first
  | refine zB ?_ | apply zI <;> intro hdec | with_reducible constructor
  | (refine WO_LS 850 (LS_call2 (α := Nat × Nat) (f := 68) (fun x : Nat × Nat => .sc (.va (ptr x.1))) (fun _ => True) (fun x => Blk x.1 121 [ptr x.2, ptr tk]) (fun x => Blk x.2 230 baseC) hP ?_ ?_ ?_ ?_ ?_) ?_
     rfl; exact zq1; exact zq9; exact zq0
     · (intro a w r own hSim; rw [hX] at hSim; simp only [go_sem]; with_reducible exact c68 _ tk)
     rintro ⟨gs, gb⟩ _ E2 h1 h2 h3; refine zy ?_; intro hX hP hA hQ)
  | refine zs6 ?_
 all_goals try first
  | omega
  | (intro a w' r own hs'
     rw [hA] at hs'; have b1 := hs'.bk (j := 1) (g := gs) (by simp; rfl); have b2 := hs'.bk (j := 2) (g := gb) (t := 230) (cs := baseC) zp; exact ret1_finU hs' [1, 2] gs trivial (fun r => .inr rfl) ⟨gs, gb, [], _, rfl, ⟨1, zp, b1.1⟩, ⟨2, zp, b2.1⟩, b2.2, b1.2, .null, rfl⟩)
theorem c27_3 (w : World) (F : Nat -> Prop) (hG : Gl w F) (ty : Int) (v t : ByteArray) (fl : Bool) (c : Int) (ka : Option Addr) (kn kc : Nat) (tk p : Nat) (htk : Hp w tk 87 (tokC ty t p)) (x0 : Bool) (hx0 : Lib.parseBool t.data.toList = some x0) (hv : v = ⟨(Lib.formatBool x0).toArray⟩) : Calls Tryz.prog 27 [.agg (nodeC 3 ty v t t ⟨#[]⟩ fl false false 1 c c 0 0 ka kn kc).toArray, ptr tk].toArray w (Ret1 (fun g : Nat => .sc (.va (.iface 133 (ptr g)))) (fun _ => True) (fun g => Ast0A tk (.mk 3 ty v t fl c []) (.iface 133 (ptr g))) w) := by
 refine calls_start 1000 Tryz.func27 rfl fun E hX hP hA hQ => ?_
 repeat' first
  | refine zB ?_ | apply zI <;> intro hdec | with_reducible constructor
  | (refine WO_LS 850 (LS_call2 (α := Nat × Nat) (f := 50) (fun x : Nat × Nat => .sc (.va (ptr x.1))) (fun _ => True) (fun x => Blk x.1 135 [ptr x.2, ptr tk, .bool x0]) (fun x => Blk x.2 230 baseC) hP ?_ ?_ ?_ ?_ ?_) ?_
     rfl; exact zq1; exact zq9; exact zq0
     · (intro a w r own hSim; rw [hX] at hSim; simp only [go_sem]; have htk2 := hSim.keep htk; with_reducible exact c50 _ tk ty t p htk2 x0 hx0)
     rintro ⟨gs, gb⟩ _ E2 h1 h2 h3; refine zy ?_; intro hX hP hA hQ)
  | refine zs6 ?_
 all_goals try first
  | omega
  | (intro a w' r own hs'
     rw [hA] at hs'; have b1 := hs'.bk (j := 1) (g := gs) (by simp; rfl); have b2 := hs'.bk (j := 2) (g := gb) (t := 230) (cs := baseC) zp; exact ret1_finU hs' [1, 2] gs trivial (fun r => .inr rfl) ⟨gs, gb, [], _, rfl, ⟨1, zp, b1.1⟩, ⟨2, zp, b2.1⟩, b2.2, b1.2, (.bool x0 hv), rfl⟩)
theorem c27_4 (w : World) (F : Nat -> Prop) (hG : Gl w F) (ty : Int) (v t : ByteArray) (fl : Bool) (c : Int) (ka : Option Addr) (kn kc : Nat) (tk p : Nat) (htk : Hp w tk 87 (tokC ty t p)) (tv : Nat) (pv : Value) (hv : IntV (.iface tv pv) v) (h96 : ∀ w, Gl w F -> Calls Tryz.prog 96 [.string t].toArray w (Ret1 (fun g : Nat => .sc (.va (.pointer (some ⟨g, 0, none⟩)))) (fun _ => True) (NumA ⟨#[100, 101, 99, 105, 109, 97, 108]⟩ (.iface tv pv) t) w)) : Calls Tryz.prog 27 [.agg (nodeC 4 ty v t t ⟨#[]⟩ fl false false 1 c c 0 0 ka kn kc).toArray, ptr tk].toArray w (Ret1 (fun g : Nat => .sc (.va (.iface 122 (ptr g)))) (fun _ => True) (fun g => Ast0A tk (.mk 4 ty v t fl c []) (.iface 122 (ptr g))) w) := by
 refine calls_start 1000 Tryz.func27 rfl fun E hX hP hA hQ => ?_
 repeat' first
  | refine zB ?_ | apply zI <;> intro hdec | with_reducible constructor
  | (refine WO_LS 850 (LS_call2 (α := Nat × Nat) (f := 51) (fun x : Nat × Nat => .sc (.va (ptr x.1))) (fun _ => True) (fun x => Blk x.1 124 [ptr x.2, ptr tk, .iface tv pv]) (fun x => Blk x.2 230 baseC) hP ?_ ?_ ?_ ?_ ?_) ?_
     rfl; exact zq1; exact zq9; exact zq0
     · (intro a w r own hSim; rw [hX] at hSim; simp only [go_sem]; have hGs := (hG.of hSim (fun k hk h => h)); have htk2 := hSim.keep htk; with_reducible exact c51 _ tk ty t p htk2 F hGs tv pv h96)
     rintro ⟨gs, gb⟩ _ E2 h1 h2 h3; refine zy ?_; intro hX hP hA hQ)
  | refine zs6 ?_
 all_goals try first
  | omega
  | (intro a w' r own hs'
     rw [hA] at hs'; have b1 := hs'.bk (j := 1) (g := gs) (by simp; rfl); have b2 := hs'.bk (j := 2) (g := gb) (t := 230) (cs := baseC) zp; exact ret1_finU hs' [1, 2] gs trivial (fun r => .inr rfl) ⟨gs, gb, [], _, rfl, ⟨1, zp, b1.1⟩, ⟨2, zp, b2.1⟩, b2.2, b1.2, (.int _ hv), rfl⟩)
theorem c27_5 (w : World) (F : Nat -> Prop) (hG : Gl w F) (ty : Int) (v t : ByteArray) (fl : Bool) (c : Int) (ka : Option Addr) (kn kc : Nat) (tk p : Nat) (htk : Hp w tk 87 (tokC ty t p)) (h96 : ∀ w, Gl w F -> Calls Tryz.prog 96 [.string t].toArray w (Ret1 TfR (fun _ => True) (ToA t) w)) : Calls Tryz.prog 27 [.agg (nodeC 5 ty v t t ⟨#[]⟩ fl false false 1 c c 0 0 ka kn kc).toArray, ptr tk].toArray w (Ret1 (fun g : Nat => .sc (.va (.iface 125 (ptr g)))) (fun _ => True) (fun g => Ast0A tk (.mk 5 ty v t fl c []) (.iface 125 (ptr g))) w) := by
 refine calls_start 1000 Tryz.func27 rfl fun E hX hP hA hQ => ?_
 repeat' first
  | refine zB ?_ | apply zI <;> intro hdec | with_reducible constructor
  | (refine WO_LS 850 (LS_call2 (α := Nat × Nat × Nat) (f := 52) (fun x : Nat × Nat × Nat => .sc (.va (ptr x.1))) (fun _ => True) (fun x : Nat × Nat × Nat => Blk x.1 127 [ptr x.2.1, ptr tk, .int .i64 0, .float .f64 x.2.2]) (fun x : Nat × Nat × Nat => Blk x.2.1 230 baseC) hP ?_ ?_ ?_ ?_ ?_) ?_
     rfl; exact zq1; exact zq9; exact zq0
     · (intro a w r own hSim; rw [hX] at hSim; simp only [go_sem]; have hGs := (hG.of hSim (fun k hk h => h)); have htk2 := hSim.keep htk; with_reducible exact c52 _ tk ty t p htk2 F hGs h96)
     rintro ⟨gs, gb, f1⟩ hf1 E2 h1 h2 h3; refine zy ?_; intro hX hP hA hQ)
  | refine zs6 ?_
 all_goals try first
  | omega
  | (intro a w' r own hs'
     rw [hA] at hs'; have b1 := hs'.bk (j := 1) (g := gs) (by simp; rfl); have b2 := hs'.bk (j := 2) (g := gb) (t := 230) (cs := baseC) zp; exact ret1_finU hs' [1, 2] gs trivial (fun r => .inr rfl) ⟨gs, gb, [], _, rfl, ⟨1, zp, b1.1⟩, ⟨2, zp, b2.1⟩, b2.2, b1.2, (.float f1), rfl⟩)
theorem c27_6 (w : World) (F : Nat -> Prop) (hG : Gl w F) (ty : Int) (v t : ByteArray) (fl : Bool) (c : Int) (ka : Option Addr) (kn kc : Nat) (tk p : Nat) (htk : Hp w tk 87 (tokC ty t p)) (hW : t ∈ infW) (h43 : bt t 0 ≠ 43) (hv : v = if bt t 0 = 45 then ⟨#[45, 73, 110, 102]⟩ else ⟨#[43, 73, 110, 102]⟩) : Calls Tryz.prog 27 [.agg (nodeC 6 ty v t t ⟨#[]⟩ fl false false 1 c c 0 0 ka kn kc).toArray, ptr tk].toArray w (Ret1 (fun g : Nat => .sc (.va (.iface 136 (ptr g)))) (fun _ => True) (fun g => Ast0A tk (.mk 6 ty v t fl c []) (.iface 136 (ptr g))) w) := by
 refine calls_start 1000 Tryz.func27 rfl fun E hX hP hA hQ => ?_
 repeat' first
  | refine zB ?_ | apply zI <;> intro hdec | with_reducible constructor
  | (refine WO_LS 850 (LS_call2 (α := Nat × Nat × Nat) (f := 53) (fun x : Nat × Nat × Nat => .sc (.va (ptr x.1))) (fun x : Nat × Nat × Nat => (bt t 0 ≠ 45 /\ x.2.2 = 9218868437227405312) \/ (bt t 0 = 45 /\ x.2.2 = 18442240474082181120)) (fun x : Nat × Nat × Nat => Blk x.1 138 [ptr x.2.1, ptr tk, .float .f64 x.2.2]) (fun x : Nat × Nat × Nat => Blk x.2.1 230 baseC) hP ?_ ?_ ?_ ?_ ?_) ?_
     rfl; exact zq1; exact zq9; exact zq0
     · (intro a w r own hSim; rw [hX] at hSim; simp only [go_sem]; have htk2 := hSim.keep htk; with_reducible exact c53 _ tk ty t p htk2 hW h43)
     rintro ⟨gs, gb, f1⟩ hf1 E2 h1 h2 h3; refine zy ?_; intro hX hP hA hQ)
  | refine zs6 ?_
 all_goals try first
  | omega
  | (intro a w' r own hs'
     rw [hA] at hs'; have b1 := hs'.bk (j := 1) (g := gs) (by simp; rfl); have b2 := hs'.bk (j := 2) (g := gb) (t := 230) (cs := baseC) zp; exact ret1_finU hs' [1, 2] gs trivial (fun r => .inr rfl) ⟨gs, gb, [], _, rfl, ⟨1, zp, b1.1⟩, ⟨2, zp, b2.1⟩, b2.2, b1.2, (.inf f1 (by rcases hf1 with ⟨h, e⟩ | ⟨h, e⟩ <;> first | exact .inl ⟨(show v = _ by rw [hv, if_neg h]), e⟩ | exact .inr ⟨(show v = _ by rw [hv, if_pos h]), e⟩)), rfl⟩)
theorem c27_8 (w : World) (F : Nat -> Prop) (hG : Gl w F) (ty : Int) (v t : ByteArray) (fl : Bool) (c : Int) (ka : Option Addr) (l0 : List N) (kc : Nat) (tk p : Nat) (htk : Hp w tk 87 (tokC ty t p)) (hc1 : 1 <= c) (hc2 : c <= 200) : Calls Tryz.prog 27 [.agg (nodeC 8 ty v t t ⟨#[]⟩ fl false false 1 c c 0 0 ka l0.length kc).toArray, ptr tk].toArray w (Ret1 (fun g : Nat => .sc (.va (.iface 128 (ptr g)))) (fun _ => True) (fun g => AstA (.mk 8 ty v t fl c []) (.iface 128 (ptr g))) w) := by
 refine calls_start 1000 Tryz.func27 rfl fun E hX hP hA hQ => ?_
 repeat' first
  | refine zB ?_ | apply zI <;> intro hdec | with_reducible constructor
  | (refine WO_LS 850 (LS_call1 (α := Nat) (f := 55) (fun g : Nat => .sc (.va (ptr g))) (fun _ => True) (fun g => AstA (.mk 8 ty v t fl c []) (.iface 128 (ptr g))) hP ?_ ?_ ?_ ?_ ?_) ?_
     rfl; exact zq1; exact zq9; exact zq0
     · (intro a w r own hSim; rw [hX] at hSim; simp only [go_sem]; exact c55 _ (.mk 8 ty v t fl c l0) ka kc c rfl hc1 hc2)
     rintro gs _ E2 h1 h2 h3; refine zz ?_; intro hX hP hA hQ)
  | refine zs6 ?_
 all_goals try first
  | omega | exact zr74
abbrev bldR (n : N) (w : World) : Ending -> World -> Prop := Ret1 (fun g : Nat => .sc (.va (.iface (kpT n.k) (ptr g)))) (fun _ => True) (fun g => AstA n (.iface (kpT n.k) (ptr g))) w
def BuildC (n : N) : Prop := ∀ (w : World) (FG : Nat -> Prop), Gl w FG -> ∀ (F : Nat -> Prop) (ka : Option Addr) (kc : Nat), GS w 31 19 F (.slice ka n.kids.length kc) (N.gs n.kids) -> (∀ k, F k -> k < w.heap.size) -> Calls Tryz.prog 16 [.agg (n.cells ka kc).toArray].toArray w (bldR n w)
def Ast1A (tk : Nat) (n : N) (x : Value) : Asn := ⟨fun w F => AT w F n x \/ AT0 w F tk n x, fun hw h => h.imp (AT.ext (fun _ h => h) hw) (AT0.ext (fun _ h => h) hw)⟩
abbrev barR (n : N) (tk : Nat) (w : World) : Ending -> World -> Prop := Ret1 (fun g : Nat => .sc (.va (.iface (kpT n.k) (ptr g)))) (fun _ => True) (fun g => Ast1A tk n (.iface (kpT n.k) (ptr g))) w
def BareC (n : N) : Prop := ∀ (w : World) (FG : Nat -> Prop), Gl w FG -> ∀ (F : Nat -> Prop) (ka : Option Addr) (kc : Nat), GS w 31 19 F (.slice ka n.kids.length kc) (N.gs n.kids) -> (∀ k, F k -> k < w.heap.size) -> ∀ tk p, Hp w tk 87 (tokC n.ty n.t p) -> Calls Tryz.prog 27 [.agg (n.cells ka kc).toArray, ptr tk].toArray w (barR n tk w)
theorem bare0 {n : N} {T : Nat} {tk : Nat} {w : World} {e : Ending} {w' : World} (hT : kpT n.k = T) (h : Ret1 (fun g : Nat => .sc (.va (.iface T (ptr g)))) (fun _ => True) (fun g => Ast0A tk n (.iface T (ptr g))) w e w') : barR n tk w e w' := by
 subst hT; obtain ⟨x, h1, h2, h3, F, hF, hB⟩ := h; exact ⟨x, h1, h2, h3, F, hF, .inr hB⟩
theorem bare1 {n : N} {T : Nat} {tk : Nat} {w : World} {e : Ending} {w' : World} (hT : kpT n.k = T) (h : Ret1 (fun g : Nat => .sc (.va (.iface T (ptr g)))) (fun _ => True) (fun g => AstA n (.iface T (ptr g))) w e w') : barR n tk w e w' := by
 subst hT; obtain ⟨x, h1, h2, h3, F, hF, hB⟩ := h; exact ⟨x, h1, h2, h3, F, hF, .inl hB⟩
theorem AT1.at {w : World} {F : Nat -> Prop} {tk p : Nat} {n : N} {x : Value} (h : AT w F n x \/ AT0 w F tk n x) (h1 : F tk) (h2 : F p) (h3 : Hp w tk 87 (tokC n.ty n.t p)) (h4 : Hp w p 172 (posC n.c)) : AT w F n x :=
 h.elim id fun h => h.at h1 h2 h3 h4
theorem Ast1A_wk {tk : Nat} {n : N} {x : Value} {w : World} {F F' : Nat -> Prop} (h : (Ast1A tk n x).P w F) (hF : ∀ k, F k -> F' k) : AT w F' n x \/ AT0 w F' tk n x :=
 h.imp (AT.ext hF fun _ _ => rfl) (AT0.ext hF fun _ _ => rfl)
theorem GS.of0s {P : Program} {w0 : World} {F : Nat -> Prop} {rt : List (Nat × Nat)} {S : St} {A : Facts} {a : Act} {w : World} {r : Nat -> Nat} {own : Nat -> Option Ent} {e size : Nat} {v : Value} {l : List G} (h : GS w0 e size F v l)
 (hs : Sim ⟨P, w0, fun _ => False, [], rt⟩ S A a w r own) (hfm : ∀ k, F k -> k < w0.heap.size) : GS w e size F v l :=
 h.ext (fun _ h => h) fun k hk => hs.frm.block k (hfm k hk) (fun h => h)
theorem c16 (n : N) (hb : BareC n) (hc1 : 1 <= n.c) (hc2 : n.c <= 200) : BuildC n := by
 obtain ⟨k, ty, v, t, fl, c, kids⟩ := n; replace hc1 : 1 <= c := hc1; replace hc2 : c <= 200 := hc2; intro w FG hG F ka kc hg hF
 refine calls_start 1000 Tryz.func16 rfl fun E hX hP hA hQ => ?_
 repeat' first
  | refine zA ?_ | apply zI <;> intro hdec | with_reducible constructor
  | (refine WO_LS 850 (LS_call1 (α := Nat) (f := 26) (fun g : Nat => .sc (.va (.pointer (some ⟨g, 0, none⟩)))) (fun _ => True) (posA c) hP ?_ ?_ ?_ ?_ ?_) ?_
     rfl; exact zq1; exact zq9; exact zq0
     · (intro a w r own hSim; rw [hX] at hSim; simp only [go_sem]; with_reducible exact c26 _ c hc1 hc2)
     rintro gp _ E2 h1 h2 h3; refine zz ?_; intro hX hP hA hQ)
  | (with_reducible show WO _ _ _ _ _ _
     apply WO_conc 1 87 (tokC ty t gp) rfl
     intro tk E2 h1 h2 h3; simp only [go_sem, ↓reduceIte, Nat.reduceAdd, Nat.zero_add, Nat.reduceEqDiff]; refine zz ?_; intro hX hP hA hQ)
  | (refine WO_LS 850 (LS_call1 (α := Nat) (f := 27) (fun g : Nat => .sc (.va (.iface (kpT k) (ptr g)))) (fun _ => True) (fun g => Ast1A tk (.mk k ty v t fl c kids) (.iface (kpT k) (ptr g))) hP ?_ ?_ ?_ ?_ ?_) ?_
     rfl; exact zq1; exact zq9; exact zq0
     · (intro a w r own hSim; rw [hX] at hSim; simp only [go_sem]; have hGs := (hG.of hSim (fun k hk h => h)); have hc := hb _ FG hGs F ka kc (hg.of0s hSim hF) (fun k hk => Nat.lt_of_lt_of_le (hF k hk) hSim.frm.size) tk gp (blkHp (hSim.fact 1 _ zw0).2); simp only [N.cells, nodeC, barR, N.k, N.ty, N.v, N.t, N.fl, N.c, N.kids] at hc; with_reducible exact hc)
     rintro gs _ E2 h1 h2 h3; refine zz ?_; intro hX hP hA hQ)
  | (refine zcS 28 (.sc (.va (.pointer none))) ?_ ?_; exact zq60)
  | simp (maxSteps := 20000000) only [Tryz.f16, go_sem, zL, ↓reduceIte, reduceCtorEq, Nat.reduceAdd, Nat.reduceMul, Nat.reduceSub, Nat.reduceLeDiff, Nat.reduceEqDiff, Nat.reduceLT, Nat.reduceBEq, Int.reduceEq, hP, hX, Option.isNone_none, N.cells, nodeC, N.k, N.ty, N.v, N.t, N.fl, N.c, N.kids]
 all_goals try first
  | omega
  | (intro a w' r own hs'
     rw [hA] at hs'; have b3 := hs'.bk (j := 1) (g := tk) (t := 87) (cs := tokC ty t gp) zp; have b4 := hs'.bk (j := 0) (g := gp) (t := 172) (cs := posC c) (by simp [posA]); have b5 := (hs'.fact 2 (Ast1A tk (.mk k ty v t fl c kids) (.iface (kpT k) (ptr gs))) zp).2
     refine ret1_finU hs' [0, 1, 2] gs trivial (fun r => .inr rfl) ?_
     exact AT1.at (tk := tk) (p := gp) (Ast1A_wk b5 fun _ h => ⟨2, zp, h⟩) ⟨1, zp, b3.1⟩ ⟨0, zp, b4.1⟩ b3.2 b4.2)
end
section
attribute [local irreducible] leT leH WO WX WC WD
theorem c124n (w : World) (F0 : Nat -> Prop) (a : Option Addr) (n q : Nat) (hrow : (RbA (.slice a n q) n).P w F0) (hF0 : ∀ k, F0 k -> k < w.heap.size) (hn0 : n <= 100) (neg : Bool) (g tb : Nat) (hB : (BuA g tb 32).P w (fun k => k = g)) (hgF : ¬ F0 g) (dp nd : Int) (hd1 : -400 <= dp) (hd2 : dp <= 420) (hnd0 : 0 <= nd) (hnd : nd <= 20) :
 Calls Tryz.prog 124 [.slice a n q, .bool neg, .slice (some ⟨g, 0, none⟩) 32 32, .int .i64 dp, .int .i64 nd, .int .i64 nd, .int .u8 103, .bool true].toArray w (RetJ (fun z : Option Addr × Nat × Nat => .sc (.va (.slice z.1 z.2.1 z.2.2))) (fun _ => True) (fun z => RbA (.slice z.1 z.2.1 z.2.2) z.2.1) F0 w) := by
 obtain ⟨fb, hfb⟩ := hB; have hcell : ∀ i, i < 32 -> w.cell? ⟨g, i, none⟩ = some (.int .u8 (fb i)) := fun i hi => FnA.cell hfb hi
 by_cases hx : dp - 1 < -4 \/ 6 <= dp - 1
 exact c124e w F0 a n q hrow hF0 hn0 neg g fb hcell hgF dp nd hd1 hd2 hnd0 hnd hx; exact c124f w F0 a n q hrow hF0 hn0 neg g fb hcell hgF dp nd hd1 hd2 hnd0 hnd zo zo
section
variable {E : En} {S : St} {α : Type} {c : Call} {dst : Option Tmp} {ty : TypeId} {pos : String} {after : Array Edge} {guard : Option (Nat × Bool)} {P : Program}
theorem LS_callR {f : FuncId} (J : List Nat) (res : α -> SV) (φ : α -> Prop) (B : α -> Asn) (hP : E.X.P = P) (hc : c.callee = .value (.func f)) (hf : callable P f = true) (hl : ∀ x, (res x).lt 0)
 (hk : (c.args.toList.all fun x => (ev S x).known) = true)
 (hcall : ∀ a w r own, Sim E.X S E.A a w r own -> Calls P f ((c.args.toList.map fun x => (ev S x).den r).toArray) w (RetJ res φ B (fun k => ∃ j ∈ J, own k = some (.fa j)) w)) :
 LS E S ⟨dst, .call c, ty, pos, after, guard⟩ [] φ (fun x => S.putM dst (res x)) (fun x => (S.m, B x) :: outF J E.A) := LS_callJ J res φ B hP hc hf hl hk hcall
theorem WS_asl0 {g : Rg} {k : Kt} {t : TypeId} {x : Operand} {i : Nat} {lv : Option (List Nat)} {s : Sch} (n0 : Nat) (ad : Addr) (n kk : Nat) (hT : arT E.X.P t = some (n, kk)) (hQ : QP E.Q) (ho : nthO g.ops i = some ⟨dst, .slice t x none none none, ty, pos, after, guard⟩) (hx : ev (S.live g.n0 lv) x = .sc (.va (.pointer (some ad))))
 (h : vd E n0 g k s (S.put dst (.sc (.va (.slice (some ad) n n))))) : WS E g k (.take i lv s) S := by
 refine WS_take (sv := .sc (.va (.slice (some ad) n n))) hQ ho (fun a w r hr hf => ?_) rfl (vd_ok hQ n0 s _ h)
 have hp := va_of (hx ▸ (ev_ok hr x).1); obtain ⟨e, inf, hu, he, rfl⟩ := arT_spec hT; have hb := sliceBounds_run (P := E.X.P) (len := n) (cap := n) (lo := none) (hi := none) (w := w) hr (b := false) rfl rfl (Int.le_refl _) (by simp [lowOf, highOf]) (by simp [highOf]); simp only [Option.map_none, lowOf, highOf] at hb
 refine ⟨.slice (some ad) n n, ok_va r _, trivial, ?_⟩
 simp [execOp, hp, Instr.sliceAt, run_underlying hu, Instr.sureAddr, hb, sizeOf, typeInfo, he, Addr.add]
end
section
variable {E : En} {S : St} {dst : Option Tmp} {ty : TypeId} {pos : String} {after : Array Edge} {guard : Option (Nat × Bool)} {P : Program}
theorem LS_convW {s d : TypeId} {ds : TypeDesc} {x : Operand} (k k' : IntKind) (hP : E.X.P = P) (hs : P.underlying s = some ds) (hd : P.underlying d = some (.int k)) (hx0 : isI k' (ev S x) = true) :
 LS E S ⟨dst, .convert s d x, ty, pos, after, guard⟩ [] (fun _ : Unit => True) (fun _ => S.put dst (.sc (.va (.int k (k.wrap (intOf (ev S x))))))) (fun _ => E.A) := by
 have hx := isI_of hx0
 generalize intOf (ev S x) = n at hx
 refine LS_any (o := ⟨dst, .convert s d x, ty, pos, after, guard⟩) (fun _ : Unit => Value.int k (k.wrap n)) (fun _ => True) fun a w r own hs' => ⟨(), trivial, w, .inl rfl, ?_⟩
 subst hP; have e1 := va_of (hx ▸ (ev_ok hs'.toR x).1)
 simp [execOp, e1, convert, run_underlying hs, run_underlying hd, Conv.intToInt]
end
section
attribute [local irreducible] LS WS WQ
def sch88_14b : Sch := tkN [0, 1, 2, 4, 5, 6] <| .one 3 <| tkN [7, 8] <| .done
attribute [go_sem] sch88_14b
theorem dneg1 : decide ((-1 : Int) < 0) = true := rfl
theorem c125b (x : Int) (h0 : 0 < x) (h1 : x < 9007199254740992) (w : World) : Calls Tryz.prog 125 [.int .u64 x].toArray w (RI 1 53 w) :=
 (c125 x (by unfold U64; omega) w).mono fun e w' h => by
   obtain ⟨n, ⟨h2, h3, m, rfl, h4, h5⟩, h6, h7⟩ := h
   refine ⟨m, ⟨?_, ?_⟩, h6, h7⟩
   · rcases Nat.eq_zero_or_pos m with rfl | h
     · simp at h4; omega
     · omega
   · rcases Nat.lt_or_ge 53 m with h | h
     · exfalso
       have h8 := h5 zo
       have : m = 54 \/ m = 55 \/ m = 56 \/ m = 57 \/ m = 58 \/ m = 59 \/ m = 60 \/ m = 61 \/ m = 62 \/ m = 63 \/ m = 64 := by omega
       rcases this with rfl | rfl | rfl | rfl | rfl | rfl | rfl | rfl | rfl | rfl | rfl <;> simp at h8 <;> omega
     · omega
theorem rbOf {v : Value} {n : Nat} {z : ByteArray} {w : World} {F : Nat -> Prop} (h : (Row 5 1 v n (Lib.strCells z)).P w F) : (RbA v n).P w F := ⟨_, h, strCells_u8 z⟩
theorem e2048 : IntKind.i64.wrap (1 * 2 ^ min (Int.toNat 11) 64) = 2048 := by decide
theorem or53 (x : Int) (h0 : 0 <= x) (h1 : x <= 4503599627370495) : 0 <= IntKind.u64.wrap (BitVec.ofInt 64 x ||| BitVec.ofInt 64 4503599627370496).toNat /\ IntKind.u64.wrap (BitVec.ofInt 64 x ||| BitVec.ofInt 64 4503599627370496).toNat < 9007199254740992 := by
 have h2 : (BitVec.ofInt 64 x).toNat < 2 ^ 53 := by rw [BitVec.toNat_ofInt]; omega
 have h3 : (BitVec.ofInt 64 4503599627370496).toNat < 2 ^ 53 := by decide
 have h4 := Nat.or_lt_two_pow h2 h3; rw [BitVec.toNat_or, wrapU64 (by unfold U64; omega)]; omega
theorem el261 : elT Tryz.prog 261 = none := zk
attribute [go_sem] el261
theorem ar261 : arT Tryz.prog 261 = some (32, 1) := zk
theorem buA_z {w : World} {g : Nat} (h : Hp w g 261 (List.replicate 32 (.int .u8 0))) : (BuA g 261 32).P w (fun k => k = g) :=
 ⟨fun _ => 0, fun _ => Iff.rfl, _, h, by rw [List.length_replicate], fun i hi => by rw [List.getElem?_replicate, if_pos hi]⟩
theorem c88 (w : World) (FG : Nat -> Prop) (hG : Gy w FG) (A0 : Addr) (F0 : Nat -> Prop) (hrow : (Row 5 1 (.slice (some A0) 0 24) 0 []).P w F0) (hF0 : ∀ k, F0 k -> k < w.heap.size) (hFG : ∀ k, FG k -> ¬ F0 k) (x : Nat) : Calls Tryz.prog 88 [.slice (some A0) 0 24, .float .f64 x, .int .u8 103, .int .i64 (-1)].toArray w (RetJ (fun z : Option Addr × Nat × Nat => .sc (.va (.slice z.1 z.2.1 z.2.2))) (fun _ => True) (fun z => RbA (.slice z.1 z.2.1 z.2.2) z.2.1) F0 w) := by
 obtain ⟨ex, hex, hx0, hx1⟩ : ∃ ex : Int, IntKind.i64.wrap (BitVec.ofInt IntKind.i64.bits (IntKind.i64.wrap ((x : Int) / 4503599627370496)) &&& BitVec.ofInt IntKind.i64.bits (2048 - 1)).toNat = ex /\ 0 <= ex /\ ex <= 2047 := ⟨_, rfl, (and64i _ _ 2047 zi zi).1, (and64i _ _ 2047 zi zi).2⟩
 obtain ⟨mt, hmt, hm0, hm1⟩ : ∃ mt : Int, IntKind.u64.wrap (BitVec.ofInt IntKind.u64.bits (x : Int) &&& BitVec.ofInt IntKind.u64.bits (IntKind.u64.wrap (IntKind.u64.wrap (1 * 4503599627370496) - 1))).toNat = mt /\ 0 <= mt /\ mt <= 4503599627370495 := ⟨_, rfl, (and64u _ _ 4503599627370495 zi zi).1, (and64u _ _ 4503599627370495 zi zi).2⟩
 obtain ⟨mo, hor, ho0, ho1⟩ : ∃ mo : Int, IntKind.u64.wrap (BitVec.ofInt IntKind.u64.bits mt ||| BitVec.ofInt IntKind.u64.bits (IntKind.u64.wrap (1 * 4503599627370496))).toNat = mo /\ 0 <= mo /\ mo < 9007199254740992 := ⟨_, rfl, or53 mt hm0 hm1⟩
 simp only [go_sem] at hex hmt hor
 refine calls_startJ 1000 [.sc (.va (.slice (some A0) 0 24)), .sc (.va (.float .f64 x)), .sc (.va (.int .u8 103)), .sc (.va (.int .i64 (-1)))] (Row 5 1 (.slice (some A0) 0 24) 0 []) F0 Tryz.func88 rfl ⟨⟨rfl, rfl⟩, ⟨rfl, rfl⟩, ⟨rfl, rfl⟩, ⟨rfl, rfl⟩, trivial⟩ hrow hF0 fun E hX hP hA hQ => ?_
 repeat' first
  | refine zB ?_ | apply zI <;> intro hdec | with_reducible constructor
  | refine zu 14 sch88_14b [] ?_
  | (refine zr67 ?_; intro _ _ E2 h1 h2 h3; obtain rfl := En_eq _ _ h1 h2 h3; simp only [go_sem, e2048]) | (refine WO_LE 850 (LS_tobits (f := 121) hP rfl ?_ (fun n w => ext121 n w)) ?_; exact zq0; intro _ _) | (refine WO_LS 850 (LS_appendS (e := 5) (u := 9) 0 (.slice (some A0) 0 24) 0 [] ⟨#[78, 97, 78]⟩ hP rfl ?_ ?_ ?_ ?_ zi zi) ?_; exact zq1; exact zq0; exact zq0; exact zq13; rintro _ ⟨a', q', rfl⟩ E2 h1 h2 h3; simp only [Nat.zero_add, List.nil_append] at h2 ⊢; refine zz ?_; intro hX hP hA hQ) | (refine zr97 ?_; rintro _ ⟨a', q', rfl⟩ E2 h1 h2 h3; simp only [Nat.zero_add, List.nil_append] at h2 ⊢; refine zz ?_; intro hX hP hA hQ) | (refine zr98 ?_; rintro _ ⟨a', q', rfl⟩ E2 h1 h2 h3; simp only [Nat.zero_add, List.nil_append] at h2 ⊢; refine zz ?_; intro hX hP hA hQ)
  | (refine WO_LS 850 (LS_callR (α := Option Addr × Nat × Nat) (f := 124) [0] (fun z => .sc (.va (.slice z.1 z.2.1 z.2.2))) (fun _ => True) (fun z => RbA (.slice z.1 z.2.1 z.2.2) z.2.1) hP ?_ ?_ ?_ ?_ ?_) ?_
     rfl; exact zq1; exact zq9; exact zq0
     · (intro a w r own hSim; simp only [go_sem]; have hrb : (RbA (.slice (some A0) 0 24) 0).P w (fun k => ∃ j ∈ [0], own k = some (.fa j)) := ⟨[], Row.pred (hSim.fact 0 _ zw0).2 (fun k => by simp), fun u hu => by cases hu⟩; with_reducible exact c124z _ _ _ _ _ hrb (fun k hk => by obtain ⟨j, _, hj⟩ := hk; exact (hSim.bnd k _ hj).1) zo _)
     rintro ⟨a', n', q'⟩ _ E2 h1 h2 h3; refine zz ?_; intro hX hP hA hQ)
  | (refine WO_LS 850 (LS_callR (α := Option Addr × Nat × Nat) (f := 124) [0] (fun z => .sc (.va (.slice z.1 z.2.1 z.2.2))) (fun _ => True) (fun z => RbA (.slice z.1 z.2.1 z.2.2) z.2.1) hP ?_ ?_ ?_ ?_ ?_) ?_
     rfl; exact zq1; exact zq9; exact zq0
     · (intro a w r own hSim; simp only [go_sem]; have hrb : (RbA (.slice (some A0) 0 24) 0).P w (fun k => ∃ j ∈ [0], own k = some (.fa j)) := ⟨[], Row.pred (hSim.fact 0 _ zw1).2 (fun k => by simp), fun u hu => by cases hu⟩; have hbu := BuA.mem (hSim.fact 2 (BuA g 261 32) zw0).2; have hgn : ¬ (∃ j ∈ [0], own g = some (.fa j)) := (fun ⟨j, hj, hj2⟩ => by have h9 := (BuA.own hSim (j := 2) zw0 g).2 rfl; rw [hj2] at h9; simp at h9 hj; omega); with_reducible exact c124n _ _ _ _ _ hrb (fun k hk => by obtain ⟨j, _, hj⟩ := hk; exact (hSim.bnd k _ hj).1) zo _ g 261 hbu hgn dp nz hz1 hz2 hz3 hz4)
     rintro ⟨a', n', q'⟩ _ E2 h1 h2 h3; refine zz ?_; intro hX hP hA hQ)
  | (refine zc0 (α := Int) 125 (fun x : Int => .sc (.va (.int .i64 x))) (fun n => 1 <= n /\ n <= 53) ?_ ?_
     · (intro a w r own hSim; simp only [go_sem]; with_reducible exact c125b _ zo zo _)
     intro b ⟨hb0, hb1⟩)
  | (apply WO_call0 (α := Int × Int) (f := 133) 900 (fun x => .tu [.sc (.va (.int .u64 x.1)), .sc (.va (.int .i64 x.2))]) (fun x => U64 x.1 /\ -400 <= x.2 /\ x.2 <= 400) hP
     rfl; exact zq1; exact zq35; exact zq0
     · (intro a w r own hSim; simp only [go_sem]; have hGs := (hG.of (by rw [hX] at hSim; exact hSim) (fun k hk h => hFG k hk h)).gl; with_reducible exact c133 _ FG hGs _ _ (wrapU64_rng _) zo zo)
     intro ⟨d, p⟩ ⟨hdU, hp1, hp2⟩)
  | (with_reducible show WC _ (.region 38 _ true) _ _
     apply WC_conc 0 261 [.int .u8 0, .int .u8 0, .int .u8 0, .int .u8 0, .int .u8 0, .int .u8 0, .int .u8 0, .int .u8 0, .int .u8 0, .int .u8 0, .int .u8 0, .int .u8 0, .int .u8 0, .int .u8 0, .int .u8 0, .int .u8 0, .int .u8 0, .int .u8 0, .int .u8 0, .int .u8 0, .int .u8 0, .int .u8 0, .int .u8 0, .int .u8 0, .int .u8 0, .int .u8 0, .int .u8 0, .int .u8 0, .int .u8 0, .int .u8 0, .int .u8 0, .int .u8 0] rfl
     intro g E2 h1 h2 h3; simp only [go_sem, ↓reduceIte, Nat.reduceAdd, Nat.zero_add, Nat.reduceEqDiff]; refine zz ?_; intro hX hP hA hQ
     apply WC_drawn 900 sch88_38 [] [] hP
     exact zq1; exact zq2; exact zq1)
  | (refine WS_asl0 850 ⟨g, 0, none⟩ 32 1 (by rw [hP]; exact ar261) ?_ rfl ?_ ?_; exact zq2; exact zq0)
  | (refine WD_LS 850 ?_ (LS_call0 (α := Int) (f := 90) (fun x : Int => .sc (.va (.int .i64 x))) (fun x => 0 <= x /\ x <= 20) hP ?_ ?_ ?_ ?_ ?_) ?_ ?_
     exact zq2; rfl; exact zq1; exact zq9; exact zq0
     · (intro a w r own hSim; simp only [go_sem]; have hGs := hG.of (by rw [hX] at hSim; exact hSim) (fun k hk h => hFG k hk h); with_reducible exact c90u _ FG hGs d hdU)
     exact zq16; intro nd ⟨hn0, hn1⟩ E2 h1 h2 h3; obtain rfl := En_eq _ _ h1 h2 h3)
  | (refine WD_LS 850 ?_ (LS_callB (α := Int × Int) (f := 127) g 261 [.int .u8 0, .int .u8 0, .int .u8 0, .int .u8 0, .int .u8 0, .int .u8 0, .int .u8 0, .int .u8 0, .int .u8 0, .int .u8 0, .int .u8 0, .int .u8 0, .int .u8 0, .int .u8 0, .int .u8 0, .int .u8 0, .int .u8 0, .int .u8 0, .int .u8 0, .int .u8 0, .int .u8 0, .int .u8 0, .int .u8 0, .int .u8 0, .int .u8 0, .int .u8 0, .int .u8 0, .int .u8 0, .int .u8 0, .int .u8 0, .int .u8 0, .int .u8 0] 1 (fun x => .tu [.sc (.va (.int .i64 x.1)), .sc (.va (.int .i64 x.2))]) (fun x => -400 <= x.1 /\ x.1 <= 420 /\ 0 <= x.2 /\ x.2 <= 20) (fun _ => BuA g 261 32) hP ?_ ?_ ?_ ?_ ?_ ?_) ?_ ?_
     exact zq2; rfl; exact zq1; exact zq35; exact zq0; exact zq13
     · (intro a w r own hSim hb; simp only [go_sem]; have hb' := buA_z hb; with_reducible exact c127 _ g 261 hb' d p nd hdU hn0 hn1 hp1 hp2)
     exact zq16; rintro ⟨dp, nz⟩ ⟨hz1, hz2, hz3, hz4⟩ E2 h1 h2 h3; dsimp only at hz1 hz2 hz3 hz4; refine zz ?_; intro hX hP hA hQ)
  | (refine WO_LE 850 (LS_asl 32 1 hP ar261 ?_ ?_ ?_ ?_ ?_ ?_) ?_
     exact zq0; exact zq0; exact zq0
     rotate_left 3
     intro _ _; simp only [go_sem, cutA00, Int.toNat_natCast, Int.toNat_zero, Nat.sub_zero])
  | simp (maxSteps := 20000000) only [Tryz.f88, go_sem, zL, ↓reduceIte, reduceCtorEq, Nat.reduceAdd, Nat.reduceMul, Nat.reduceSub, Nat.reduceLeDiff, Nat.reduceEqDiff, Nat.reduceLT, Nat.reduceBEq, Int.reduceEq, hP, hX, addr_add, Nat.mul_one, Nat.zero_add, Nat.add_zero, Int.toNat_natCast, Int.toNat_zero, e2048, dneg1, hex, hmt, hor]
 all_goals try first
  | exact zr1 | (with_reducible show (_ : Int) <= _; omega)
  | (intro a w' r own hs'
     rw [hA] at hs'; exact retJ_fin hs' (a', n', q') trivial (fun r => .inr rfl) zm)
  | (intro a w' r own hs'
     rw [hA] at hs'
     exact retJ_fin (hs'.fw (A' := [(1, RbA (.slice a' _ q') _)]) (fun l C hl => by
      simp only [List.mem_cons, Prod.mk.injEq, List.not_mem_nil, or_false] at hl; obtain ⟨rfl, rfl⟩ := hl
      exact ⟨_, List.mem_cons_self .., fun F h => rbOf h⟩)) (a', _, q') trivial (fun r => .inr rfl) zm)
end
