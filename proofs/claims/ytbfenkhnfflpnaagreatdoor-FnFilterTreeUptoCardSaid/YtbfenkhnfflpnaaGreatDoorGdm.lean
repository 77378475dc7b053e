/- Lemmas for FnFilterTree; each condition stands in its statement. -/
import Derived.Test.YtbfenkhnfflpnaaGreatDoorGdl
namespace Go.Proofs.YtbfenkhnfflpnaaGreatDoor.Sx
open Go Go.RowKit
set_option maxRecDepth 100000
set_option maxHeartbeats 40000000
set_option linter.all false
section
attribute [local irreducible] leT leH WO WX WC WD LS WS WQ
theorem tuAS {r : Nat -> Nat} (l : List Value) (v : Value) : (SV.tu [.ag (l.map .va), .sc (.va v)]).ok r (.tuple #[.agg l.toArray, v]) :=
 ⟨[.agg l.toArray, v], rfl, rfl, fun i t ht => by
  match i, ht with
  | 0, ht => obtain rfl : TV.ag (l.map .va) = t := by simpa using ht
             exact ⟨l, rfl, CL_va l⟩
  | 1, ht => obtain rfl : TV.sc (.va v) = t := by simpa using ht
             exact .inr rfl
  | i + 2, ht => simp at ht⟩
theorem tuASlt (l : List Value) (v : Value) (b : Nat) : (SV.tu [.ag (l.map .va), .sc (.va v)]).lt b := fun t ht => by
 simp only [List.mem_cons, List.not_mem_nil, or_false] at ht
 rcases ht with rfl | rfl
 exact ltL_va _ _; exact True.intro
theorem c71n (w : World) (ys : List Value) (g t cp : Nat) (hg : w.heap[g]? = some (.cells ys.toArray t (0, 0))) (hy : ∀ u ∈ ys, ∃ T p, u = .iface T p) (hlen : ys.length <= 1000) :
 Calls Tryz.prog 71 [.slice (some ⟨g, 0, none⟩) ys.length cp].toArray w (Ret1 (fun z : Option Addr × Nat => .sc (.va (.slice z.1 ys.length z.2))) (fun _ => True) (fun z => Row 54 1 (.slice z.1 ys.length z.2) ys.length ys) w) :=
 c71 w ys ⟨g, 0, none⟩ cp (fun i u hu => by rw [addr_add, cell_at hg, Nat.zero_add]; exact hu) hy (Array.getElem?_eq_some_iff.1 hg).1 hlen
abbrev FmtT (F : Nat -> Prop) : Prop := ∀ w, Gy w F -> ∀ b : Nat, Calls Tryz.prog 23 [.float .f64 b, .int .u8 103, .int .i64 (-1), .int .i64 64].toArray w (Ret0 (fun z : ByteArray => .sc (.va (.string z))) (fun _ => True) w)
abbrev FmtI (F : Nat -> Prop) (x : Nat) (v : ByteArray) : Prop := ∀ w, Gy w F -> Calls Tryz.prog 23 [.float .f64 x, .int .u8 103, .int .i64 (-1), .int .i64 64].toArray w (RetS (.sc (.va (.string v))) w)
theorem c29_2 (w : World) (gx b tk p : Nat) (ty c : Int) (t : ByteArray)  (hgx : Hp w gx 121 [ptr b, ptr tk]) (hb : Hp w b 230 baseC) (htk : Hp w tk 87 (tokC ty t p)) (hp : Hp w p 172 (posC c))  : Calls Tryz.prog 29 [.iface 118 (ptr gx)].toArray w (RetS (.tu [.ag ((nodeC 2 ty ⟨#[]⟩ t t ⟨#[]⟩ false false false 1 c c 0 0 none 0 0).map .va), .sc (.va (.slice none 0 0))]) w) := by
 refine calls_start 1000 Tryz.func29 rfl fun E hX hP hA hQ => ?_
 repeat' first
  | refine zB ?_ | apply zI <;> intro hdec | with_reducible constructor
  | (refine WO_LE 850 (LS_meth (name := "Type") (f := 259) (.sc (.va (.int .i64 2))) (vaLt _) 118 gx zk zk hP rfl rfl ?_ ?_) ?_
     · exact zq0
     · (intro a w r own hSim; exact cT259 gx w)
     intro _ _)
  | (refine WO_LE 850 (LS_methB (name := "GetPath") (f := 225) (.sc (.va (.string ⟨#[]⟩))) (vaLt _) 118 gx b zk zk hP rfl rfl ?_ ?_ ?_) ?_; exact zq0; exact zq25; exact zq37; intro _ _) | (refine WO_LE 850 (LS_methB (name := "GetComment") (f := 224) (.sc (.va (.pointer none))) (vaLt _) 118 gx b zk zk hP rfl rfl ?_ ?_ ?_) ?_; exact zq0; exact zq25; exact zq38; intro _ _) | (refine zr69 ?_; intro _ _)
  | refine zu 77 sch29_77 [15, 17, 19, 21] ?_
  | refine zr4 ?_ | refine zr5 ?_ | refine zr6 ?_ | refine zr8 ?_ | refine zr2 ?_ | refine zr3 ?_ | refine zs4 ?_
 all_goals try first
  | (intro a w' r own hs'; exact ⟨⟨_, rfl, fun r => tuAS (nodeC 2 ty ⟨#[]⟩ t t ⟨#[]⟩ false false false 1 c c 0 0 none 0 0) _⟩, hs'.frm⟩)
theorem c29_3 (w : World) (gx b tk p : Nat) (ty c : Int) (t : ByteArray) (x1 : Bool) (hgx : Hp w gx 135 [ptr b, ptr tk, .bool x1]) (hb : Hp w b 230 baseC) (htk : Hp w tk 87 (tokC ty t p)) (hp : Hp w p 172 (posC c))  : Calls Tryz.prog 29 [.iface 133 (ptr gx)].toArray w (RetS (.tu [.ag ((nodeC 3 ty ⟨(Lib.formatBool x1).toArray⟩ t t ⟨#[]⟩ false false false 1 c c 0 0 none 0 0).map .va), .sc (.va (.slice none 0 0))]) w) := by
 refine calls_start 1000 Tryz.func29 rfl fun E hX hP hA hQ => ?_
 repeat' first
  | refine zB ?_ | apply zI <;> intro hdec | with_reducible constructor
  | (refine WO_LE 850 (LS_meth (name := "Type") (f := 289) (.sc (.va (.int .i64 3))) (vaLt _) 133 gx zk zk hP rfl rfl ?_ ?_) ?_
     · exact zq0
     · (intro a w r own hSim; exact cT289 gx w)
     intro _ _)
  | (refine WO_LE 850 (LS_methB (name := "GetPath") (f := 225) (.sc (.va (.string ⟨#[]⟩))) (vaLt _) 133 gx b zk zk hP rfl rfl ?_ ?_ ?_) ?_; exact zq0; exact zq25; exact zq37; intro _ _) | (refine WO_LE 850 (LS_methB (name := "GetComment") (f := 224) (.sc (.va (.pointer none))) (vaLt _) 133 gx b zk zk hP rfl rfl ?_ ?_ ?_) ?_; exact zq0; exact zq25; exact zq38; intro _ _)
  | refine zu 14 sch29_14 [11] ?_
  | refine zr22 ?_ | (refine WS_rc 850 (⟨gx, 2, none⟩) ([.bool x1]) false hX ?_ rfl ?_ ?_ ?_ ?_ (fun _ => rfl) ?_; exact zq2; exact zq0; exact zq12; exact zq8; exact sz4)
  | (refine zdS 72 (.sc (.va (.string ⟨(Lib.formatBool x1).toArray⟩))) ?_ ?_
     · (intro a w r own hSim; simp only [go_sem]; with_reducible exact c72 x1 _))
  | refine zu 77 sch29_77 [15, 17, 19, 21] ?_
  | refine zr4 ?_ | refine zr5 ?_ | refine zr6 ?_ | refine zr8 ?_ | refine zr2 ?_ | refine zr3 ?_ | refine zs4 ?_
 all_goals try first
  | (intro a w' r own hs'; exact ⟨⟨_, rfl, fun r => tuAS (nodeC 3 ty ⟨(Lib.formatBool x1).toArray⟩ t t ⟨#[]⟩ false false false 1 c c 0 0 none 0 0) _⟩, hs'.frm⟩)
theorem c29_4 (w : World) (gx b tk p : Nat) (ty c : Int) (t : ByteArray) (FG : Nat -> Prop) (hG : Gy w FG) (x1 : Value) (v : ByteArray) (hx1 : IntV x1 v) (hgx : Hp w gx 124 [ptr b, ptr tk, x1]) (hb : Hp w b 230 baseC) (htk : Hp w tk 87 (tokC ty t p)) (hp : Hp w p 172 (posC c))  : Calls Tryz.prog 29 [.iface 122 (ptr gx)].toArray w (RetS (.tu [.ag ((nodeC 4 ty v t t ⟨#[]⟩ false false false 1 c c 0 0 none 0 0).map .va), .sc (.va (.slice none 0 0))]) w) := by
 refine calls_start 1000 Tryz.func29 rfl fun E hX hP hA hQ => ?_
 repeat' first
  | refine zB ?_ | apply zI <;> intro hdec | with_reducible constructor
  | (refine WO_LE 850 (LS_meth (name := "Type") (f := 265) (.sc (.va (.int .i64 4))) (vaLt _) 122 gx zk zk hP rfl rfl ?_ ?_) ?_
     · exact zq0
     · (intro a w r own hSim; exact cT265 gx w)
     intro _ _)
  | (refine WO_LE 850 (LS_methB (name := "GetPath") (f := 225) (.sc (.va (.string ⟨#[]⟩))) (vaLt _) 122 gx b zk zk hP rfl rfl ?_ ?_ ?_) ?_; exact zq0; exact zq25; exact zq37; intro _ _) | (refine WO_LE 850 (LS_methB (name := "GetComment") (f := 224) (.sc (.va (.pointer none))) (vaLt _) 122 gx b zk zk hP rfl rfl ?_ ?_ ?_) ?_; exact zq0; exact zq25; exact zq38; intro _ _)
  | refine zu 17 sch29_17 [11] ?_
  | refine zr22 ?_ | (refine WS_rc 850 (⟨gx, 2, none⟩) ([x1]) false hX ?_ rfl ?_ ?_ ?_ ?_ (fun _ => rfl) ?_; exact zq2; exact zq0; exact zq12; exact zq8; exact sz20)
  | (refine zdS 73 (.sc (.va (.string v))) ?_ ?_
     · (intro a w r own hSim; simp only [go_sem]; have hGs := hG.of (by rw [hX] at hSim; exact hSim) (fun k hk h => h); with_reducible exact c73 _ FG hGs x1 v hx1))
  | refine zu 77 sch29_77 [15, 17, 19, 21] ?_
  | refine zr4 ?_ | refine zr5 ?_ | refine zr6 ?_ | refine zr8 ?_ | refine zr2 ?_ | refine zr3 ?_ | refine zs4 ?_
 all_goals try first
  | (intro a w' r own hs'; exact ⟨⟨_, rfl, fun r => tuAS (nodeC 4 ty v t t ⟨#[]⟩ false false false 1 c c 0 0 none 0 0) _⟩, hs'.frm⟩)
theorem c29_5 (w : World) (gx b tk p : Nat) (ty c : Int) (t : ByteArray) (FG : Nat -> Prop) (hG : Gy w FG) (x1 : Nat) (hF : FmtT FG) (hgx : Hp w gx 127 [ptr b, ptr tk, .int .i64 0, .float .f64 x1]) (hb : Hp w b 230 baseC) (htk : Hp w tk 87 (tokC ty t p)) (hp : Hp w p 172 (posC c))  : Calls Tryz.prog 29 [.iface 125 (ptr gx)].toArray w (Ret0 (fun v : ByteArray => .tu [.ag ((nodeC 5 ty v t t ⟨#[]⟩ false false false 1 c c 0 0 none 0 0).map .va), .sc (.va (.slice none 0 0))]) (fun _ => True) w) := by
 refine calls_start 1000 Tryz.func29 rfl fun E hX hP hA hQ => ?_
 repeat' first
  | refine zB ?_ | apply zI <;> intro hdec | with_reducible constructor
  | (refine WO_LE 850 (LS_meth (name := "Type") (f := 271) (.sc (.va (.int .i64 5))) (vaLt _) 125 gx zk zk hP rfl rfl ?_ ?_) ?_
     · exact zq0
     · (intro a w r own hSim; exact cT271 gx w)
     intro _ _)
  | (refine WO_LE 850 (LS_methB (name := "GetPath") (f := 225) (.sc (.va (.string ⟨#[]⟩))) (vaLt _) 125 gx b zk zk hP rfl rfl ?_ ?_ ?_) ?_; exact zq0; exact zq25; exact zq37; intro _ _) | (refine WO_LE 850 (LS_methB (name := "GetComment") (f := 224) (.sc (.va (.pointer none))) (vaLt _) 125 gx b zk zk hP rfl rfl ?_ ?_ ?_) ?_; exact zq0; exact zq25; exact zq38; intro _ _)
  | refine zu 20 sch29_20 [11] ?_
  | refine zr22 ?_ | (refine WS_rc 850 (⟨gx, 3, none⟩) ([.float .f64 x1]) false hX ?_ rfl ?_ ?_ ?_ ?_ (fun _ => rfl) ?_; exact zq2; exact zq0; exact zq12; exact zq8; exact sz68)
  | (refine WD_LS 850 ?_ (LS_call0 (α := ByteArray) (f := 23) (fun z => .sc (.va (.string z))) (fun _ => True) hP ?_ ?_ ?_ ?_ ?_) ?_ ?_
     exact zq2; rfl; exact zq1; exact zq9; exact zq0
     · (intro a w r own hSim; simp only [go_sem]; have hGs := hG.of (by rw [hX] at hSim; exact hSim) (fun k hk h => h); with_reducible exact hF _ hGs x1)
     exact zq16; intro v5 _ E2 h1 h2 h3; obtain rfl := En_eq _ _ h1 h2 h3)
  | refine zu 77 sch29_77 [15, 17, 19, 21] ?_
  | refine zr4 ?_ | refine zr5 ?_ | refine zr6 ?_ | refine zr8 ?_ | refine zr2 ?_ | refine zr3 ?_ | refine zs4 ?_
 all_goals try first
  | (intro a w' r own hs'; exact ⟨v5, trivial, ⟨_, rfl, fun r => tuAS (nodeC 5 ty v5 t t ⟨#[]⟩ false false false 1 c c 0 0 none 0 0) _⟩, hs'.frm⟩)
theorem c29_6 (w : World) (gx b tk p : Nat) (ty c : Int) (t : ByteArray) (FG : Nat -> Prop) (hG : Gy w FG) (x1 : Nat) (v : ByteArray) (hF : FmtI FG x1 v) (hgx : Hp w gx 138 [ptr b, ptr tk, .float .f64 x1]) (hb : Hp w b 230 baseC) (htk : Hp w tk 87 (tokC ty t p)) (hp : Hp w p 172 (posC c))  : Calls Tryz.prog 29 [.iface 136 (ptr gx)].toArray w (RetS (.tu [.ag ((nodeC 6 ty v t t ⟨#[]⟩ false false false 1 c c 0 0 none 0 0).map .va), .sc (.va (.slice none 0 0))]) w) := by
 refine calls_start 1000 Tryz.func29 rfl fun E hX hP hA hQ => ?_
 repeat' first
  | refine zB ?_ | apply zI <;> intro hdec | with_reducible constructor
  | (refine WO_LE 850 (LS_meth (name := "Type") (f := 295) (.sc (.va (.int .i64 6))) (vaLt _) 136 gx zk zk hP rfl rfl ?_ ?_) ?_
     · exact zq0
     · (intro a w r own hSim; exact cT295 gx w)
     intro _ _)
  | (refine WO_LE 850 (LS_methB (name := "GetPath") (f := 225) (.sc (.va (.string ⟨#[]⟩))) (vaLt _) 136 gx b zk zk hP rfl rfl ?_ ?_ ?_) ?_; exact zq0; exact zq25; exact zq37; intro _ _) | (refine WO_LE 850 (LS_methB (name := "GetComment") (f := 224) (.sc (.va (.pointer none))) (vaLt _) 136 gx b zk zk hP rfl rfl ?_ ?_ ?_) ?_; exact zq0; exact zq25; exact zq38; intro _ _)
  | refine zu 23 sch29_23 [11] ?_
  | refine zr22 ?_ | (refine WS_rc 850 (⟨gx, 2, none⟩) ([.float .f64 x1]) false hX ?_ rfl ?_ ?_ ?_ ?_ (fun _ => rfl) ?_; exact zq2; exact zq0; exact zq12; exact zq8; exact sz68)
  | (refine zdS 23 (.sc (.va (.string v))) ?_ ?_
     · (intro a w r own hSim; simp only [go_sem]; have hGs := hG.of (by rw [hX] at hSim; exact hSim) (fun k hk h => h); with_reducible exact hF _ hGs))
  | refine zu 77 sch29_77 [15, 17, 19, 21] ?_
  | refine zr4 ?_ | refine zr5 ?_ | refine zr6 ?_ | refine zr8 ?_ | refine zr2 ?_ | refine zr3 ?_ | refine zs4 ?_
 all_goals try first
  | (intro a w' r own hs'; exact ⟨⟨_, rfl, fun r => tuAS (nodeC 6 ty v t t ⟨#[]⟩ false false false 1 c c 0 0 none 0 0) _⟩, hs'.frm⟩)
theorem c29_7 (w : World) (gx b tk p : Nat) (ty c : Int) (t : ByteArray)  (hgx : Hp w gx 140 [ptr b, ptr tk]) (hb : Hp w b 230 baseC) (htk : Hp w tk 87 (tokC ty t p)) (hp : Hp w p 172 (posC c))  : Calls Tryz.prog 29 [.iface 139 (ptr gx)].toArray w (RetS (.tu [.ag ((nodeC 7 ty ⟨#[78, 97, 78]⟩ t t ⟨#[]⟩ false false false 1 c c 0 0 none 0 0).map .va), .sc (.va (.slice none 0 0))]) w) := by
 refine calls_start 1000 Tryz.func29 rfl fun E hX hP hA hQ => ?_
 repeat' first
  | refine zB ?_ | apply zI <;> intro hdec | with_reducible constructor
  | (refine WO_LE 850 (LS_meth (name := "Type") (f := 301) (.sc (.va (.int .i64 7))) (vaLt _) 139 gx zk zk hP rfl rfl ?_ ?_) ?_
     · exact zq0
     · (intro a w r own hSim; exact cT301 gx w)
     intro _ _)
  | (refine WO_LE 850 (LS_methB (name := "GetPath") (f := 225) (.sc (.va (.string ⟨#[]⟩))) (vaLt _) 139 gx b zk zk hP rfl rfl ?_ ?_ ?_) ?_; exact zq0; exact zq25; exact zq37; intro _ _) | (refine WO_LE 850 (LS_methB (name := "GetComment") (f := 224) (.sc (.va (.pointer none))) (vaLt _) 139 gx b zk zk hP rfl rfl ?_ ?_ ?_) ?_; exact zq0; exact zq25; exact zq38; intro _ _) | (refine zr69 ?_; intro _ _)
  | refine zu 77 sch29_77 [15, 17, 19, 21] ?_
  | refine zr4 ?_ | refine zr5 ?_ | refine zr6 ?_ | refine zr8 ?_ | refine zr2 ?_ | refine zr3 ?_ | refine zs4 ?_
 all_goals try first
  | (intro a w' r own hs'; exact ⟨⟨_, rfl, fun r => tuAS (nodeC 7 ty ⟨#[78, 97, 78]⟩ t t ⟨#[]⟩ false false false 1 c c 0 0 none 0 0) _⟩, hs'.frm⟩)
theorem c29_8 (w : World) (gx b tk p : Nat) (ty c : Int) (t : ByteArray) (v : ByteArray) (hgx : Hp w gx 130 [ptr b, ptr tk, .string v]) (hb : Hp w b 230 baseC) (htk : Hp w tk 87 (tokC ty t p)) (hp : Hp w p 172 (posC c))  : Calls Tryz.prog 29 [.iface 128 (ptr gx)].toArray w (RetS (.tu [.ag ((nodeC 8 ty v t t ⟨#[]⟩ false false false 1 c c 0 0 none 0 0).map .va), .sc (.va (.slice none 0 0))]) w) := by
 refine calls_start 1000 Tryz.func29 rfl fun E hX hP hA hQ => ?_
 repeat' first
  | refine zB ?_ | apply zI <;> intro hdec | with_reducible constructor
  | (refine WO_LE 850 (LS_meth (name := "Type") (f := 277) (.sc (.va (.int .i64 8))) (vaLt _) 128 gx zk zk hP rfl rfl ?_ ?_) ?_
     · exact zq0
     · (intro a w r own hSim; exact cT277 gx w)
     intro _ _)
  | (refine WO_LE 850 (LS_methB (name := "GetPath") (f := 225) (.sc (.va (.string ⟨#[]⟩))) (vaLt _) 128 gx b zk zk hP rfl rfl ?_ ?_ ?_) ?_; exact zq0; exact zq25; exact zq37; intro _ _) | (refine WO_LE 850 (LS_methB (name := "GetComment") (f := 224) (.sc (.va (.pointer none))) (vaLt _) 128 gx b zk zk hP rfl rfl ?_ ?_ ?_) ?_; exact zq0; exact zq25; exact zq38; intro _ _)
  | refine zu 29 sch29_29 [10] ?_
  | refine zr22 ?_ | (refine WS_rc 850 (⟨gx, 2, none⟩) ([.string v]) false hX ?_ rfl ?_ ?_ ?_ ?_ (fun _ => rfl) ?_; exact zq2; exact zq0; exact zq12; exact zq8; exact sz9)
  | refine zu 77 sch29_77 [15, 17, 19, 21] ?_
  | refine zr4 ?_ | refine zr5 ?_ | refine zr6 ?_ | refine zr8 ?_ | refine zr2 ?_ | refine zr3 ?_ | refine zs4 ?_
 all_goals try first
  | (intro a w' r own hs'; exact ⟨⟨_, rfl, fun r => tuAS (nodeC 8 ty v t t ⟨#[]⟩ false false false 1 c c 0 0 none 0 0) _⟩, hs'.frm⟩)
end
section
attribute [local irreducible] leT leH
section
variable {E : En} {k : Kt} {S : St} {o : Oper}
theorem WO_tr {ops l : List Oper} (J : List Nat) (B : Asn) (h : ∀ a w r own, Sim E.X S E.A a w r own -> B.P w (fun k => ∃ j ∈ J, own k = some (.fa j)))
 (h2 : ∀ E2 : En, E2.X = E.X -> E2.A = (S.m, B) :: outF J E.A -> E2.Q = E.Q -> WO E2 ops o l k { S with m := S.m + 1 }) : WO E ops o l k S := by
 intro a w r own hs; have h3 := hs.trade J (B := B) (F := fun k => ∃ j ∈ J, own k = some (.fa j)) (Frm.refl _ w) (h a w r own hs) (fun k hk => .inl hk); have h4 := h2 ⟨E.X, (S.m, B) :: outF J E.A, E.Q⟩ rfl rfl rfl a w r _ h3
 rwa [kq_congr (E := E) (E' := ⟨E.X, (S.m, B) :: outF J E.A, E.Q⟩) rfl rfl] at h4
end
theorem WO_asts {E : En} {k : Kt} {S : St} {o : Oper} {ops ol : List Oper} (j1 j2 : Nat) (l : List N) (vs : List Value) (n : N) (x : Value) (h1 : (j1, AstsA l vs) ∈ E.A) (h2 : (j2, AstA n x) ∈ E.A)
 (h3 : ∀ E2 : En, E2.X = E.X -> E2.A = (S.m, AstsA (l ++ [n]) (vs ++ [x])) :: outF [j1, j2] E.A -> E2.Q = E.Q -> WO E2 ops o ol k { S with m := S.m + 1 }) : WO E ops o ol k S :=
 WO_tr [j1, j2] _ (fun a w r own h => ATs.snoc (ATs.ext (fun k hk => ⟨j1, zp, hk⟩) (fun _ _ => rfl) (h.fact j1 _ h1).2) (AT.ext (fun k hk => ⟨j2, zp, hk⟩) (fun _ _ => rfl) (h.fact j2 _ h2).2)) h3
def PairC (n : N) : Prop := ∀ (w : World) (FG : Nat -> Prop), Gl w FG -> ∀ (F : Nat -> Prop) (ka : Option Addr) (kc : Nat), GS w 31 19 F (.slice ka n.kids.length kc) (N.gs n.kids) -> (∀ k, F k -> k < w.heap.size) -> Calls Tryz.prog 62 [.agg (n.cells ka kc).toArray].toArray w (Ret1 (fun g : Nat => .sc (.va (ptr g))) (fun _ => True) (fun g => AstA n (.iface 157 (ptr g))) w)
abbrev psV (ps : List Nat) : List Value := ps.map fun p => .iface 157 (ptr p)
structure PL where
 n : Nat
 ps : List Nat
 xs : List Value
 vs : List Value
 ls : List N
 ad : Option Addr
 cp : Nat
theorem c60 (w : World) (FG : Nat -> Prop) (hG : Gl w FG) (l : List N) (A : Option Addr) (cp : Nat) (F : Nat -> Prop) (hF : ∀ k, F k -> k < w.heap.size) (hgs : GS w 31 19 F (.slice A l.length cp) (N.gs l)) (hp : ∀ x ∈ l, PairC x) (hc : ∀ x ∈ l, 1 <= x.c /\ x.c <= 200) (hlen : l.length <= 1000000) :
 Calls Tryz.prog 60 [.slice A l.length cp].toArray w (Ret1 (fun x : List Nat × Option Addr × Nat => .sc (.va (.slice x.2.1 x.1.length x.2.2))) (fun x => x.1.length = l.length) (fun x => Asn.sep (Row 157 1 (.slice x.2.1 x.1.length x.2.2) x.1.length (x.1.map ptr)) (AstsA l (psV x.1))) w) := by
 obtain ⟨A', cp', e1, e2, hkid⟩ := nkid_at hgs; simp only [Value.slice.injEq] at e1; obtain ⟨rfl, _, rfl⟩ := e1
 refine calls_start 1000 Tryz.func60 rfl ?_
 intro E hX hP hA hQ
 repeat' first
  | refine zA ?_ | apply zI <;> intro hdec | with_reducible constructor | refine zs0 ?_
 apply WC_addE (Row 157 1 (.slice none 0 0) 0 []) (fun w => ⟨World.ownsRow_nil w _ _ _, fun k => by simp [Value.ownBlock], fun u hu => by cases hu⟩)
 intro E2 h1 h2 h3; dsimp only; refine zz ?_; intro hX hP hA hQ
 apply WC_addE (AstsA [] []) (fun w => rfl)
 intro E2 h1 h2 h3; dsimp only; refine zz ?_; intro hX hP hA hQ
 apply WC_loopG (ι := PL) (fun x => x.n = x.ps.length /\ x.n <= l.length /\ x.xs = x.ps.map ptr /\ x.vs = psV x.ps /\ x.ls = l.take x.n) [11, 12, 13, 5, 14, 15, 6, 16, 17, 18, 19, 20, 21, 7, 22, 23, 24, 25, 26, 27, 28, 29, 30, 31, 32, 33, 3, 34, 10] (fun x => [(3, .sc (.va (.slice x.ad x.n x.cp))), (10, .sc (.va (.int .i64 x.n)))]) (fun _ => []) (fun x => [(0, Row 157 1 (.slice x.ad x.n x.cp) x.n x.xs), (1, AstsA x.ls x.vs)]) (fun x => l.length - x.n) ⟨0, [], [], [], [], none, 0⟩ ⟨rfl, Nat.zero_le _, rfl, rfl, rfl⟩ [(0, 0), (1, 1)] hX
 exact zq10; exact zq5; exact zq7; exact zq5; rfl; rfl; rfl; exact zq4; rintro ⟨n, ps, xs, vs, ls, ad, cp2⟩ ⟨hn, hi, hxs, hvs, hls⟩ E' hX' hA' hQ' J hJ; refine zl ?_; intro hX hP hA hQ
 refine vc_ok 900 _ _ _ ?_
 dsimp only at hn hi hxs hvs hls hA
 by_cases hil : n < l.length
 · obtain ⟨x, hx⟩ : ∃ x, l[n]? = some x := ⟨_, List.getElem?_eq_getElem hil⟩
   have hxm := List.mem_of_getElem? hx
   obtain ⟨A1, rfl⟩ : ∃ A1, A = some A1 := by
    rcases e2 with rfl | h
    · simp at hil
    · exact zq53
   obtain ⟨hFb, ka1, kc1, hcell, hgs1⟩ := hkid _ x hx
   have htk : l.take (n + 1) = l.take n ++ [x] := by rw [List.take_add_one, hx]; rfl
   have hpx := hp x hxm; obtain ⟨hx1, hx2⟩ := hc x hxm; obtain ⟨k1, ty1, v1, t1, fl1, c1, l1⟩ := x; replace hx1 : 1 <= c1 := hx1; replace hx2 : c1 <= 200 := hx2
   repeat' first
    | refine zC ?_ | apply zI <;> intro hdec | with_reducible constructor | (refine zr82 ?_; intro _ _)
    | (with_reducible show WC _ (.region 6 _ _) _ _
       with_reducible apply WC_drawn 900 sch60_6 [] [] hP
       exact zq1; exact zq2; exact zq1)
    | (with_reducible refine WO_LS 850 (LS_call1 (α := Nat) (f := 62) (fun g : Nat => .sc (.va (ptr g))) (fun _ => True) (fun g => AstA (.mk k1 ty1 v1 t1 fl1 c1 l1) (.iface 157 (ptr g))) hP ?_ ?_ ?_ ?_ ?_) ?_
       rfl; exact zq1; exact zq9; exact zq0
       · (intro a w r own hSim; rw [hX] at hSim; simp only [go_sem]; have hGs := (hG.of hSim (fun k hk h => h)); have hc := hpx _ FG hGs F ka1 kc1 (hgs1.of0s hSim hF) (fun k hk => Nat.lt_of_lt_of_le (hF k hk) hSim.frm.size); simp only [N.cells, nodeC, N.k, N.ty, N.v, N.t, N.fl, N.c, N.kids] at hc; with_reducible exact hc)
       rintro gk _ E2 h1 h2 h3; refine zz ?_; intro hX hP hA hQ)
    | (refine zr87 ?_; rintro gp _ E2 h1 h2 h3; refine zz ?_; intro hX hP hA hQ) | refine zr68 ?_
    | (with_reducible apply WO_asts 1 2 ls vs (.mk k1 ty1 v1 t1 fl1 c1 l1) (.iface 157 (ptr gk))
       exact zq68; exact zq52; intro E2 h1 h2 h3; refine zy ?_; intro hX hP hA hQ)
    | (with_reducible refine WO_LS 850 (LS_append (e := 157) (size := 1) (bytes := 8) 0 (.slice ad n cp2) (n) (xs) 1 [ptr gk] hP rfl ?_ ?_ ?_ ?_ ?_ ?_ ?_) ?_
       exact zq1; exact zq0; exact zq44; exact zq22; rfl; omega; decide; rintro v' ⟨_, a', cp', rfl⟩ E2 h1 h2 h3; refine zz ?_; intro hX hP hA hQ)
    | (with_reducible apply WX_lpG _ _ [(5, 0), (4, 1)] hX (hJ (⟨n + 1, ps ++ [gk], xs ++ [ptr gk], vs ++ [.iface 157 (ptr gk)], ls ++ [(.mk k1 ty1 v1 t1 fl1 c1 l1)], a', cp'⟩) ⟨by simp [hn], zj, by simp [hxs], by simp [hvs, psV], by simp only [hls, htk]⟩ zj)
       exact zq7; exact zq3; exact zq7; exact zq3; rfl; rfl; rfl; exact zq4)
    | simp (maxSteps := 20000000) only [Tryz.f60, go_sem, zL, ↓reduceIte, reduceCtorEq, Nat.reduceAdd, Nat.reduceMul, Nat.reduceSub, Nat.reduceLeDiff, Nat.reduceEqDiff, Nat.reduceLT, Nat.reduceBEq, Int.reduceEq, hP, hX, Option.isNone_none, Int.toNat_natCast, Nat.add_zero]
   all_goals try first
    | omega | rfl | (unfold I64; omega) | exact zr96
 · obtain rfl : n = ps.length := hn
   have hpe : ps.length = l.length := by omega
   rw [hpe, List.take_length] at hls; subst hxs hvs hls
   repeat' first
    | refine zC ?_ | apply zI <;> intro hdec | with_reducible constructor | refine zs0 ?_
   all_goals try first
    | omega | rfl | (unfold I64; omega) | exact zr96
end
section
attribute [local irreducible] leT leH WO WX WC WD
theorem c88p (w : World) (FG : Nat -> Prop) (hG : Gy w FG) (A0 : Addr) (F0 : Nat -> Prop) (hrow : (Row 5 1 (.slice (some A0) 0 24) 0 []).P w F0) (hF0 : ∀ k, F0 k -> k < w.heap.size) (hFG : ∀ k, FG k -> ¬ F0 k) : Calls Tryz.prog 88 [.slice (some A0) 0 24, .float .f64 9218868437227405312, .int .u8 103, .int .i64 (-1)].toArray w (RetJ (fun z : Option Addr × Nat => .sc (.va (.slice z.1 4 z.2))) (fun _ => True) (fun z => Row 5 1 (.slice z.1 4 z.2) 4 (Lib.strCells ⟨#[43, 73, 110, 102]⟩)) F0 w) := by
 have hex : IntKind.i64.wrap (BitVec.ofInt IntKind.i64.bits (IntKind.i64.wrap (((9218868437227405312 : Nat) : Int) / 4503599627370496)) &&& BitVec.ofInt IntKind.i64.bits (2048 - 1)).toNat = 2047 := by decide
 have hmt : IntKind.u64.wrap (BitVec.ofInt IntKind.u64.bits ((9218868437227405312 : Nat) : Int) &&& BitVec.ofInt IntKind.u64.bits (IntKind.u64.wrap (IntKind.u64.wrap (1 * 4503599627370496) - 1))).toNat = 0 := by decide
 simp only [go_sem] at hex hmt
 refine calls_startJ 1000 [.sc (.va (.slice (some A0) 0 24)), .sc (.va (.float .f64 9218868437227405312)), .sc (.va (.int .u8 103)), .sc (.va (.int .i64 (-1)))] (Row 5 1 (.slice (some A0) 0 24) 0 []) F0 Tryz.func88 rfl ⟨⟨rfl, rfl⟩, ⟨rfl, rfl⟩, ⟨rfl, rfl⟩, ⟨rfl, rfl⟩, trivial⟩ hrow hF0 fun E hX hP hA hQ => ?_
 repeat' first
  | refine zB ?_ | apply zI <;> intro hdec | with_reducible constructor
  | refine zu 14 sch88_14b [] ?_
  | (refine zr67 ?_; intro _ _ E2 h1 h2 h3; obtain rfl := En_eq _ _ h1 h2 h3; simp only [go_sem, e2048]) | (refine WO_LE 850 (LS_tobits (f := 121) hP rfl ?_ (fun n w => ext121 n w)) ?_; exact zq0; intro _ _) | (refine zr98 ?_; rintro _ ⟨a', q', rfl⟩ E2 h1 h2 h3; simp only [Nat.zero_add, List.nil_append] at h2 ⊢; refine zz ?_; intro hX hP hA hQ) | refine zs36 ?_
 all_goals try first
  | exact zr1 | (with_reducible show (_ : Int) <= _; omega)
  | (intro a w' r own hs'
     rw [hA] at hs'; exact retJ_fin (α := Option Addr × Nat) (B := fun z => Row 5 1 (.slice z.1 4 z.2) 4 (Lib.strCells ⟨#[43, 73, 110, 102]⟩)) hs' (a', q') trivial (fun r => .inr rfl) (j := 1) zm)
theorem c88n (w : World) (FG : Nat -> Prop) (hG : Gy w FG) (A0 : Addr) (F0 : Nat -> Prop) (hrow : (Row 5 1 (.slice (some A0) 0 24) 0 []).P w F0) (hF0 : ∀ k, F0 k -> k < w.heap.size) (hFG : ∀ k, FG k -> ¬ F0 k) : Calls Tryz.prog 88 [.slice (some A0) 0 24, .float .f64 18442240474082181120, .int .u8 103, .int .i64 (-1)].toArray w (RetJ (fun z : Option Addr × Nat => .sc (.va (.slice z.1 4 z.2))) (fun _ => True) (fun z => Row 5 1 (.slice z.1 4 z.2) 4 (Lib.strCells ⟨#[45, 73, 110, 102]⟩)) F0 w) := by
 have hex : IntKind.i64.wrap (BitVec.ofInt IntKind.i64.bits (IntKind.i64.wrap (((18442240474082181120 : Nat) : Int) / 4503599627370496)) &&& BitVec.ofInt IntKind.i64.bits (2048 - 1)).toNat = 2047 := by decide
 have hmt : IntKind.u64.wrap (BitVec.ofInt IntKind.u64.bits ((18442240474082181120 : Nat) : Int) &&& BitVec.ofInt IntKind.u64.bits (IntKind.u64.wrap (IntKind.u64.wrap (1 * 4503599627370496) - 1))).toNat = 0 := by decide
 simp only [go_sem] at hex hmt
 refine calls_startJ 1000 [.sc (.va (.slice (some A0) 0 24)), .sc (.va (.float .f64 18442240474082181120)), .sc (.va (.int .u8 103)), .sc (.va (.int .i64 (-1)))] (Row 5 1 (.slice (some A0) 0 24) 0 []) F0 Tryz.func88 rfl ⟨⟨rfl, rfl⟩, ⟨rfl, rfl⟩, ⟨rfl, rfl⟩, ⟨rfl, rfl⟩, trivial⟩ hrow hF0 fun E hX hP hA hQ => ?_
 repeat' first
  | refine zB ?_ | apply zI <;> intro hdec | with_reducible constructor
  | refine zu 14 sch88_14b [] ?_
  | (refine zr67 ?_; intro _ _ E2 h1 h2 h3; obtain rfl := En_eq _ _ h1 h2 h3; simp only [go_sem, e2048]) | (refine WO_LE 850 (LS_tobits (f := 121) hP rfl ?_ (fun n w => ext121 n w)) ?_; exact zq0; intro _ _) | (refine zr97 ?_; rintro _ ⟨a', q', rfl⟩ E2 h1 h2 h3; simp only [Nat.zero_add, List.nil_append] at h2 ⊢; refine zz ?_; intro hX hP hA hQ) | refine zs36 ?_
 all_goals try first
  | exact zr1 | (with_reducible show (_ : Int) <= _; omega)
  | (intro a w' r own hs'
     rw [hA] at hs'; exact retJ_fin (α := Option Addr × Nat) (B := fun z => Row 5 1 (.slice z.1 4 z.2) 4 (Lib.strCells ⟨#[45, 73, 110, 102]⟩)) hs' (a', q') trivial (fun r => .inr rfl) (j := 1) zm)
section
variable {E : En} {S : St} {dst : Option Tmp} {ty : TypeId} {pos : String} {after : Array Edge} {guard : Option (Nat × Bool)} {P : Program}
theorem Sim.fw' {X : Cx} {A : Facts} {a : Act} {w : World} {r : Nat -> Nat} {own : Nat -> Option Ent} (hs : Sim X S A a w r own) {j : Nat} {B C : Asn} (hj : (j, B) ∈ A) (hC : C.P w (fun k => own k = some (.fa j))) : Sim X S ((j, C) :: A) a w r own :=
 ⟨hs.dfr, hs.sz, hs.slot, hs.slt, hs.heap, fun l D hl => by
  rcases List.mem_cons.1 hl with h | h
  · simp only [Prod.mk.injEq] at h
    obtain ⟨rfl, rfl⟩ := h; exact ⟨(hs.fact l B hj).1, hC⟩
  · exact hs.fact l D h, hs.bnd, hs.nms, hs.fas, hs.frm, hs.rts⟩
theorem LS_b2sU {src d e : TypeId} {x : Operand} (v : Value) (n : Nat) (j : Nat) (hP : E.X.P = P) (hj : (j, RbA v n) ∈ E.A) (hx : ev S x = .sc (.va v)) (he5 : e = 5)
 (hs : P.underlying src = some (.slice e)) (hd : P.underlying d = some .string) (he : P.underlying e = some (.int .u8)) :
 LS E S ⟨dst, .convert src d x, ty, pos, after, guard⟩ [] (fun _ : ByteArray => True) (fun z => S.put dst (.sc (.va (.string z)))) (fun _ => E.A) := by
 intro a w r own hsim K Q hK; subst he5; obtain ⟨xs, hrow, hb⟩ := (hsim.fact j _ hj).2; have hs2 : Sim E.X S ((j, Row 5 1 v n xs) :: E.A) a w r own := hsim.fw' hj hrow; exact LS_b2sR (E := ⟨E.X, (j, Row 5 1 v n xs) :: E.A, E.Q⟩) (S := S) (dst := dst) (ty := ty) (pos := pos) (after := after) (guard := guard) v n xs j hP hx zm hb hs hd he a w r own hs2 K Q fun z hz a' w' r' own' hs' hk => hK z trivial a' w' r' own' (hs'.fw fun l C hl => ⟨C, List.mem_cons_of_mem _ hl, fun _ h => h⟩) hk
end
section
attribute [local irreducible] LS WS WQ
theorem gl_free {w0 : World} {FG : Nat -> Prop} (hG : Gy w0 FG) {P : Program} {d : List Deferred} {rt : List (Nat × Nat)} {S : St} {A : Facts} {a : Act} {w : World} {r : Nat -> Nat} {own : Nat -> Option Ent} (hs : Sim ⟨P, w0, fun _ => False, d, rt⟩ S A a w r own) (J : List Nat) : ∀ k, FG k -> ¬ ∃ j ∈ J, own k = some (.fa j) := fun k hk ⟨j, _, hj⟩ => by
 rcases (hs.bnd k _ hj).2 with h | h
 exact absurd (hG.gl.lt k hk) (Nat.not_lt.2 h); exact h
theorem emax : imax (-1 + 4) 24 = 24 := by decide
theorem i24 : ((24 : Nat) : Int) = 24 := rfl
theorem c45 (w : World) (FG : Nat -> Prop) (hG : Gy w FG) (x : Nat) : Calls Tryz.prog 45 [.float .f64 x, .int .u8 103, .int .i64 (-1), .int .i64 64].toArray w (Ret0 (fun z : ByteArray => .sc (.va (.string z))) (fun _ => True) w) := by
 refine calls_start 1000 Tryz.func45 rfl fun E hX hP hA hQ => ?_
 repeat' first
  | refine zB ?_ | apply zI <;> intro hdec | with_reducible constructor | (refine zr66 ?_; intro g _ E2 h1 h2 h3; refine zz ?_; intro hX hP hA hQ)
  | (refine WO_LS 850 (LS_callR (α := Option Addr × Nat × Nat) (f := 88) [0] (fun z => .sc (.va (.slice z.1 z.2.1 z.2.2))) (fun _ => True) (fun z => RbA (.slice z.1 z.2.1 z.2.2) z.2.1) hP ?_ ?_ ?_ ?_ ?_) ?_
     rfl; exact zq1; exact zq9; exact zq0
     · (intro a w r own hSim; simp only [go_sem]; have hGs := hG.of (by rw [hX] at hSim; exact hSim) (fun k hk h => h); have hrow := Row.pred (F' := fun k => ∃ j ∈ [0], own k = some (.fa j)) (hSim.fact 0 (Row 5 1 (.slice (some ⟨g, 0, none⟩) 0 24) 0 []) zw0).2 (fun k => by simp); with_reducible exact c88 _ FG hGs _ _ hrow (fun k hk => by obtain ⟨j, _, hj⟩ := hk; exact (hSim.bnd k _ hj).1) (gl_free hG (by rw [hX] at hSim; exact hSim) [0]) x)
     rintro ⟨a', n', q'⟩ _ E2 h1 h2 h3; refine zz ?_; intro hX hP hA hQ)
  | (refine WO_LE 850 (LS_b2sU _ _ _ hP zw0 ?_ rfl un207 un9 un5) ?_; exact zq0; intro z _) | refine zs24 ?_
 all_goals try first
  | (intro a w' r own hs'; exact ⟨z, trivial, ⟨_, rfl, fun r => .inr rfl⟩, hs'.frm⟩) | omega | (unfold I64; omega)
theorem c45p (w : World) (FG : Nat -> Prop) (hG : Gy w FG) : Calls Tryz.prog 45 [.float .f64 9218868437227405312, .int .u8 103, .int .i64 (-1), .int .i64 64].toArray w (RetS (.sc (.va (.string ⟨#[43, 73, 110, 102]⟩))) w) := by
 refine calls_start 1000 Tryz.func45 rfl fun E hX hP hA hQ => ?_
 repeat' first
  | refine zB ?_ | apply zI <;> intro hdec | with_reducible constructor | (refine zr66 ?_; intro g _ E2 h1 h2 h3; refine zz ?_; intro hX hP hA hQ)
  | (refine WO_LS 850 (LS_callR (α := Option Addr × Nat) (f := 88) [0] (fun z => .sc (.va (.slice z.1 4 z.2))) (fun _ => True) (fun z => Row 5 1 (.slice z.1 4 z.2) 4 (Lib.strCells ⟨#[43, 73, 110, 102]⟩)) hP ?_ ?_ ?_ ?_ ?_) ?_
     rfl; exact zq1; exact zq9; exact zq0
     · (intro a w r own hSim; simp only [go_sem]; have hGs := hG.of (by rw [hX] at hSim; exact hSim) (fun k hk h => h); have hrow := Row.pred (F' := fun k => ∃ j ∈ [0], own k = some (.fa j)) (hSim.fact 0 (Row 5 1 (.slice (some ⟨g, 0, none⟩) 0 24) 0 []) zw0).2 (fun k => by simp); with_reducible exact c88p _ FG hGs _ _ hrow (fun k hk => by obtain ⟨j, _, hj⟩ := hk; exact (hSim.bnd k _ hj).1) (gl_free hG (by rw [hX] at hSim; exact hSim) [0]))
     rintro ⟨a', q'⟩ _ E2 h1 h2 h3; refine zz ?_; intro hX hP hA hQ)
  | (refine WO_LE 850 (LS_b2sE (.slice a' 4 q') ⟨#[43, 73, 110, 102]⟩ 1 hP ?_ ?_ un207 un9 un5) ?_; exact zq27; exact zq13; intro _ _) | refine zs24 ?_
 all_goals try first
  | exact zr0 | omega | (unfold I64; omega)
theorem c45n (w : World) (FG : Nat -> Prop) (hG : Gy w FG) : Calls Tryz.prog 45 [.float .f64 18442240474082181120, .int .u8 103, .int .i64 (-1), .int .i64 64].toArray w (RetS (.sc (.va (.string ⟨#[45, 73, 110, 102]⟩))) w) := by
 refine calls_start 1000 Tryz.func45 rfl fun E hX hP hA hQ => ?_
 repeat' first
  | refine zB ?_ | apply zI <;> intro hdec | with_reducible constructor | (refine zr66 ?_; intro g _ E2 h1 h2 h3; refine zz ?_; intro hX hP hA hQ)
  | (refine WO_LS 850 (LS_callR (α := Option Addr × Nat) (f := 88) [0] (fun z => .sc (.va (.slice z.1 4 z.2))) (fun _ => True) (fun z => Row 5 1 (.slice z.1 4 z.2) 4 (Lib.strCells ⟨#[45, 73, 110, 102]⟩)) hP ?_ ?_ ?_ ?_ ?_) ?_
     rfl; exact zq1; exact zq9; exact zq0
     · (intro a w r own hSim; simp only [go_sem]; have hGs := hG.of (by rw [hX] at hSim; exact hSim) (fun k hk h => h); have hrow := Row.pred (F' := fun k => ∃ j ∈ [0], own k = some (.fa j)) (hSim.fact 0 (Row 5 1 (.slice (some ⟨g, 0, none⟩) 0 24) 0 []) zw0).2 (fun k => by simp); with_reducible exact c88n _ FG hGs _ _ hrow (fun k hk => by obtain ⟨j, _, hj⟩ := hk; exact (hSim.bnd k _ hj).1) (gl_free hG (by rw [hX] at hSim; exact hSim) [0]))
     rintro ⟨a', q'⟩ _ E2 h1 h2 h3; refine zz ?_; intro hX hP hA hQ)
  | (refine WO_LE 850 (LS_b2sE (.slice a' 4 q') ⟨#[45, 73, 110, 102]⟩ 1 hP ?_ ?_ un207 un9 un5) ?_; exact zq27; exact zq13; intro _ _) | refine zs24 ?_
 all_goals try first
  | exact zr0 | omega | (unfold I64; omega)
theorem fmtT (FG : Nat -> Prop) : ∀ w, Gy w FG -> ∀ b : Nat, Calls Tryz.prog 23 [.float .f64 b, .int .u8 103, .int .i64 (-1), .int .i64 64].toArray w (Ret0 (fun z : ByteArray => .sc (.va (.string z))) (fun _ => True) w) := by
 intro w hG x
 refine calls_start 1000 Tryz.func23 rfl fun E hX hP hA hQ => ?_
 repeat' first
  | refine zA ?_ | apply zI <;> intro hdec | with_reducible constructor
  | (refine zc0 (α := ByteArray) 45 (fun z : ByteArray => .sc (.va (.string z))) (fun _ => True) ?_ ?_
     · (intro a w r own hSim; simp only [go_sem]; have hGs := hG.of (by rw [hX] at hSim; exact hSim) (fun k hk h => h); with_reducible exact c45 _ FG hGs x)
     intro z _)
  | refine zs0 ?_
 all_goals (intro a w' r own hs'; exact ⟨z, trivial, ⟨_, rfl, fun r => .inr rfl⟩, hs'.frm⟩)
theorem fmtp (FG : Nat -> Prop) : ∀ w, Gy w FG -> Calls Tryz.prog 23 [.float .f64 9218868437227405312, .int .u8 103, .int .i64 (-1), .int .i64 64].toArray w (RetS (.sc (.va (.string ⟨#[43, 73, 110, 102]⟩))) w) := by
 intro w hG
 refine calls_start 1000 Tryz.func23 rfl fun E hX hP hA hQ => ?_
 repeat' first
  | refine zA ?_ | apply zI <;> intro hdec | with_reducible constructor
  | (refine zcS 45 (.sc (.va (.string ⟨#[43, 73, 110, 102]⟩))) ?_ ?_
     · (intro a w r own hSim; simp only [go_sem]; have hGs := hG.of (by rw [hX] at hSim; exact hSim) (fun k hk h => h); with_reducible exact c45p _ FG hGs))
  | refine zs0 ?_
 all_goals (intro a w' r own hs'; exact retS_va _ hs'.frm)
theorem fmtn (FG : Nat -> Prop) : ∀ w, Gy w FG -> Calls Tryz.prog 23 [.float .f64 18442240474082181120, .int .u8 103, .int .i64 (-1), .int .i64 64].toArray w (RetS (.sc (.va (.string ⟨#[45, 73, 110, 102]⟩))) w) := by
 intro w hG
 refine calls_start 1000 Tryz.func23 rfl fun E hX hP hA hQ => ?_
 repeat' first
  | refine zA ?_ | apply zI <;> intro hdec | with_reducible constructor
  | (refine zcS 45 (.sc (.va (.string ⟨#[45, 73, 110, 102]⟩))) ?_ ?_
     · (intro a w r own hSim; simp only [go_sem]; have hGs := hG.of (by rw [hX] at hSim; exact hSim) (fun k hk h => h); with_reducible exact c45n _ FG hGs))
  | refine zs0 ?_
 all_goals (intro a w' r own hs'; exact retS_va _ hs'.frm)
end
