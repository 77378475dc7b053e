/- Lemmas for FnFilterTree; each condition stands in its statement. -/
import Derived.Test.YtbfenkhnfflpnaaGreatDoorGdm
namespace Go.Proofs.YtbfenkhnfflpnaaGreatDoor.Sx
open Go Go.RowKit
set_option maxRecDepth 100000
set_option maxHeartbeats 40000000
set_option linter.all false
section
attribute [local irreducible] leT leH WO WX WC WD LS WS WQ
theorem c29_10 (w : World) (gx b tk p : Nat) (ty c : Int) (t : ByteArray) (g0 b0 tk0 : Nat) (v0 : ByteArray) (hg0 : Hp w g0 130 [ptr b0, ptr tk0, .string v0]) (hgx : Hp w gx 143 [ptr b, ptr tk, ptr g0]) (hb : Hp w b 230 baseC) (htk : Hp w tk 87 (tokC ty t p)) (hp : Hp w p 172 (posC c))  : Calls Tryz.prog 29 [.iface 141 (ptr gx)].toArray w (Ret1 (fun z : Option Addr × Nat => .tu [.ag ((nodeC 10 ty v0 t t ⟨#[]⟩ false false false 1 c c 0 0 none 0 0).map .va), .sc (.va (.slice z.1 1 z.2))]) (fun _ => True) (fun z => Row 54 1 (.slice z.1 1 z.2) 1 [.iface 128 (ptr g0)]) w) := by
 refine calls_start 1000 Tryz.func29 rfl fun E hX hP hA hQ => ?_
 repeat' first
  | refine zB ?_ | apply zI <;> intro hdec | with_reducible constructor
  | (refine WO_LE 850 (LS_meth (name := "Type") (f := 307) (.sc (.va (.int .i64 10))) (vaLt _) 141 gx zk zk hP rfl rfl ?_ ?_) ?_
     · exact zq0
     · (intro a w r own hSim; exact cT307 gx w)
     intro _ _)
  | (refine WO_LE 850 (LS_methB (name := "GetPath") (f := 225) (.sc (.va (.string ⟨#[]⟩))) (vaLt _) 141 gx b zk zk hP rfl rfl ?_ ?_ ?_) ?_; exact zq0; exact zq25; exact zq37; intro _ _) | (refine WO_LE 850 (LS_methB (name := "GetComment") (f := 224) (.sc (.va (.pointer none))) (vaLt _) 141 gx b zk zk hP rfl rfl ?_ ?_ ?_) ?_; exact zq0; exact zq25; exact zq38; intro _ _) | (refine zr69 ?_; intro _ _) | (refine WO_LE 850 (LS_rc (⟨gx, 2, none⟩) [ptr g0] false hX ?_ ?_ ?_ ?_ (fun _ => rfl)) ?_; exact zq0; exact zq12; exact zq8; exact sz128; intro _ _)
  | refine zu 37 sch29_37 [14] ?_
  | (refine WS_rc 850 (⟨gx, 2, none⟩) ([ptr g0]) false hX ?_ rfl ?_ ?_ ?_ ?_ (fun _ => rfl) ?_; exact zq2; exact zq0; exact zq12; exact zq8; exact sz128) | (refine WS_rc 850 (⟨g0, 2, none⟩) ([.string v0]) false hX ?_ rfl ?_ ?_ ?_ ?_ (fun _ => rfl) ?_; exact zq2; exact zq0; exact one_cell (cell_hp hg0 rfl); exact zq8; exact sz9)
  | refine zu 77 sch29_77 [15, 17, 19, 21] ?_
  | refine zr4 ?_ | refine zr5 ?_ | refine zr6 ?_ | refine zr8 ?_ | refine zr2 ?_ | refine zr3 ?_ | refine zs4 ?_
 all_goals try first
  | (intro a w' r own hs'
     have h2 := hs'.conc (n := 2) (t := 54) (vals := [.iface 128 (ptr g0)]) zp; exact ret1_finU (α := Option Addr × Nat) (B := fun z => Row 54 1 (.slice z.1 1 z.2) 1 [.iface 128 (ptr g0)]) h2 [0] (some ⟨r 2, 0, none⟩, 1) trivial (fun r' => tuAS (nodeC 10 ty v0 t t ⟨#[]⟩ false false false 1 c c 0 0 none 0 0) _) (Row.pred (Blk.row (h2.fact 0 (Blk (r 2) 54 [.iface 128 (ptr g0)]) zp).2 (Nat.le_refl _) (by show 1 <= maxLen; decide) rfl) (fun k => by simp)))
theorem c29_17 (w : World) (gx b tk p : Nat) (ty c : Int) (t : ByteArray) (g0 b0 tk0 p0 : Nat) (ty0 : Int) (v0 t0 : ByteArray) (hg0 : Hp w g0 130 [ptr b0, ptr tk0, .string v0]) (htk0 : Hp w tk0 87 (tokC ty0 t0 p0)) (hgx : Hp w gx 169 [ptr b, ptr tk, .iface 128 (ptr g0)]) (hb : Hp w b 230 baseC) (htk : Hp w tk 87 (tokC ty t p)) (hp : Hp w p 172 (posC c))  : Calls Tryz.prog 29 [.iface 168 (ptr gx)].toArray w (Ret1 (fun z : Option Addr × Nat => .tu [.ag ((nodeC 17 ty t0 t t ⟨#[]⟩ false false false 1 c c 0 0 none 0 0).map .va), .sc (.va (.slice z.1 1 z.2))]) (fun _ => True) (fun z => Row 54 1 (.slice z.1 1 z.2) 1 [.iface 128 (ptr g0)]) w) := by
 refine calls_start 1000 Tryz.func29 rfl fun E hX hP hA hQ => ?_
 repeat' first
  | refine zB ?_ | apply zI <;> intro hdec | with_reducible constructor
  | (refine WO_LE 850 (LS_meth (name := "Type") (f := 358) (.sc (.va (.int .i64 17))) (vaLt _) 168 gx zk zk hP rfl rfl ?_ ?_) ?_
     · exact zq0
     · (intro a w r own hSim; exact cT358 gx w)
     intro _ _)
  | (refine WO_LE 850 (LS_methB (name := "GetPath") (f := 225) (.sc (.va (.string ⟨#[]⟩))) (vaLt _) 168 gx b zk zk hP rfl rfl ?_ ?_ ?_) ?_; exact zq0; exact zq25; exact zq37; intro _ _) | (refine WO_LE 850 (LS_methB (name := "GetComment") (f := 224) (.sc (.va (.pointer none))) (vaLt _) 168 gx b zk zk hP rfl rfl ?_ ?_ ?_) ?_; exact zq0; exact zq25; exact zq38; intro _ _)
  | refine zu 61 sch29_61 [17] ?_
  | refine zr22 ?_ | (refine WS_rc 850 (⟨gx, 2, none⟩) ([.iface 128 (ptr g0)]) false hX ?_ rfl ?_ ?_ ?_ ?_ (fun _ => rfl) ?_; exact zq2; exact zq0; exact zq12; exact zq8; exact sz54) | (refine zdS 74 (.sc (.va (.string t0))) ?_ ?_; exact zq98)
  | (refine WD_LS 850 ?_ (LS_call1 (α := Option Addr × Nat) (f := 71) (fun z => .sc (.va (.slice z.1 1 z.2))) (fun _ => True) (fun z => Row 54 1 (.slice z.1 1 z.2) 1 [.iface 128 (ptr g0)]) hP ?_ ?_ ?_ ?_ ?_) ?_ ?_
     exact zq2; rfl; exact zq1; exact zq9; exact zq0
     · (intro a w r own hSim; rw [hX] at hSim; simp only [go_sem]; have hc := c71n _ [.iface 128 (ptr g0)] (r 2) 54 1 (hSim.blk (n := 2) (t := 54) (cs := [.iface 128 (ptr g0)]) (by simp only [go_sem]; repeat' first | exact zm | refine List.mem_cons_of_mem _ ?_)) (fun u hu => by simp only [List.mem_cons, List.not_mem_nil, or_false] at hu; subst hu; exact ⟨_, _, rfl⟩) zp; simp only [List.length_cons, List.length_nil, Nat.zero_add, Nat.reduceAdd] at hc; with_reducible exact hc)
     exact zq16; rintro ⟨a1, q1⟩ _ E2 h1 h2 h3; refine zz ?_; intro hX hP hA hQ)
  | refine zu 77 sch29_77 [15, 17, 19, 21] ?_
  | refine zr4 ?_ | refine zr5 ?_ | refine zr6 ?_ | refine zr8 ?_ | refine zr2 ?_ | refine zr3 ?_ | refine zs4 ?_
 all_goals try first
  | (intro a w' r own hs'
     rw [hA] at hs'; exact ret1_fin1 (α := Option Addr × Nat) (B := fun z => Row 54 1 (.slice z.1 1 z.2) 1 [.iface 128 (ptr g0)]) hs' (a1, q1) trivial (fun r' => tuAS (nodeC 17 ty t0 t t ⟨#[]⟩ false false false 1 c c 0 0 none 0 0) _) (j := 0) zm)
theorem c29_16 (w : World) (gx b tk p : Nat) (ty c : Int) (t : ByteArray) (g0 b0 tk0 p0 : Nat) (ty0 : Int) (v0 t0 : ByteArray) (hg0 : Hp w g0 130 [ptr b0, ptr tk0, .string v0]) (htk0 : Hp w tk0 87 (tokC ty0 t0 p0)) (T1 g1 : Nat) (hgx : Hp w gx 167 [ptr b, ptr tk, .iface 128 (ptr g0), .iface T1 (ptr g1)]) (hb : Hp w b 230 baseC) (htk : Hp w tk 87 (tokC ty t p)) (hp : Hp w p 172 (posC c))  : Calls Tryz.prog 29 [.iface 165 (ptr gx)].toArray w (Ret1 (fun z : Option Addr × Nat => .tu [.ag ((nodeC 16 ty t0 t t ⟨#[]⟩ false false false 1 c c 0 0 none 0 0).map .va), .sc (.va (.slice z.1 2 z.2))]) (fun _ => True) (fun z => Row 54 1 (.slice z.1 2 z.2) 2 [.iface 128 (ptr g0), .iface T1 (ptr g1)]) w) := by
 refine calls_start 1000 Tryz.func29 rfl fun E hX hP hA hQ => ?_
 repeat' first
  | refine zB ?_ | apply zI <;> intro hdec | with_reducible constructor
  | (refine WO_LE 850 (LS_meth (name := "Type") (f := 350) (.sc (.va (.int .i64 16))) (vaLt _) 165 gx zk zk hP rfl rfl ?_ ?_) ?_
     · exact zq0
     · (intro a w r own hSim; exact cT350 gx w)
     intro _ _)
  | (refine WO_LE 850 (LS_methB (name := "GetPath") (f := 225) (.sc (.va (.string ⟨#[]⟩))) (vaLt _) 165 gx b zk zk hP rfl rfl ?_ ?_ ?_) ?_; exact zq0; exact zq25; exact zq37; intro _ _) | (refine WO_LE 850 (LS_methB (name := "GetComment") (f := 224) (.sc (.va (.pointer none))) (vaLt _) 165 gx b zk zk hP rfl rfl ?_ ?_ ?_) ?_; exact zq0; exact zq25; exact zq38; intro _ _)
  | refine zu 58 sch29_58 [21] ?_
  | refine zr22 ?_ | (refine WS_rc 850 (⟨gx, 2, none⟩) ([.iface 128 (ptr g0)]) false hX ?_ rfl ?_ ?_ ?_ ?_ (fun _ => rfl) ?_; exact zq2; exact zq0; exact zq12; exact zq8; exact sz54) | (refine WS_rc 850 (⟨gx, 3, none⟩) ([.iface T1 (ptr g1)]) false hX ?_ rfl ?_ ?_ ?_ ?_ (fun _ => rfl) ?_; exact zq2; exact zq0; exact zq12; exact zq8; exact sz54) | (refine zdS 74 (.sc (.va (.string t0))) ?_ ?_; exact zq98)
  | (refine WD_LS 850 ?_ (LS_call1 (α := Option Addr × Nat) (f := 71) (fun z => .sc (.va (.slice z.1 2 z.2))) (fun _ => True) (fun z => Row 54 1 (.slice z.1 2 z.2) 2 [.iface 128 (ptr g0), .iface T1 (ptr g1)]) hP ?_ ?_ ?_ ?_ ?_) ?_ ?_
     exact zq2; rfl; exact zq1; exact zq9; exact zq0
     · (intro a w r own hSim; rw [hX] at hSim; simp only [go_sem]; have hc := c71n _ [.iface 128 (ptr g0), .iface T1 (ptr g1)] (r 2) 54 2 (hSim.blk (n := 2) (t := 54) (cs := [.iface 128 (ptr g0), .iface T1 (ptr g1)]) (by simp only [go_sem]; repeat' first | exact zm | refine List.mem_cons_of_mem _ ?_)) (fun u hu => by simp only [List.mem_cons, List.not_mem_nil, or_false] at hu; rcases hu with rfl | rfl <;> exact ⟨_, _, rfl⟩) zp; simp only [List.length_cons, List.length_nil, Nat.zero_add, Nat.reduceAdd] at hc; with_reducible exact hc)
     exact zq16; rintro ⟨a1, q1⟩ _ E2 h1 h2 h3; refine zz ?_; intro hX hP hA hQ)
  | refine zu 77 sch29_77 [15, 17, 19, 21] ?_
  | refine zr4 ?_ | refine zr5 ?_ | refine zr6 ?_ | refine zr8 ?_ | refine zr2 ?_ | refine zr3 ?_ | refine zs4 ?_
 all_goals try first
  | (intro a w' r own hs'
     rw [hA] at hs'; exact ret1_fin1 (α := Option Addr × Nat) (B := fun z => Row 54 1 (.slice z.1 2 z.2) 2 [.iface 128 (ptr g0), .iface T1 (ptr g1)]) hs' (a1, q1) trivial (fun r' => tuAS (nodeC 16 ty t0 t t ⟨#[]⟩ false false false 1 c c 0 0 none 0 0) _) (j := 0) zm)
theorem c29_19 (w : World) (gx b tk p : Nat) (ty c : Int) (t : ByteArray) (T1 g1 : Nat) (hgx : Hp w gx 149 [ptr b, .pointer none, ptr tk, .iface T1 (ptr g1)]) (hb : Hp w b 230 baseC) (htk : Hp w tk 87 (tokC ty t p)) (hp : Hp w p 172 (posC c))  : Calls Tryz.prog 29 [.iface 147 (ptr gx)].toArray w (Ret1 (fun z : Option Addr × Nat => .tu [.ag ((nodeC 19 ty t t t ⟨#[]⟩ false false false 1 c c 0 0 none 0 0).map .va), .sc (.va (.slice z.1 1 z.2))]) (fun _ => True) (fun z => Row 54 1 (.slice z.1 1 z.2) 1 [.iface T1 (ptr g1)]) w) := by
 refine calls_start 1000 Tryz.func29 rfl fun E hX hP hA hQ => ?_
 repeat' first
  | refine zB ?_ | apply zI <;> intro hdec | with_reducible constructor
  | (refine WO_LE 850 (LS_meth (name := "Type") (f := 319) (.sc (.va (.int .i64 19))) (vaLt _) 147 gx zk zk hP rfl rfl ?_ ?_) ?_
     · exact zq0
     · (intro a w r own hSim; exact cT319 gx w)
     intro _ _)
  | (refine WO_LE 850 (LS_methB (name := "GetPath") (f := 225) (.sc (.va (.string ⟨#[]⟩))) (vaLt _) 147 gx b zk zk hP rfl rfl ?_ ?_ ?_) ?_; exact zq0; exact zq25; exact zq37; intro _ _) | (refine WO_LE 850 (LS_methB (name := "GetComment") (f := 224) (.sc (.va (.pointer none))) (vaLt _) 147 gx b zk zk hP rfl rfl ?_ ?_ ?_) ?_; exact zq0; exact zq25; exact zq38; intro _ _)
  | refine zu 67 sch29_67 [] ?_
  | (refine WS_rc 850 (⟨gx, 2, none⟩) ([ptr tk]) false hX ?_ rfl ?_ ?_ ?_ ?_ (fun _ => rfl) ?_; exact zq2; exact zq0; exact zq12; exact zq8; exact sz82) | (refine WS_rc 850 (⟨gx, 3, none⟩) ([.iface T1 (ptr g1)]) false hX ?_ rfl ?_ ?_ ?_ ?_ (fun _ => rfl) ?_; exact zq2; exact zq0; exact zq12; exact zq8; exact sz54) | (refine WO_LE 850 (LS_rc (⟨tk, 3, none⟩) [.string t] false hX ?_ ?_ ?_ ?_ (fun _ => rfl)) ?_; exact zq0; exact zq18; exact zq8; exact sz9; intro _ _)
  | (refine WD_LS 850 ?_ (LS_call1 (α := Option Addr × Nat) (f := 71) (fun z => .sc (.va (.slice z.1 1 z.2))) (fun _ => True) (fun z => Row 54 1 (.slice z.1 1 z.2) 1 [.iface T1 (ptr g1)]) hP ?_ ?_ ?_ ?_ ?_) ?_ ?_
     exact zq2; rfl; exact zq1; exact zq9; exact zq0
     · (intro a w r own hSim; rw [hX] at hSim; simp only [go_sem]; have hc := c71n _ [.iface T1 (ptr g1)] (r 2) 54 1 (hSim.blk (n := 2) (t := 54) (cs := [.iface T1 (ptr g1)]) (by simp only [go_sem]; repeat' first | exact zm | refine List.mem_cons_of_mem _ ?_)) (fun u hu => by simp only [List.mem_cons, List.not_mem_nil, or_false] at hu; subst hu; exact ⟨_, _, rfl⟩) zp; simp only [List.length_cons, List.length_nil, Nat.zero_add, Nat.reduceAdd] at hc; with_reducible exact hc)
     exact zq16; rintro ⟨a1, q1⟩ _ E2 h1 h2 h3; refine zz ?_; intro hX hP hA hQ)
  | refine zu 77 sch29_77 [15, 17, 19, 21] ?_
  | refine zr4 ?_ | refine zr5 ?_ | refine zr6 ?_ | refine zr8 ?_ | refine zr2 ?_ | refine zr3 ?_ | refine zs4 ?_
 all_goals try first
  | (intro a w' r own hs'
     rw [hA] at hs'; exact ret1_fin1 (α := Option Addr × Nat) (B := fun z => Row 54 1 (.slice z.1 1 z.2) 1 [.iface T1 (ptr g1)]) hs' (a1, q1) trivial (fun r' => tuAS (nodeC 19 ty t t t ⟨#[]⟩ false false false 1 c c 0 0 none 0 0) _) (j := 0) zm)
theorem c29_13 (w : World) (gx b tk p : Nat) (ty c : Int) (t : ByteArray) (T0 g0 T1 g1 : Nat) (fl : Bool) (hgx : Hp w gx 164 [ptr b, ptr tk, .pointer none, .iface T0 (ptr g0), .iface T1 (ptr g1), .pointer none, .bool fl]) (hb : Hp w b 230 baseC) (htk : Hp w tk 87 (tokC ty t p)) (hp : Hp w p 172 (posC c))  : Calls Tryz.prog 29 [.iface 157 (ptr gx)].toArray w (Ret1 (fun z : Option Addr × Nat => .tu [.ag ((nodeC 13 ty ⟨#[]⟩ t t ⟨#[]⟩ fl false false 1 c c 0 0 none 0 0).map .va), .sc (.va (.slice z.1 2 z.2))]) (fun _ => True) (fun z => Row 54 1 (.slice z.1 2 z.2) 2 [.iface T0 (ptr g0), .iface T1 (ptr g1)]) w) := by
 refine calls_start 1000 Tryz.func29 rfl fun E hX hP hA hQ => ?_
 repeat' first
  | refine zB ?_ | apply zI <;> intro hdec | with_reducible constructor
  | (refine WO_LE 850 (LS_meth (name := "Type") (f := 337) (.sc (.va (.int .i64 13))) (vaLt _) 157 gx zk zk hP rfl rfl ?_ ?_) ?_
     · exact zq0
     · (intro a w r own hSim; exact cT337 gx w)
     intro _ _)
  | (refine WO_LE 850 (LS_methB (name := "GetPath") (f := 225) (.sc (.va (.string ⟨#[]⟩))) (vaLt _) 157 gx b zk zk hP rfl rfl ?_ ?_ ?_) ?_; exact zq0; exact zq25; exact zq37; intro _ _) | (refine WO_LE 850 (LS_methB (name := "GetComment") (f := 224) (.sc (.va (.pointer none))) (vaLt _) 157 gx b zk zk hP rfl rfl ?_ ?_ ?_) ?_; exact zq0; exact zq25; exact zq38; intro _ _)
  | refine zu 51 sch29_51 [15, 17] ?_
  | refine zu 52 sch29_52 [] ?_
  | refine zr22 ?_ | (refine WS_rc 850 (⟨gx, 6, none⟩) ([.bool fl]) false hX ?_ rfl ?_ ?_ ?_ ?_ (fun _ => rfl) ?_; exact zq2; exact zq0; exact zq12; exact zq8; exact sz4) | (refine WS_rc 850 (⟨gx, 5, none⟩) ([.pointer none]) false hX ?_ rfl ?_ ?_ ?_ ?_ (fun _ => rfl) ?_; exact zq2; exact zq0; exact zq12; exact zq8; exact sz88) | (refine WS_rc 850 (⟨gx, 3, none⟩) ([.iface T0 (ptr g0)]) false hX ?_ rfl ?_ ?_ ?_ ?_ (fun _ => rfl) ?_; exact zq2; exact zq0; exact zq12; exact zq8; exact sz162) | (refine WS_rc 850 (⟨gx, 4, none⟩) ([.iface T1 (ptr g1)]) false hX ?_ rfl ?_ ?_ ?_ ?_ (fun _ => rfl) ?_; exact zq2; exact zq0; exact zq12; exact zq8; exact sz54)
  | (refine WD_LS 850 ?_ (LS_call1 (α := Option Addr × Nat) (f := 71) (fun z => .sc (.va (.slice z.1 2 z.2))) (fun _ => True) (fun z => Row 54 1 (.slice z.1 2 z.2) 2 [.iface T0 (ptr g0), .iface T1 (ptr g1)]) hP ?_ ?_ ?_ ?_ ?_) ?_ ?_
     exact zq2; rfl; exact zq1; exact zq9; exact zq0
     · (intro a w r own hSim; rw [hX] at hSim; simp only [go_sem]; have hc := c71n _ [.iface T0 (ptr g0), .iface T1 (ptr g1)] (r 2) 54 2 (hSim.blk (n := 2) (t := 54) (cs := [.iface T0 (ptr g0), .iface T1 (ptr g1)]) (by simp only [go_sem]; repeat' first | exact zm | refine List.mem_cons_of_mem _ ?_)) (fun u hu => by simp only [List.mem_cons, List.not_mem_nil, or_false] at hu; rcases hu with rfl | rfl <;> exact ⟨_, _, rfl⟩) zp; simp only [List.length_cons, List.length_nil, Nat.zero_add, Nat.reduceAdd] at hc; with_reducible exact hc)
     exact zq16; rintro ⟨a1, q1⟩ _ E2 h1 h2 h3; refine zz ?_; intro hX hP hA hQ)
  | refine zu 77 sch29_77 [15, 17, 19, 21] ?_
  | refine zr4 ?_ | refine zr5 ?_ | refine zr6 ?_ | refine zr8 ?_ | refine zr2 ?_ | refine zr3 ?_ | refine zs4 ?_
 all_goals try first
  | (intro a w' r own hs'
     rw [hA] at hs'; exact ret1_fin1 (α := Option Addr × Nat) (B := fun z => Row 54 1 (.slice z.1 2 z.2) 2 [.iface T0 (ptr g0), .iface T1 (ptr g1)]) hs' (a1, q1) trivial (fun r' => tuAS (nodeC 13 ty ⟨#[]⟩ t t ⟨#[]⟩ fl false false 1 c c 0 0 none 0 0) _) (j := 0) zm)
theorem c29_14 (w : World) (gx b tk p : Nat) (ty c : Int) (t : ByteArray) (fl : Bool) (sa : Option Addr) (sn sc : Nat) (s2 : Value) (hgx : Hp w gx 99 [ptr b, ptr tk, .pointer none, .bool fl, .slice sa sn sc, s2, .slice none 0 0, .pointer none]) (hb : Hp w b 230 baseC) (htk : Hp w tk 87 (tokC ty t p)) (hp : Hp w p 172 (posC c)) : Calls Tryz.prog 29 [.iface 93 (ptr gx)].toArray w (RetS (.tu [.ag ((nodeC 14 ty ⟨#[]⟩ t t ⟨#[]⟩ fl false false 1 c c 0 0 none 0 0).map .va), .sc (.va (.slice sa sn sc))]) w) := by
 refine calls_start 1000 Tryz.func29 rfl fun E hX hP hA hQ => ?_
 repeat' first
  | refine zB ?_ | apply zI <;> intro hdec | with_reducible constructor
  | (refine WO_LE 850 (LS_meth (name := "Type") (f := 239) (.sc (.va (.int .i64 14))) (vaLt _) 93 gx zk zk hP rfl rfl ?_ ?_) ?_
     · exact zq0
     · (intro a w r own hSim; exact cT239 gx w)
     intro _ _)
  | (refine WO_LE 850 (LS_methB (name := "GetPath") (f := 225) (.sc (.va (.string ⟨#[]⟩))) (vaLt _) 93 gx b zk zk hP rfl rfl ?_ ?_ ?_) ?_; exact zq0; exact zq25; exact zq37; intro _ _) | (refine WO_LE 850 (LS_methB (name := "GetComment") (f := 224) (.sc (.va (.pointer none))) (vaLt _) 93 gx b zk zk hP rfl rfl ?_ ?_ ?_) ?_; exact zq0; exact zq25; exact zq38; intro _ _)
  | refine zu 55 sch29_55 [19, 21] ?_
  | refine zr22 ?_ | (refine WS_rc 850 (⟨gx, 3, none⟩) ([.bool fl]) false hX ?_ rfl ?_ ?_ ?_ ?_ (fun _ => rfl) ?_; exact zq2; exact zq0; exact zq12; exact zq8; exact sz4) | (refine WS_rc 850 (⟨gx, 7, none⟩) ([.pointer none]) false hX ?_ rfl ?_ ?_ ?_ ?_ (fun _ => rfl) ?_; exact zq2; exact zq0; exact zq12; exact zq8; exact sz88) | (refine WS_rc 850 (⟨gx, 4, none⟩) ([.slice sa sn sc]) false hX ?_ rfl ?_ ?_ ?_ ?_ (fun _ => rfl) ?_; exact zq2; exact zq0; exact zq12; exact zq8; exact sz50)
  | refine zu 77 sch29_77 [15, 17, 19, 21] ?_
  | refine zr4 ?_ | refine zr5 ?_ | refine zr6 ?_ | refine zr8 ?_ | refine zr2 ?_ | refine zr3 ?_ | refine zs4 ?_
 all_goals try first
  | (intro a w' r own hs'; exact ⟨⟨_, rfl, fun r => tuAS (nodeC 14 ty ⟨#[]⟩ t t ⟨#[]⟩ fl false false 1 c c 0 0 none 0 0) _⟩, hs'.frm⟩)
structure MlL where
 n : Nat
 a : Option Addr
 q : Nat
 xs : List Value
theorem c29_11 (w : World) (gx b tk p : Nat) (ty c : Int) (t : ByteArray) (fl : Bool) (s1 : Value) (ps : List Nat) (F : Nat -> Prop) (hsl : SlC w F 157 s1 (ps.map ptr)) (hlen : ps.length <= 1000000) (hgx : Hp w gx 156 [ptr b, ptr tk, .pointer none, .bool fl, s1, .pointer none]) (hb : Hp w b 230 baseC) (htk : Hp w tk 87 (tokC ty t p)) (hp : Hp w p 172 (posC c)) : Calls Tryz.prog 29 [.iface 153 (ptr gx)].toArray w (Ret1 (fun z : Option Addr × Nat => .tu [.ag ((nodeC 11 ty ⟨#[]⟩ t t ⟨#[]⟩ fl false false 1 c c 0 0 none 0 0).map .va), .sc (.va (.slice z.1 ps.length z.2))]) (fun _ => True) (fun z => Row 54 1 (.slice z.1 ps.length z.2) ps.length (ps.map fun p => .iface 157 (ptr p))) w) := by
 obtain ⟨A, scp, rfl, e2, hcell⟩ := hsl.at; simp only [List.length_map] at hgx e2 hcell
 refine calls_start 1000 Tryz.func29 rfl fun E hX hP hA hQ => ?_
 repeat' first
  | refine zB ?_ | apply zI <;> intro hdec | with_reducible constructor
  | (refine WO_LE 850 (LS_meth (name := "Type") (f := 331) (.sc (.va (.int .i64 11))) (vaLt _) 153 gx zk zk hP rfl rfl ?_ ?_) ?_
     · exact zq0
     · (intro a w r own hSim; exact cT331 gx w)
     intro _ _)
  | (refine WO_LE 850 (LS_methB (name := "GetPath") (f := 225) (.sc (.va (.string ⟨#[]⟩))) (vaLt _) 153 gx b zk zk hP rfl rfl ?_ ?_ ?_) ?_; exact zq0; exact zq25; exact zq37; intro _ _) | (refine WO_LE 850 (LS_methB (name := "GetComment") (f := 224) (.sc (.va (.pointer none))) (vaLt _) 153 gx b zk zk hP rfl rfl ?_ ?_ ?_) ?_; exact zq0; exact zq25; exact zq38; intro _ _)
  | refine zu 40 sch29_40 [15, 17] ?_
  | refine zr22 ?_ | (refine WS_rc 850 (⟨gx, 3, none⟩) ([.bool fl]) false hX ?_ rfl ?_ ?_ ?_ ?_ (fun _ => rfl) ?_; exact zq2; exact zq0; exact zq12; exact zq8; exact sz4) | (refine WS_rc 850 (⟨gx, 5, none⟩) ([.pointer none]) false hX ?_ rfl ?_ ?_ ?_ ?_ (fun _ => rfl) ?_; exact zq2; exact zq0; exact zq12; exact zq8; exact sz88) | (refine WO_LE 850 (LS_rc (⟨gx, 4, none⟩) [.slice A ps.length scp] false hX ?_ ?_ ?_ ?_ (fun _ => rfl)) ?_; exact zq0; exact zq12; exact zq8; exact sz154; intro _ _) | refine zr2 ?_ | refine zr3 ?_ | refine zs4 ?_
 apply WC_addE (Row 54 1 (.slice none 0 0) 0 []) (fun w => ⟨World.ownsRow_nil w _ _ _, fun k => by simp [Value.ownBlock], fun u hu => by cases hu⟩)
 intro E2 h1 h2 h3; dsimp only; refine zz ?_; intro hX hP hA hQ
 apply WC_loopG (ι := MlL) (fun x => x.n <= ps.length /\ x.xs = (ps.take x.n).map fun p => .iface 157 (ptr p)) [200, 201, 202, 19, 203, 204, 205, 206, 207, 6, 208, 199] (fun x => [(6, .sc (.va (.slice x.a x.n x.q))), (199, .sc (.va (.int .i64 x.n)))]) (fun _ => [(0, 31, [.va (.int .i64 0), .va (.int .i64 0), .va (.string ⟨#[]⟩), .va (.string ⟨#[]⟩), .va (.string ⟨#[]⟩), .va (.string ⟨#[]⟩), .va (.bool false), .va (.bool false), .va (.bool false), .va (.int .i64 0), .va (.int .i64 0), .va (.int .i64 0), .va (.int .i64 0), .va (.int .i64 0), .va (.slice none 0 0), .va (.slice none 0 0), .va (.slice none 0 0), .va (.slice none 0 0), .va (.slice none 0 0)]), (1, 31, [.va (.int .i64 11), .va (.int .i64 0), .va (.string ⟨#[]⟩), .va (.string ⟨#[]⟩), .va (.string ⟨#[]⟩), .va (.string ⟨#[]⟩), .va (.bool fl), .va (.bool false), .va (.bool false), .va (.int .i64 0), .va (.int .i64 0), .va (.int .i64 0), .va (.int .i64 0), .va (.int .i64 0), .va (.slice none 0 0), .va (.slice none 0 0), .va (.slice none 0 0), .va (.slice none 0 0), .va (.slice none 0 0)])]) (fun x => [(0, Row 54 1 (.slice x.a x.n x.q) x.n x.xs)]) (fun x => ps.length - x.n) ⟨0, none, 0, []⟩ ⟨Nat.zero_le _, rfl⟩ [(0, 0)] hX
 exact zq10; exact zq5; exact zq7; exact zq5; rfl; rfl; rfl; exact zq4; rintro ⟨n, a, q, xs⟩ ⟨hi, hxs⟩ E' hX' hA' hQ' J hJ; refine zl ?_; intro hX hP hA hQ
 refine vc_ok 900 _ _ _ ?_
 dsimp only at hi hxs hA
 by_cases hil : n < ps.length
 · obtain ⟨p1, hp1⟩ : ∃ p, ps[n]? = some p := ⟨_, List.getElem?_eq_getElem hil⟩
   obtain ⟨A1, rfl⟩ : ∃ A1, A = some A1 := by
    rcases e2 with e2 | h
    exact zq78; exact zq53
   obtain ⟨_, hcx⟩ := hcell n (ptr p1) (by simp [hp1]); have hcx' : w.cell? (A1.add n) = some (ptr p1) := hcx
   have htk : ps.take (n + 1) = ps.take n ++ [p1] := by rw [List.take_add_one, hp1]; rfl
   repeat' first
    | refine zB ?_ | apply zI <;> intro hdec | with_reducible constructor | (refine WO_LE 850 (LS_rc (A1.add n) [ptr p1] false hX ?_ ?_ ?_ ?_ (fun _ => rfl)) ?_; exact zq0; exact one_cell hcx'; exact (fun h => h); exact sz157; intro _ _) | (refine WO_LS 850 (LS_append (e := 54) (size := 1) (bytes := 16) 0 (.slice a n q) (n) (xs) 1 [.iface 157 (ptr p1)] hP rfl ?_ ?_ ?_ ?_ ?_ ?_ ?_) ?_; exact zq1; exact zq0; exact zq13; exact zq22; rfl; omega; decide; rintro v' ⟨_, a2, q2, rfl⟩ E2 h1 h2 h3; refine zz ?_; intro hX hP hA hQ)
    | exact zG7 [(1, 0)] (hJ (⟨n + 1, a2, q2, xs ++ [.iface 157 (ptr p1)]⟩) ⟨zj, by dsimp only; rw [htk, hxs, List.map_append, List.map_cons, List.map_nil]⟩ zj)
    | refine zs7 ?_
   all_goals try first
    | omega | (unfold I64; omega)
 · obtain rfl : n = ps.length := by omega
   rw [List.take_length] at hxs; subst hxs
   repeat' first
    | refine zB ?_ | apply zI <;> intro hdec | with_reducible constructor
    | refine zu 77 sch29_77 [15, 17, 19, 21] ?_
    | refine zr4 ?_ | refine zr5 ?_ | refine zr6 ?_ | refine zr8 ?_ | refine zr2 ?_ | refine zr3 ?_ | refine zs4 ?_
   all_goals try first
    | omega
    | (intro a' w' r own hs'
       rw [hA] at hs'; exact ret1_fin1 (α := Option Addr × Nat) (B := fun z => Row 54 1 (.slice z.1 ps.length z.2) ps.length (ps.map fun p => .iface 157 (ptr p))) hs' (a, q) trivial (fun r => tuAS (nodeC 11 ty ⟨#[]⟩ t t ⟨#[]⟩ fl false false 1 c c 0 0 none 0 0) _) (j := 0) zm)
