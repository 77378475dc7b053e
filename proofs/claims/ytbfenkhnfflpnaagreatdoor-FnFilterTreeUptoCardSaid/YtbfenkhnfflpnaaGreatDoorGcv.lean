/- Lemmas for FnFilterTree; each condition stands in its statement. -/
import Derived.Test.YtbfenkhnfflpnaaGreatDoorGct
import Derived.Scope
namespace Go.Proofs.YtbfenkhnfflpnaaGreatDoor.Sx
open Go Go.RowKit
set_option maxRecDepth 100000
set_option maxHeartbeats 40000000
set_option linter.all false
section
attribute [local irreducible] leT leH WO WX WC WD LS WS
def sch21_6b : Sch := tkN [0] <| .take 1 (some [0]) <| tkN [2] <| .two 3 (.two 4 (.one 5 <| .one 6 <| .done) 5 (.one 4 <| .one 6 <| .done)) 5 (.one 3 <| .one 4 <| .one 6 <| .done)
attribute [go_sem] sch21_6b
def sch21_13b : Sch := tkN [0] <| .take 1 (some [0]) <| tkN [2] <| .two 3 (.two 4 (.one 5 <| .one 6 <| .done) 5 (.one 4 <| .one 6 <| .done)) 5 (.one 3 <| .one 4 <| .one 6 <| .done)
attribute [go_sem] sch21_13b
def sch21_15b : Sch := .take 0 (some [0]) <| tkN [1] <| .take 2 (some [0]) <| .one 3 <| .one 4 <| tkN [5] <| .one 6 <| .done
attribute [go_sem] sch21_15b
def sch21_3b : Sch := tkN [0] <| .take 1 (some [0]) <| tkN [2, 4, 8] <| .two 3 (.one 5 <| .one 6 <| .two 7 (.one 9 <| tkN [10] <| .one 11 <| .done) 9 (.one 7 <| tkN [10] <| .one 11 <| .done)) 5 (.one 3 <| .one 6 <| .two 7 (.one 9 <| tkN [10] <| .one 11 <| .done) 9 (.one 7 <| tkN [10] <| .one 11 <| .done))
attribute [go_sem] sch21_3b
theorem ok_alias {q : Prop} {an t : ByteArray} {ty : Int} {c c2 : Int} (h1 : 1 <= c) (h2 : 1 <= c2) : N.ok q (.mk 17 ty an t false (1 + (c - 1).tmod 200) [.mk 8 31 an an false (1 + (c2 - 1).tmod 200) []]) :=
 ⟨(modC h1).1, (modC h1).2, ⟨ok_str (modC h2).1 (modC h2).2, trivial⟩, .inr (.inr (.inr (.inr (.inr (.inr (.inr (.inr (.inl ⟨rfl, _, rfl, rfl, rfl⟩)))))))), fun _ => rfl⟩
theorem ok_tag {q : Prop} {t : ByteArray} {ty : Int} {c : Int} {x : N} (h1 : 1 <= c) (hx : x.ok q) (h13 : x.k ≠ 13) : N.ok q (.mk 19 ty t t false (1 + (c - 1).tmod 200) [x]) :=
 ⟨(modC h1).1, (modC h1).2, ⟨hx, trivial⟩, .inr (.inr (.inr (.inr (.inr (.inr (.inr (.inr (.inr (.inr (.inl ⟨rfl, rfl, x, rfl, h13⟩)))))))))), fun _ => rfl⟩
theorem ok_anchor {q : Prop} {an t : ByteArray} {ty : Int} {c c2 : Int} {x : N} (h1 : 1 <= c) (h2 : 1 <= c2) (hx : x.ok q) (h13 : x.k ≠ 13) : N.ok q (.mk 16 ty an t false (1 + (c - 1).tmod 200) [.mk 8 31 an an false (1 + (c2 - 1).tmod 200) [], x]) :=
 ⟨(modC h1).1, (modC h1).2, ⟨ok_str (modC h2).1 (modC h2).2, hx, trivial⟩, .inr (.inr (.inr (.inr (.inr (.inr (.inr (.inr (.inr (.inl ⟨rfl, _, x, rfl, rfl, rfl, h13⟩))))))))), fun _ => rfl⟩
theorem nw_of (y : Nz) : y.nw.g = y.n.g := y.g
theorem c21_al (w : World) (g : Nat) (col st : Int) (v an tg : ByteArray) (ka : Option Addr) (kn kc : Nat) (q : Prop) (hc1 : 1 <= col) (hc2 : col <= 1000000) (hg : w.heap[g]? = some (.cells [.int .i64 1, .int .i64 col].toArray 65 (0, 0)))  :
 Calls Tryz.prog 21 [.pointer (some ⟨g, 0, none⟩), .agg (treeC 4 v an tg st ka kn kc).toArray].toArray w
  (RetN NO.res (fun x => x.n.ok q /\ x.n.k = 17 /\ col + x.n.cnt <= x.col /\ x.col <= col + 2) NO.trs g 65 NO.cs (fun _ => False) w) := by
 have hh := HpOk_one hg rfl; have hm := modC hc1; have hm2 := modC (c := col + 1) zo
 refine calls_startG 1000 [g] [(0, 65, [.va (.int .i64 1), .va (.int .i64 col)])] [.sc (.pt 0 0), .ag ((treeC 4 v an tg st ka kn kc).map .va)] Tryz.func21 rfl ⟨⟨rfl, rfl⟩, ⟨rfl, rfl⟩, trivial⟩ zp hh fun E hX hP hA hQ => ?_
 repeat' first
  | refine zA ?_ | apply zI <;> intro hdec | with_reducible constructor | (refine zr43 ?_; rintro - - E2 h1 h2 h3; refine zz ?_; intro hX hP hA hQ) | (refine zr62 ?_; rintro - - E2 h1 h2 h3; refine zz ?_; intro hX hP hA hQ)
  | (refine zcS 39 (.ag [.va (.int .i64 17), .va (.int .i64 14), .va (.string ⟨#[]⟩), .va (.string ⟨#[42]⟩), .va (.string ⟨#[42]⟩), .va (.string ⟨#[]⟩), .va (.bool false), .va (.bool false), .va (.bool false), .va (.int .i64 1), .va (.int .i64 (1 + (col - 1).tmod 200)), .va (.int .i64 (1 + (col - 1).tmod 200)), .va (.int .i64 0), .va (.int .i64 0), .va (.slice none 0 0), .va (.slice none 0 0), .va (.slice none 0 0), .va (.slice none 0 0), .va (.slice none 0 0)]) ?_ ?_
     · (intro a w r own hSim; simp only [go_sem]; have hc := c39_x w 17 14 ⟨#[42]⟩ 1 (1 + (col - 1).tmod 200) (1 + (col - 1).tmod 200) 0 0 zi; simp only [nodeC, List.map_cons, List.map_nil] at hc; with_reducible exact hc))
  | refine zr80 ?_
  | (with_reducible show WC _ (.region 3 _ _) _ _
     apply WC_drawn 900 sch21_3b [9, 11] [(0, [5, 9, 11])] hP
     exact zq1; exact zq2; exact zq1)
  | (refine WD_q (C := True) (sv := .sc (.va (.string an))) 850 ?_ ?_ True.intro ?_; exact zq2; exact zq46) | refine zs8 ?_
 all_goals try first
  | omega | (unfold I64; omega) | (exfalso; assumption)
 all_goals (intro a w' r own hs')
 all_goals try first
  | (have h2 := hs'.conc (n := 4) (t := 31) (vals := nodeC 8 31 an an an ⟨#[]⟩ false false false 1 (1 + (col + 1 - 1).tmod 200) (1 + (col + 1 - 1).tmod 200) 0 0 none 0 0) (by simp [nodeC])
     obtain ⟨own3, h3⟩ := h2.box [(none, nvals 8 31 an an false (1 + (col + 1 - 1).tmod 200), .slice none 0 0, [])] zm (fun y hy => by obtain rfl := List.mem_singleton.1 hy; exact ⟨rfl, rfl⟩) (Nat.le_of_ble_eq_true rfl); exact retN_fin1 h3 ⟨.mk 17 14 an ⟨#[42]⟩ false (1 + (col - 1).tmod 200) [.mk 8 31 an an false (1 + (col + 1 - 1).tmod 200) []], some ⟨r 4, 0, none⟩, 1, col + 1 + 1⟩ ⟨ok_alias hc1 zo, rfl, (by (try simp only [N.cnt, N.cntl]); omega), (by (try simp only [N.cnt, N.cntl]); omega)⟩ (by simp only [go_sem, ↓reduceIte]; exact zm) (fun r => ⟨_, rfl, CL_va _⟩) zm)
theorem good_any {d : Nat} {k st : Int} {v an tg an' tg' : ByteArray} {l : List T} (h : T.good d ⟨k, v, an, tg, st, l⟩) : T.good d ⟨k, v, an', tg', st, l⟩ := by
 cases d with
 | zero => exact h
 | succ d => exact h
theorem c39_19 (w : World) (b : Int) (c : ByteArray) (p1 p2 p3 p4 p5 : Int) : Calls Tryz.prog 39 [.int .i64 19, .int .i64 b, .string c, .agg [.int .i64 p1, .int .i64 p2, .int .i64 p3, .int .i64 p4, .int .i64 p5].toArray].toArray w
 (RetS (.ag ((nodeC 19 b c c c ⟨#[]⟩ false false false p1 p2 p3 p4 p5 none 0 0).map .va)) w) := by
 have h := c39 w 19 b c p1 p2 p3 p4 p5
 simpa only [or_true, if_true] using h
theorem c21_tag (d : Nat) (s : Int) (P : T -> Prop) (hM : MkC d s P) (w : World) (g : Nat) (col k st : Int) (v an tg : ByteArray) (ka : Option Addr) (kc : Nat) (l : List T) (F : Nat -> Prop) (q : Prop) (hc1 : 1 <= col) (hg : w.heap[g]? = some (.cells [.int .i64 1, .int .i64 col].toArray 65 (0, 0))) (hk4 : k ≠ 4)
 (hgs : GS w 24 6 F (.slice ka l.length kc) (T.gs l)) (hF : ∀ k, F k -> k < w.heap.size /\ k ≠ g) (hgood : T.good d ⟨k, v, an, tg, st, l⟩) (hq : q -> T.noPlus ⟨k, v, an, tg, st, l⟩) (ht : tg ≠ ⟨#[]⟩) (hPt : P ⟨k, v, an, ⟨#[]⟩, st, l⟩) (hc2 : col + 1 + bd d <= 1000000 + s) (hs3 : s <= 3) :
 Calls Tryz.prog 21 [.pointer (some ⟨g, 0, none⟩), .agg (treeC k v an tg st ka l.length kc).toArray].toArray w
  (RetN NO.res (fun x => x.n.ok q /\ x.n.k = 19 /\ col + x.n.cnt <= x.col /\ x.col <= col + 1 + bd d - s) NO.trs g 65 NO.cs (fun _ => False) w) := by
 have hh := HpOk_one hg rfl; have hbd := bd_pos d; have hm := modC hc1; have hm2 := modC (c := col + 1) zo
 refine calls_startG 1000 [g] [(0, 65, [.va (.int .i64 1), .va (.int .i64 col)])] [.sc (.pt 0 0), .ag ((treeC k v an tg st ka l.length kc).map .va)] Tryz.func21 rfl ⟨⟨rfl, rfl⟩, ⟨rfl, rfl⟩, trivial⟩ zp hh fun E hX hP hA hQ => ?_
 repeat' first
  | refine zA ?_ | apply zI <;> intro hdec | with_reducible constructor | (refine zr77 ?_; rintro - - E2 h1 h2 h3; refine zz ?_; intro hX hP hA hQ)
  | (refine zdS 39 (.ag [.va (.int .i64 19), .va (.int .i64 15), .va (.string tg), .va (.string tg), .va (.string tg), .va (.string ⟨#[]⟩), .va (.bool false), .va (.bool false), .va (.bool false), .va (.int .i64 1), .va (.int .i64 (1 + (col - 1).tmod 200)), .va (.int .i64 (1 + (col - 1).tmod 200)), .va (.int .i64 0), .va (.int .i64 0), .va (.slice none 0 0), .va (.slice none 0 0), .va (.slice none 0 0), .va (.slice none 0 0), .va (.slice none 0 0)]) ?_ ?_
     · (intro a w r own hSim; simp only [go_sem]; have hc := c39_19 w 15 tg 1 (1 + (col - 1).tmod 200) (1 + (col - 1).tmod 200) 0 0; simp only [nodeC, List.map_cons, List.map_nil] at hc; with_reducible exact hc))
  | (with_reducible show WC _ (.region 6 _ _) _ _
     apply WC_drawn 900 sch21_6b [6] [(0, [3, 6])] hP
     exact zq1; exact zq2; exact zq1)
  | (refine WO_LS 850 (LS_callM (α := NO) (f := 21) (cs := [.va (.int .i64 1), .va (.int .i64 (col + 1))]) 0 65 [] NO.res (fun x => x.n.ok q /\ (k = 1 -> keyK x.n.k) /\ x.n.k ≠ 13 /\ (col + 1) + x.n.cnt <= x.col /\ x.col <= (col + 1) + bd d - s) NO.trs NO.cs hP ?_ ?_ ?_ ?_ ?_ ?_ ?_) ?_
     rfl; exact zq1; exact zq30; exact zq0; exact zq15; exact zq14
     · (intro a w r own hSim; simp only [go_sem]; have hb := hSim.blk (n := 0) (t := 65) (cs := [.int .i64 1, .int .i64 (col + 1)]) zm; rw [hX] at hSim; have hc := hM w (r 0) (col + 1) ⟨k, v, an, ⟨#[]⟩, st, l⟩ ka kc F q hb zo zo (GS.ofG hSim hF hgs) (FofG hSim hF) (good_any hgood) hq hPt; simp only [treeC, T.k_mk, T.v_mk, T.an_mk, T.tg_mk, T.st_mk, T.kids_mk] at hc; (with_reducible refine hc.mono fun e w' hr => ?_); exact RetN.weak hr fun k hk => hk.elim)
     rintro ⟨n2, ka2, kc2, col2⟩ ⟨hok2, hkk2, hne2, hlo2, hup2⟩ E2 h1 h2 h3
     simp only at hok2 hkk2 hne2 hlo2 hup2
     refine zz ?_; intro hX hP hA hQ)
  | refine zs8 ?_
 all_goals try first
  | omega | (unfold I64; omega) | (exfalso; assumption)
 all_goals try (intro a w' r own hs')
 all_goals try first
  | contradiction
  | (have h2 := hs'.conc (n := 4) (t := 31) (vals := n2.cells ka2 kc2) (by simp [nodeC, N.cells])
     obtain ⟨own3, h3⟩ := h2.boxN (jb := 2) [⟨1, n2, ka2, kc2⟩] zm (fun y hy => by obtain rfl := List.mem_singleton.1 hy; exact ⟨by dsimp only; decide, List.mem_cons_of_mem _ zw0⟩) (Nat.le_of_ble_eq_true rfl); exact retN_fin1 h3 ⟨.mk 19 15 tg tg false (1 + (col - 1).tmod 200) [n2], some ⟨r 4, 0, none⟩, 1, col2⟩ ⟨ok_tag hc1 hok2 hne2, rfl, (by (try simp only [N.cnt, N.cntl]); omega), (by (try simp only [N.cnt, N.cntl]); omega)⟩ (by simp only [go_sem, ↓reduceIte]; exact zm) (fun r => ⟨_, rfl, CL_va _⟩) zm)
theorem c21_an (d : Nat) (s : Int) (P : T -> Prop) (hM : MkC d s P) (w : World) (g : Nat) (col k st : Int) (v an tg : ByteArray) (ka : Option Addr) (kc : Nat) (l : List T) (F : Nat -> Prop) (q : Prop) (hc1 : 1 <= col) (hg : w.heap[g]? = some (.cells [.int .i64 1, .int .i64 col].toArray 65 (0, 0))) (hk4 : k ≠ 4)
 (hgs : GS w 24 6 F (.slice ka l.length kc) (T.gs l)) (hF : ∀ k, F k -> k < w.heap.size /\ k ≠ g) (hgood : T.good d ⟨k, v, an, tg, st, l⟩) (hq : q -> T.noPlus ⟨k, v, an, tg, st, l⟩) (ha : an ≠ ⟨#[]⟩) (hPt : P ⟨k, v, ⟨#[]⟩, ⟨#[]⟩, st, l⟩) (hc2 : col + 1 + 1 + bd d <= 1000000 + s) (hs3 : s <= 3) :
 Calls Tryz.prog 21 [.pointer (some ⟨g, 0, none⟩), .agg (treeC k v an ⟨#[]⟩ st ka l.length kc).toArray].toArray w
  (RetN NO.res (fun x => x.n.ok q /\ x.n.k = 16 /\ col + x.n.cnt <= x.col /\ x.col <= col + 1 + 1 + bd d - s) NO.trs g 65 NO.cs (fun _ => False) w) := by
 have hh := HpOk_one hg rfl; have hbd := bd_pos d; have hm := modC hc1; have hm2 := modC (c := col + 1) zo
 refine calls_startG 1000 [g] [(0, 65, [.va (.int .i64 1), .va (.int .i64 col)])] [.sc (.pt 0 0), .ag ((treeC k v an ⟨#[]⟩ st ka l.length kc).map .va)] Tryz.func21 rfl ⟨⟨rfl, rfl⟩, ⟨rfl, rfl⟩, trivial⟩ zp hh fun E hX hP hA hQ => ?_
 repeat' first
  | refine zA ?_ | apply zI <;> intro hdec | with_reducible constructor | (refine zr43 ?_; rintro - - E2 h1 h2 h3; refine zz ?_; intro hX hP hA hQ) | (refine zr62 ?_; rintro - - E2 h1 h2 h3; refine zz ?_; intro hX hP hA hQ)
  | (refine zcS 39 (.ag [.va (.int .i64 16), .va (.int .i64 13), .va (.string ⟨#[]⟩), .va (.string ⟨#[38]⟩), .va (.string ⟨#[38]⟩), .va (.string ⟨#[]⟩), .va (.bool false), .va (.bool false), .va (.bool false), .va (.int .i64 1), .va (.int .i64 (1 + (col - 1).tmod 200)), .va (.int .i64 (1 + (col - 1).tmod 200)), .va (.int .i64 0), .va (.int .i64 0), .va (.slice none 0 0), .va (.slice none 0 0), .va (.slice none 0 0), .va (.slice none 0 0), .va (.slice none 0 0)]) ?_ ?_
     · (intro a w r own hSim; simp only [go_sem]; have hc := c39_x w 16 13 ⟨#[38]⟩ 1 (1 + (col - 1).tmod 200) (1 + (col - 1).tmod 200) 0 0 zi; simp only [nodeC, List.map_cons, List.map_nil] at hc; with_reducible exact hc))
  | refine zr80 ?_
  | (with_reducible show WC _ (.region 13 _ _) _ _
     apply WC_drawn 900 sch21_13b [6] [(0, [3, 6])] hP
     exact zq1; exact zq2; exact zq1)
  | (with_reducible show WC _ (.region 15 _ _) _ _
     apply WC_drawn 900 sch21_15b [6] [(0, [3, 6])] hP
     exact zq1; exact zq2; exact zq1)
  | (refine WD_LS 850 ?_ (LS_callM (α := NO) (f := 21) (cs := [.va (.int .i64 1), .va (.int .i64 (col + 1 + 1))]) 0 65 [] NO.res (fun x => x.n.ok q /\ (k = 1 -> keyK x.n.k) /\ x.n.k ≠ 13 /\ (col + 1 + 1) + x.n.cnt <= x.col /\ x.col <= (col + 1 + 1) + bd d - s) NO.trs NO.cs hP ?_ ?_ ?_ ?_ ?_ ?_ ?_) ?_ ?_
     exact zq2; rfl; exact zq1; exact zq30; exact zq0; exact zq15; exact zq14
     · (intro a w r own hSim; simp only [go_sem]; have hb := hSim.blk (n := 0) (t := 65) (cs := [.int .i64 1, .int .i64 (col + 1 + 1)]) zm; rw [hX] at hSim; have hc := hM w (r 0) (col + 1 + 1) ⟨k, v, ⟨#[]⟩, ⟨#[]⟩, st, l⟩ ka kc F q hb zo zo (GS.ofG hSim hF hgs) (FofG hSim hF) (good_any hgood) hq hPt; simp only [treeC, T.k_mk, T.v_mk, T.an_mk, T.tg_mk, T.st_mk, T.kids_mk] at hc; (with_reducible refine hc.mono fun e w' hr => ?_); exact RetN.weak hr fun k hk => hk.elim)
     exact zq31; rintro ⟨n2, ka2, kc2, col2⟩ ⟨hok2, hkk2, hne2, hlo2, hup2⟩ E2 h1 h2 h3
     simp only at hok2 hkk2 hne2 hlo2 hup2
     refine zz ?_; intro hX hP hA hQ)
  | refine zs8 ?_
 all_goals try first
  | omega | (unfold I64; omega) | (exfalso; assumption)
 all_goals try (intro a w' r own hs')
 all_goals try first
  | contradiction
  | (have h2 := hs'.conc (n := 5) (t := 31) (vals := nodeC 8 31 an an an ⟨#[]⟩ false false false 1 (1 + (col + 1 - 1).tmod 200) (1 + (col + 1 - 1).tmod 200) 0 0 none 0 0 ++ n2.cells ka2 kc2) (by simp [nodeC, N.cells])
     obtain ⟨own3, h3⟩ := h2.box (jb := 3) (e := 31) (size := 19) [(none, nvals 8 31 an an false (1 + (col + 1 - 1).tmod 200), .slice none 0 0, []), (⟨2, n2, ka2, kc2⟩ : Nz).nw] (by rw [List.map_cons, List.map_cons, Nz.cells_nw]; exact zm) (fun y hy => by
      rcases List.mem_cons.1 hy with rfl | hy
      · exact ⟨rfl, rfl⟩
      · obtain rfl := List.mem_singleton.1 hy; exact ⟨rfl, (by decide : (2 : Nat) ≠ 3), List.mem_cons_of_mem _ zw0⟩) (Nat.le_of_ble_eq_true rfl)
     rw [List.map_cons, List.map_cons, nw_of] at h3; exact retN_fin1 h3 ⟨.mk 16 13 an ⟨#[38]⟩ false (1 + (col - 1).tmod 200) [.mk 8 31 an an false (1 + (col + 1 - 1).tmod 200) [], n2], some ⟨r 5, 0, none⟩, 2, col2⟩ ⟨ok_anchor hc1 zo hok2 hne2, rfl, (by (try simp only [N.cnt, N.cntl]); omega), (by (try simp only [N.cnt, N.cntl]); omega)⟩ (by simp only [go_sem, ↓reduceIte]; exact zm) (fun r => ⟨_, rfl, CL_va _⟩) zm)
theorem c21_sc (w : World) (g : Nat) (col st : Int) (v : ByteArray) (ka : Option Addr) (kn kc : Nat) (q : Prop) (hv : v.size <= 1048576) (hgs : goodS v st) (hc1 : 1 <= col) (hc2 : col <= 1000000) (hg : w.heap[g]? = some (.cells [.int .i64 1, .int .i64 col].toArray 65 (0, 0))) (hq : q -> st = 1 -> bt v 0 ≠ 43) :
 Calls Tryz.prog 21 [.pointer (some ⟨g, 0, none⟩), .agg (treeC 1 v ⟨#[]⟩ ⟨#[]⟩ st ka kn kc).toArray].toArray w (RetN NO.res (fun x => x.n.ok q /\ keyK x.n.k /\ col + x.n.cnt <= x.col /\ x.col <= col + 2) NO.trs g 65 NO.cs (fun _ => False) w) := by
 have hh := HpOk_one hg rfl
 refine calls_startG 1000 [g] [(0, 65, [.va (.int .i64 1), .va (.int .i64 col)])] [.sc (.pt 0 0), .ag ((treeC 1 v ⟨#[]⟩ ⟨#[]⟩ st ka kn kc).map .va)] Tryz.func21 rfl ⟨⟨rfl, rfl⟩, ⟨rfl, rfl⟩, trivial⟩ zp hh fun E hX hP hA hQ => ?_
 repeat' first
  | refine zA ?_ | apply zI <;> intro hdec | with_reducible constructor
  | (refine WO_LS 850 (LS_callM (α := NO) (f := 41) (cs := [.va (.int .i64 1), .va (.int .i64 col)]) 0 65 [] NO.res (fun x => x.n.ok q /\ keyK x.n.k /\ col + x.n.cnt <= x.col /\ x.col <= col + 2) NO.trs NO.cs hP ?_ ?_ ?_ ?_ ?_ ?_ ?_) ?_
     rfl; exact zq1; exact zq30; exact zq0; exact zq15; exact zq14
     · (intro a w r own hSim; simp only [go_sem]; have hb := hSim.blk (n := 0) (t := 65) (cs := [.int .i64 1, .int .i64 col]) zm; rw [hX] at hSim; have hc := c41 w (r 0) col st v ⟨#[]⟩ ⟨#[]⟩ ka kn kc q hv hgs hc1 hc2 hb hq; simp only [treeC] at hc; (with_reducible refine hc.mono fun e w' hr => ?_); exact RetN.weak hr fun k hk => hk.elim)
     rintro ⟨n2, ka2, kc2, col2⟩ hx E2 h1 h2 h3
     simp only at hx
     refine zz ?_; intro hX hP hA hQ)
  | refine zs8 ?_
 all_goals try first
  | omega | (unfold I64; omega) | (exfalso; assumption)
 all_goals try (intro a w' r own hs')
 all_goals try first
  | exact zr75
theorem c21_co2 (d : Nat) (hN : MkC d 0 (fun _ => True)) (w : World) (g : Nat) (col st : Int) (v : ByteArray) (ka : Option Addr) (kc : Nat) (l : List T) (F : Nat -> Prop) (q : Prop) (hc1 : 1 <= col) (hc2 : col + 10 * bd d <= 1000003) (hg : w.heap[g]? = some (.cells [.int .i64 1, .int .i64 col].toArray 65 (0, 0)))
 (hgs : GS w 24 6 F (.slice ka l.length kc) (T.gs l)) (hF : ∀ k, F k -> k < w.heap.size /\ k ≠ g) (hl6 : l.length <= 6) (hgood : ∀ t ∈ l, T.good d t) (hq : q -> T.noPlus.pls l) :
 Calls Tryz.prog 21 [.pointer (some ⟨g, 0, none⟩), .agg (treeC 2 v ⟨#[]⟩ ⟨#[]⟩ st ka l.length kc).toArray].toArray w (RetN NO.res (fun x => x.n.ok q /\ x.n.k ≠ 13 /\ col + x.n.cnt <= x.col /\ x.col <= col + 1 + 6 * bd d) NO.trs g 65 NO.cs (fun _ => False) w) := by
 have hh := HpOk_one hg rfl
 refine calls_startG 1000 [g] [(0, 65, [.va (.int .i64 1), .va (.int .i64 col)])] [.sc (.pt 0 0), .ag ((treeC 2 v ⟨#[]⟩ ⟨#[]⟩ st ka l.length kc).map .va)] Tryz.func21 rfl ⟨⟨rfl, rfl⟩, ⟨rfl, rfl⟩, trivial⟩ zp hh fun E hX hP hA hQ => ?_
 repeat' first
  | refine zA ?_ | apply zI <;> intro hdec | with_reducible constructor
  | (refine WO_LS 850 (LS_callM (α := NO) (f := 42) (cs := [.va (.int .i64 1), .va (.int .i64 col)]) 0 65 [] NO.res (fun x => x.n.ok q /\ x.n.k ≠ 13 /\ col + x.n.cnt <= x.col /\ x.col <= col + 1 + 6 * bd d) NO.trs NO.cs hP ?_ ?_ ?_ ?_ ?_ ?_ ?_) ?_
     rfl; exact zq1; exact zq30; exact zq0; exact zq15; exact zq14
     · (intro a w r own hSim; simp only [go_sem]; have hb := hSim.blk (n := 0) (t := 65) (cs := [.int .i64 1, .int .i64 col]) zm; rw [hX] at hSim; have hc := c42_2 d hN w (r 0) col st v ⟨#[]⟩ ⟨#[]⟩ ka kc l F q hc1 hc2 hb (GS.ofG hSim hF hgs) (FofG hSim hF) hl6 hgood hq; simp only [treeC] at hc; (with_reducible refine hc.mono fun e w' hr => ?_); exact RetN.weak hr fun k hk => hk.elim)
     rintro ⟨n2, ka2, kc2, col2⟩ hx E2 h1 h2 h3
     simp only at hx
     refine zz ?_; intro hX hP hA hQ)
  | refine zs8 ?_
 all_goals try first
  | omega | (unfold I64; omega) | (exfalso; assumption)
 all_goals try (intro a w' r own hs')
 all_goals try first
  | exact zr75
theorem c21_co3 (d : Nat) (hN : MkC d 0 (fun _ => True)) (w : World) (g : Nat) (col st : Int) (v : ByteArray) (ka : Option Addr) (kc : Nat) (l : List T) (F : Nat -> Prop) (q : Prop) (hc1 : 1 <= col) (hc2 : col + 10 * bd d <= 1000003) (hg : w.heap[g]? = some (.cells [.int .i64 1, .int .i64 col].toArray 65 (0, 0)))
 (hgs : GS w 24 6 F (.slice ka l.length kc) (T.gs l)) (hF : ∀ k, F k -> k < w.heap.size /\ k ≠ g) (hl6 : l.length <= 6) (hgood : ∀ t ∈ l, T.good d t) (hq : q -> T.noPlus.pls l) (hev : l.length % 2 = 0) (hkey : ∀ i t, l[2 * i]? = some t -> t.k = 1) :
 Calls Tryz.prog 21 [.pointer (some ⟨g, 0, none⟩), .agg (treeC 3 v ⟨#[]⟩ ⟨#[]⟩ st ka l.length kc).toArray].toArray w (RetN NO.res (fun x => x.n.ok q /\ x.n.k ≠ 13 /\ col + x.n.cnt <= x.col /\ x.col <= col + 4 + 6 * bd d) NO.trs g 65 NO.cs (fun _ => False) w) := by
 have hh := HpOk_one hg rfl
 refine calls_startG 1000 [g] [(0, 65, [.va (.int .i64 1), .va (.int .i64 col)])] [.sc (.pt 0 0), .ag ((treeC 3 v ⟨#[]⟩ ⟨#[]⟩ st ka l.length kc).map .va)] Tryz.func21 rfl ⟨⟨rfl, rfl⟩, ⟨rfl, rfl⟩, trivial⟩ zp hh fun E hX hP hA hQ => ?_
 repeat' first
  | refine zA ?_ | apply zI <;> intro hdec | with_reducible constructor
  | (refine WO_LS 850 (LS_callM (α := NO) (f := 42) (cs := [.va (.int .i64 1), .va (.int .i64 col)]) 0 65 [] NO.res (fun x => x.n.ok q /\ x.n.k ≠ 13 /\ col + x.n.cnt <= x.col /\ x.col <= col + 4 + 6 * bd d) NO.trs NO.cs hP ?_ ?_ ?_ ?_ ?_ ?_ ?_) ?_
     rfl; exact zq1; exact zq30; exact zq0; exact zq15; exact zq14
     · (intro a w r own hSim; simp only [go_sem]; have hb := hSim.blk (n := 0) (t := 65) (cs := [.int .i64 1, .int .i64 col]) zm; rw [hX] at hSim; have hc := c42_3 d hN w (r 0) col st v ⟨#[]⟩ ⟨#[]⟩ ka kc l F q hc1 hc2 hb (GS.ofG hSim hF hgs) (FofG hSim hF) hl6 hgood hq hev hkey; simp only [treeC] at hc; (with_reducible refine hc.mono fun e w' hr => ?_); exact RetN.weak hr fun k hk => hk.elim)
     rintro ⟨n2, ka2, kc2, col2⟩ hx E2 h1 h2 h3
     simp only at hx
     refine zz ?_; intro hX hP hA hQ)
  | refine zs8 ?_
 all_goals try first
  | omega | (unfold I64; omega) | (exfalso; assumption)
 all_goals try (intro a w' r own hs')
 all_goals try first
  | exact zr75
theorem mk_base (d : Nat) (hN : MkC d 0 (fun _ => True)) : MkC (d + 1) 3 (fun t => t.k = 4 \/ (t.tg = ⟨#[]⟩ /\ t.an = ⟨#[]⟩)) := by
 intro w g col t ka kc F q hg hc1 hc2 hgs hF hgood hq hP; obtain ⟨k, v, an, tg, st, l⟩ := t; have hbd := bd_pos d; simp only [bd, T.k_mk, T.v_mk, T.an_mk, T.tg_mk, T.st_mk, T.kids_mk] at *
 by_cases h4 : k = 4
 · subst h4
   refine (c21_al w g col st v an tg ka l.length kc q hc1 zo hg).mono fun e w' hr => ?_
   obtain ⟨x, ⟨h1, h2, h3, h5⟩, h6⟩ := hr; exact ⟨x, ⟨h1, fun h => absurd h zi, by rw [h2]; decide, h3, zo⟩, h6⟩
 · obtain ⟨rfl, rfl⟩ := hP.resolve_left h4
   rcases hgood with ⟨h, _⟩ | ⟨h, hl, hs⟩ | ⟨h, hl6, hev, hall⟩
   · exact absurd h h4
   · subst h
     refine (c21_sc w g col st v ka l.length kc q (by have := hs.2.2.1; omega) hs hc1 zo hg (fun hq' hst => (hq hq').1 rfl hst)).mono fun e w' hr => ?_
     obtain ⟨x, ⟨h1, h2, h3, h5⟩, h6⟩ := hr; exact ⟨x, ⟨h1, fun _ => h2, h2.2.1, h3, zo⟩, h6⟩
   · rcases h with rfl | rfl
     · refine (c21_co2 d hN w g col st v ka kc l F q hc1 zo hg hgs hF hl6 hall (fun hq' => (hq hq').2)).mono fun e w' hr => ?_
       obtain ⟨x, ⟨h1, h2, h3, h5⟩, h6⟩ := hr; exact ⟨x, ⟨h1, fun h => absurd h zi, h2, h3, zo⟩, h6⟩
     · refine (c21_co3 d hN w g col st v ka kc l F q hc1 zo hg hgs hF hl6 hall (fun hq' => (hq hq').2) (hev rfl).1 (hev rfl).2).mono fun e w' hr => ?_
       obtain ⟨x, ⟨h1, h2, h3, h5⟩, h6⟩ := hr; exact ⟨x, ⟨h1, fun h => absurd h zi, h2, h3, zo⟩, h6⟩
theorem mk_an (d : Nat) (hB : MkC (d + 1) 3 (fun t => t.k = 4 \/ (t.tg = ⟨#[]⟩ /\ t.an = ⟨#[]⟩))) : MkC (d + 1) 1 (fun t => t.k = 4 \/ t.tg = ⟨#[]⟩) := by
 intro w g col t ka kc F q hg hc1 hc2 hgs hF hgood hq hP
 by_cases h : t.k = 4 \/ (t.tg = ⟨#[]⟩ /\ t.an = ⟨#[]⟩)
 · refine (hB w g col t ka kc F q hg hc1 zo hgs hF hgood hq h).mono fun e w' hr => ?_
   obtain ⟨x, ⟨h1, h2, h3, h4, h5⟩, h6⟩ := hr; exact ⟨x, ⟨h1, h2, h3, h4, zo⟩, h6⟩
 · obtain ⟨k, v, an, tg, st, l⟩ := t
   have hbd := bd_pos d; simp only [T.k_mk, T.v_mk, T.an_mk, T.tg_mk, T.st_mk, T.kids_mk] at *; have h4 : k ≠ 4 := fun e => h (.inl e); obtain rfl := hP.resolve_left h4; have ha : an ≠ ⟨#[]⟩ := fun e => h (.inr ⟨rfl, e⟩)
   refine (c21_an (d + 1) 3 _ hB w g col k st v an ⟨#[]⟩ ka kc l F q hc1 hg h4 hgs hF hgood hq ha (.inr ⟨rfl, rfl⟩) zo zi).mono fun e w' hr => ?_
   obtain ⟨x, ⟨h1, h2, h3, h5⟩, h6⟩ := hr; exact ⟨x, ⟨h1, fun _ => by rw [h2]; unfold keyK; decide, by rw [h2]; decide, h3, zo⟩, h6⟩
theorem mk_all (d : Nat) (hA : MkC (d + 1) 1 (fun t => t.k = 4 \/ t.tg = ⟨#[]⟩)) : MkC (d + 1) 0 (fun _ => True) := by
 intro w g col t ka kc F q hg hc1 hc2 hgs hF hgood hq hP
 by_cases h : t.k = 4 \/ t.tg = ⟨#[]⟩
 · refine (hA w g col t ka kc F q hg hc1 zo hgs hF hgood hq h).mono fun e w' hr => ?_
   obtain ⟨x, ⟨h1, h2, h3, h4, h5⟩, h6⟩ := hr; exact ⟨x, ⟨h1, h2, h3, h4, zo⟩, h6⟩
 · obtain ⟨k, v, an, tg, st, l⟩ := t
   have hbd := bd_pos d; simp only [T.k_mk, T.v_mk, T.an_mk, T.tg_mk, T.st_mk, T.kids_mk] at *; have h4 : k ≠ 4 := fun e => h (.inl e); have ht : tg ≠ ⟨#[]⟩ := fun e => h (.inr e)
   refine (c21_tag (d + 1) 1 _ hA w g col k st v an tg ka kc l F q hc1 hg h4 hgs hF hgood hq ht (.inr rfl) zo zi).mono fun e w' hr => ?_
   obtain ⟨x, ⟨h1, h2, h3, h5⟩, h6⟩ := hr; exact ⟨x, ⟨h1, fun _ => by rw [h2]; unfold keyK; decide, by rw [h2]; decide, h3, zo⟩, h6⟩
theorem mk_zero : MkC 0 0 (fun _ => True) := fun w g col t ka kc F q hg hc1 hc2 hgs hF hgood => hgood.elim
theorem mkC_all : ∀ d, MkC d 0 (fun _ => True)
 | 0 => mk_zero
 | d + 1 => mk_all d (mk_an d (mk_base d (mkC_all d)))
theorem ret1_fin1 {α : Type} {P : Program} {w0 : World} {rt : List (Nat × Nat)} {S : St} {A : Facts} {a : Act} {w : World} {r : Nat -> Nat} {own : Nat -> Option Ent} (hs : Sim ⟨P, w0, fun _ => False, [], rt⟩ S A a w r own) {res : α -> SV} {φ : α -> Prop} {B : α -> Asn}
 (x : α) (hx : φ x) {u : Value} (hu : ∀ r, (res x).ok r u) {j : Nat} (hj : (j, B x) ∈ A) : Ret1 res φ B w0 (.returned u) w :=
 ⟨x, hx, ⟨u, rfl, hu⟩, hs.frm, fun k => own k = some (.fa j), fun k hk => ⟨(hs.bnd k _ hk).2.elim id False.elim, (hs.bnd k _ hk).1⟩, (hs.fact j _ hj).2⟩
theorem GS.of0 {w0 : World} {F : Nat -> Prop} {rt : List (Nat × Nat)} {S : St} {A : Facts} {a : Act} {w : World} {r : Nat -> Nat} {own : Nat -> Option Ent} (hs : Sim ⟨Tryz.prog, w0, fun _ => False, [], rt⟩ S A a w r own)
 (hfm : ∀ k, F k -> k < w0.heap.size) {e size : Nat} {v : Value} {l : List G} (h : GS w0 e size F v l) : GS w e size F v l :=
 h.ext (fun _ h => h) fun k hk => hs.frm.block k (hfm k hk) (fun h => h)
theorem Fof0 {w0 : World} {F : Nat -> Prop} {rt : List (Nat × Nat)} {S : St} {A : Facts} {a : Act} {w : World} {r : Nat -> Nat} {own : Nat -> Option Ent} (hs : Sim ⟨Tryz.prog, w0, fun _ => False, [], rt⟩ S A a w r own)
 (hfm : ∀ k, F k -> k < w0.heap.size) {n t : Nat} {cs : List Cl} (hm : (n, t, cs) ∈ S.h) : ∀ k, F k -> k < w.heap.size /\ k ≠ r n := fun k hk => by
 have hon := (hs.heap n t cs hm).2.2.1; have h1 := (hs.bnd _ _ hon).2.elim id False.elim; have h2 := hfm k hk; exact ⟨Nat.lt_of_lt_of_le h2 hs.frm.size, by have : w0.heap.size <= r n := h1; omega⟩
theorem c11 (w : World) (t : T) (ka : Option Addr) (kc : Nat) (F : Nat -> Prop) (q : Prop) (hgs : GS w 24 6 F (.slice ka t.kids.length kc) (T.gs t.kids)) (hF : ∀ k, F k -> k < w.heap.size) (hgood : t.good 5) (hq : q -> t.noPlus) :
 Calls Tryz.prog 11 [.agg (treeC t.k t.v t.an t.tg t.st ka t.kids.length kc).toArray, .int .i64 1, .int .i64 1].toArray w (Ret1 NO.res (fun x => x.n.ok q /\ x.n.k ≠ 13 /\ x.n.cnt <= 200000) NO.trs w) := by
 refine calls_start 1000 Tryz.func11 rfl fun E hX hP hA hQ => ?_
 repeat' first
  | refine zA ?_ | apply zI <;> intro hdec | with_reducible constructor
  | (refine WO_LS 850 (LS_callM (α := NO) (f := 21) (cs := [.va (.int .i64 1), .va (.int .i64 1)]) 2 65 [] NO.res (fun x => x.n.ok q /\ x.n.k ≠ 13 /\ x.n.cnt <= 200000) NO.trs NO.cs hP ?_ ?_ ?_ ?_ ?_ ?_ ?_) ?_
     rfl; exact zq1; exact zq30; exact zq0; exact List.mem_cons_of_mem _ zmb; exact zq14
     · (intro a w r own hSim; simp only [go_sem]; have hb := hSim.blk (n := 2) (t := 65) (cs := [.int .i64 1, .int .i64 1]) (List.mem_cons_of_mem _ zmb); rw [hX] at hSim; have hc := mkC_all 5 w (r 2) 1 t ka kc F q hb zi zi (GS.of0 hSim hF hgs) (Fof0 hSim hF (List.mem_cons_of_mem _ zmb)) hgood hq True.intro; simp only [treeC] at hc; (with_reducible refine hc.mono fun e w' hr => ?_); obtain ⟨y, ⟨h1, _, h3, h4, h5⟩, h6⟩ := RetN.weak (M' := fun k => ∃ j ∈ ([] : List Nat), own k = some (.fa j)) hr (fun k hk => hk.elim); exact ⟨y, ⟨h1, h3, by simp only [bd] at h5; omega⟩, h6⟩)
     rintro ⟨n2, ka2, kc2, col2⟩ hx E2 h1 h2 h3
     simp only at hx
     refine zz ?_; intro hX hP hA hQ)
  | refine zs8 ?_
 all_goals try (intro a w' r own hs')
 all_goals try first
  | exact ret1_fin1 hs' ⟨n2, ka2, kc2, col2⟩ hx (fun r => ⟨_, rfl, CL_va _⟩) zw0
end
section
attribute [local irreducible] leT leH WO WX WC WD
def sch5_2b : Sch := tkS [0] <| .two 1 (.two 2 (.one 3 <| .one 4 <| .done) 3 (.one 2 <| .one 4 <| .done)) 2 (.one 1 <| .one 3 <| .one 4 <| .done)
attribute [go_sem] sch5_2b
theorem rowSome {e size n c : Nat} {a : Option Addr} {xs : List Value} {w : World} {F : Nat -> Prop} (h : (Row e size (.slice a n c) n xs).P w F) (hn : 0 < n) : a.isSome = true := by
 obtain ⟨⟨_, h2⟩, _, _⟩ := h
 rcases h2 with ⟨_, rfl⟩ | ⟨g, cap, cur, e1, _⟩
 · exact absurd hn (Nat.lt_irrefl _)
 · cases e1; rfl
theorem rowCells {e size n c : Nat} {A : Addr} {xs : List Value} {w : World} {F : Nat -> Prop} (h : (Row e size (.slice (some A) n c) n xs).P w F) : ∀ j u, xs[j]? = some u -> w.cell? (A.add j) = some u := fun j u hj => by
 obtain ⟨⟨h1, h2⟩, _, _⟩ := h
 rcases h2 with ⟨e1, _⟩ | ⟨g, cap, cur, e1, _, hg, _, _, hs, htk⟩
 · cases e1
 · cases e1
   rw [addr_add]; simp only [World.cell?, hg]; rw [<- htk, List.getElem?_take] at hj
   split at hj
   · simpa using hj
   · cases hj
theorem c10' (w : World) (ad : Addr) (k st : Int) (v an tg : ByteArray) (ka : Option Addr) (kn kc : Nat) (FI : Nat -> Prop) (hc : ∀ j u, (treeC k v an tg st ka kn kc ++ docR false false false)[j]? = some u -> w.cell? (ad.add j) = some u)
 (hI : InT 4 w FI ka kn) (hFI : ∀ k, FI k -> k < w.heap.size) (hv : v.size <= 1048576) (han : an.size <= 1048576) (htg : tg.size <= 1048576) :
 Calls Tryz.prog 10 [.slice (some ad) 1 1, .int .i64 63].toArray w (Ret1 DO.res (fun x => x.t.good 5 /\ x.a.isSome = true) (fun x => Asn.sep x.row x.trs) w) := by
 refine (c10 w ad k st v an tg ka kn kc FI hc hI hFI hv han htg).mono fun e w' hr => ?_
 obtain ⟨x, hx, h2, h3, F, hF, F1, F2, h4, h5, h6, h7⟩ := hr; exact ⟨x, ⟨hx, rowSome h6 zi⟩, h2, h3, F, hF, F1, F2, h4, h5, h6, h7⟩
section
variable {E : En} {S : St} {α : Type} {φ : α -> Prop} {c : Call} {dst : Option Tmp} {ty : TypeId} {pos : String} {after : Array Edge} {guard : Option (Nat × Bool)}
theorem LS_call2 {f : FuncId} {P : Program} (res : α -> SV) (φ : α -> Prop) (B1 B2 : α -> Asn) (hP : E.X.P = P) (hc : c.callee = .value (.func f)) (hf : callable P f = true) (hl : ∀ x, (res x).lt 0)
 (hk : (c.args.toList.all fun x => (ev S x).known) = true)
 (hcall : ∀ a w r own, Sim E.X S E.A a w r own -> Calls P f ((c.args.toList.map fun x => (ev S x).den r).toArray) w (Ret1 res φ (fun x => Asn.sep (B1 x) (B2 x)) w)) :
 LS E S ⟨dst, .call c, ty, pos, after, guard⟩ [] φ (fun x => { S.putM dst (res x) with m := S.m + 3 }) (fun x => (S.m + 2, B2 x) :: (S.m + 1, B1 x) :: outF [S.m] ((S.m, Asn.sep (B1 x) (B2 x)) :: E.A)) := by
 refine LS.then (LS_call1 res φ (fun x => Asn.sep (B1 x) (B2 x)) hP hc hf hl hk hcall) _ _ (fun _ => rfl) (fun _ => rfl) fun x a w r own hs => ?_
 obtain ⟨own', h2⟩ := hs.split (j := S.m) zm
 have hm' : (S.putM dst (res x)).m = S.m + 1 := by cases dst <;> rfl
 rw [hm'] at h2; exact ⟨own', h2⟩
end
section
attribute [local irreducible] LS WS
theorem tu2_ok {r : Nat -> Nat} {l1 l2 : List Value} : (SV.tu [.ag (l1.map .va), .ag (l2.map .va)]).ok r (.tuple #[.agg l1.toArray, .agg l2.toArray]) :=
 ⟨[.agg l1.toArray, .agg l2.toArray], rfl, rfl, fun i t ht => by
  match i with
  | 0 => simp only [List.getElem?_cons_zero, Option.some.injEq] at ht; subst ht; exact ⟨l1, rfl, CL_va l1⟩
  | 1 => simp only [List.getElem?_cons_succ, List.getElem?_cons_zero, Option.some.injEq] at ht; subst ht; exact ⟨l2, rfl, CL_va l2⟩
  | i + 2 => simp at ht⟩
theorem c5 (w : World) (k st : Int) (v an tg : ByteArray) (ka : Option Addr) (kn kc : Nat) (FI : Nat -> Prop)
 (hI : InT 4 w FI ka kn) (hFI : ∀ k, FI k -> k < w.heap.size) (hv : v.size <= 1048576) (han : an.size <= 1048576) (htg : tg.size <= 1048576) :
 Calls Tryz.prog 5 [.agg (treeC k v an tg st ka kn kc).toArray, .int .i64 63].toArray w (Ret1 (fun x : NO × DO => .tu [.ag ((x.1.n.cells x.1.ka x.1.kc).map .va), .ag ((treeC x.2.t.k x.2.t.v x.2.t.an x.2.t.tg x.2.t.st x.2.ka x.2.t.kids.length x.2.kc).map .va)]) (fun x : NO × DO => x.2.t.good 5 /\ x.1.n.ok x.2.t.noPlus /\ x.1.n.k ≠ 13 /\ x.1.n.cnt <= 200000) (fun x => Asn.sep x.1.trs x.2.trs) w) := by
 refine calls_start 1000 Tryz.func5 rfl fun E hX hP hA hQ => ?_
 repeat' first
  | refine zA ?_ | apply zI <;> intro hdec | with_reducible constructor
  | (refine WO_LS 850 (LS_call2 (α := DO) (f := 10) DO.res (fun x => x.t.good 5 /\ x.a.isSome = true) DO.row DO.trs hP ?_ ?_ ?_ ?_ ?_) ?_
     rfl; exact zq1; exact zq9; exact zq0
     · (intro a w r own hSim; simp only [go_sem]; have hb := hSim.blk (n := 3) (t := 44) (cs := treeC k v an tg st ka kn kc ++ docR false false false) (List.mem_cons_of_mem _ (List.mem_cons_of_mem _ zmb)); rw [hX] at hSim; have hc := c10' w ⟨r 3, 0, none⟩ k st v an tg ka kn kc FI (fun j u hj => by rw [addr_add, cell_at hb]; simpa using hj) (InT.of0 hSim hFI hI) (fun k hk => Nat.lt_of_lt_of_le (hFI k hk) hSim.frm.size) hv han htg; (with_reducible refine hc.mono fun e w' hr => ?_); exact hr)
     rintro ⟨t5, ka5, kc5, a5, cp5⟩ ⟨hg5, ha5⟩ E2 h1 h2 h3
     simp only at hg5 ha5
     obtain ⟨A5, rfl⟩ := Option.isSome_iff_exists.1 ha5; refine zz ?_; intro hX hP hA hQ)
  | (refine WO_LE 850 (LS_rcell A5 (treeC t5.k t5.v t5.an t5.tg t5.st ka5 t5.kids.length kc5) true hP ?_ ?_ ?_ (fun h => by cases h)) ?_
     · simp only [go_sem, Int.toNat_zero, Nat.zero_mul, add0]
     · (intro a w r own hSim j u hj; exact rowCells (hSim.fact 1 _ zw1).2 j u (by rw [docC, List.getElem?_append_left (List.getElem?_eq_some_iff.1 hj).1]; exact hj))
     exact sz24; intro _ _)
  | (refine WD_LS 850 ?_ (LS_call1 (α := NO) (f := 11) NO.res (fun x => x.n.ok t5.noPlus /\ x.n.k ≠ 13 /\ x.n.cnt <= 200000) NO.trs hP ?_ ?_ ?_ ?_ ?_) ?_ ?_
     exact zq2; rfl; exact zq1; exact zq30; exact zq0
     · (intro a w r own hSim; simp only [go_sem]; have hf := (hSim.fact 2 _ zw0).2; have hc := c11 w t5 ka5 kc5 _ t5.noPlus hf (fun k hk => (hSim.bnd k _ hk).1) hg5 (fun h => h); simp only [treeC] at hc; (with_reducible refine hc.mono fun e w' hr => ?_); exact hr)
     exact zq16; rintro ⟨n6, ka6, kc6, col6⟩ ⟨hok6, hne6, hcn6⟩ E2 h1 h2 h3
     simp only at hok6 hne6 hcn6
     refine zz ?_; intro hX hP hA hQ)
  | refine zu 2 sch5_2b [3, 4] ?_
  | (refine WD_q (C := True) (sv := .ag [.va (.int .i64 t5.k), .va (.string t5.v), .va (.string t5.an), .va (.string t5.tg), .va (.int .i64 t5.st), .va (.slice ka5 t5.kids.length kc5)]) 850 ?_ ?_ True.intro ?_; exact zq2; exact zq46)
  | simp (maxSteps := 20000000) only [Tryz.f5, go_sem, zL, ↓reduceIte, reduceCtorEq, Nat.reduceAdd, Nat.reduceMul, Nat.reduceSub, Nat.reduceLeDiff, Nat.reduceEqDiff, Nat.reduceLT, Nat.reduceBEq, Int.reduceEq, hP, hX, DO.res, treeC, docR, nodeC, Int.toNat_zero, Nat.zero_mul, add0]
 all_goals try first
  | omega | rfl
  | (intro a w' r own hs'
     exact ret1_fin2 hs' (⟨n6, ka6, kc6, col6⟩, ⟨t5, ka5, kc5, some A5, cp5⟩) ⟨hg5, hok6, hne6, hcn6⟩ (fun r => tu2_ok) (j1 := 3) (j2 := 2) zw0 zw1 zi)
end
def FnA (g t n : Nat) (f : Nat -> Value) : Asn where
 P w F := (∀ k, F k ↔ k = g) /\ ∃ ds : List Value, w.heap[g]? = some (.cells ds.toArray t (0, 0)) /\ ds.length = n /\ ∀ i, i < n -> ds[i]? = some (f i)
 loc := fun {w w' F} hw h => ⟨h.1, by rw [hw g ((h.1 g).2 rfl)]; exact h.2⟩
def updF (f : Nat -> Value) (q : Nat) (v : Value) : Nat -> Value := fun i => if i = q then v else f i
theorem FnA.own {g t n : Nat} {f : Nat -> Value} {X : Cx} {S : St} {A : Facts} {a : Act} {w : World} {r : Nat -> Nat} {own : Nat -> Option Ent} (hs : Sim X S A a w r own) {j : Nat} (hj : (j, FnA g t n f) ∈ A) (k : Nat) : own k = some (.fa j) ↔ k = g := (hs.fact j _ hj).2.1 k
theorem FnA.mem {g t n : Nat} {f : Nat -> Value} {w : World} {F : Nat -> Prop} (h : (FnA g t n f).P w F) : (FnA g t n f).P w (fun k => k = g) := ⟨fun _ => Iff.rfl, h.2⟩
theorem FnA.congr {g t n : Nat} {f f' : Nat -> Value} {w : World} {F : Nat -> Prop} (h : (FnA g t n f).P w F) (hf : ∀ i, i < n -> f i = f' i) : (FnA g t n f').P w F := by
 obtain ⟨h1, ds, h2, h3, h4⟩ := h; exact ⟨h1, ds, h2, h3, fun i hi => by rw [h4 i hi, hf i hi]⟩
section
variable {E : En} {S : St} {α : Type} {φ : α -> Prop} {c : Call} {dst : Option Tmp} {ty : TypeId} {pos : String} {after : Array Edge} {guard : Option (Nat × Bool)} {o : Oper} {P : Program}
theorem FnA.cell {g t n : Nat} {f : Nat -> Value} {w : World} {F : Nat -> Prop} (h : (FnA g t n f).P w F) {q : Nat} (hq : q < n) : w.cell? ⟨g, q, none⟩ = some (f q) := by
 obtain ⟨_, ds, h2, h3, h4⟩ := h; simp only [World.cell?, h2]
 simpa using h4 q hq
theorem LS_fload {t : TypeId} {x : Operand} (g t' n : Nat) (f : Nat -> Value) (j q : Nat) (v : Value) (hP : E.X.P = P) (hx : ev S x = .sc (.va (.pointer (some ⟨g, q, none⟩)))) (hj : (j, FnA g t' n f) ∈ E.A) (hq : q < n) (hv : f q = v) (hsz : szT P t = some (1, false)) :
 LS E S ⟨dst, .load t x, ty, pos, after, guard⟩ [] (fun _ : Unit => True) (fun _ => S.put dst (.sc (.va v))) (fun _ => E.A) :=
 LS_rcell (P := P) ⟨g, q, none⟩ [v] false hP hx (fun a w r own hs => one_cell (by rw [FnA.cell (hs.fact j _ hj).2 hq, hv])) hsz (fun _ => rfl)
theorem LS_fstore {t : TypeId} {x y : Operand} (g t' n : Nat) (f : Nat -> Value) (j q : Nat) (v : Value) (hP : E.X.P = P) (hx : ev S x = .sc (.va (.pointer (some ⟨g, q, none⟩)))) (hy : ev S y = .sc (.va v)) (hv1 : v.oneCell' = true) (hj : (j, FnA g t' n f) ∈ E.A) (hq : q < n) (hsz : szT P t = some (1, false)) :
 LS E S ⟨dst, .store t x y, ty, pos, after, guard⟩ [] (fun _ : Unit => True) (fun _ => S.putM dst undefSV) (fun _ => (S.m, FnA g t' n (updF f q v)) :: outF [j] E.A) := by
 intro a w r own hs K Q hK; subst hP; obtain ⟨h1, ds, h2, h3, h4⟩ := (hs.fact j _ hj).2; have hxe := va_of (hx ▸ (ev_ok hs.toR x).1); have hye := va_of (hy ▸ (ev_ok hs.toR y).1); have hlt : g < w.heap.size := (Array.getElem?_eq_some_iff.1 h2).1; have hcells : v.cells = #[v] := cells_one hv1
 have hst := run_storeCells_cells (P := E.X.P) g q [v] 0 w (fun i hi => by
  obtain rfl : i = 0 := by simpa using hi
  simp only [World.cell?, h2]
  simp [h3, hq]) (fun i hi => by
  obtain rfl : i = 0 := by simpa using hi
  simp [World.frozen?, h2]) (by simp [hv1])
 simp only [World.setCells, Nat.add_zero] at hst
 have hh : ∀ k, k ≠ g -> (w.setCell ⟨g, q, none⟩ v).heap[k]? = w.heap[k]? := fun k hk => by rw [setCell_heap, if_neg hk]
 have hg : (w.setCell ⟨g, q, none⟩ v).heap[g]? = some (.cells (ds.set q v).toArray t' (0, 0)) := by
  rw [setCell_heap, if_pos rfl, h2]
  simp
 have hs2 : (w.setCell ⟨g, q, none⟩ v).heap.size = w.heap.size := by simp [World.setCell]
 have hfr : Frm (fun k => ∃ j' ∈ [j], own k = some (.fa j')) w (w.setCell ⟨g, q, none⟩ v) := ⟨rfl, rfl, rfl, by rw [hs2]; exact Nat.le_refl _, fun k hk hn => hh k (fun he => hn ⟨j, zp, (h1 k).2 he⟩)⟩
 have h5 := hs.trade [j] (B := FnA g t' n (updF f q v)) (F := fun k => own k = some (.fa j)) hfr ⟨h1, ds.set q v, hg, by rw [List.length_set]; exact h3, fun i hi => by
  rw [List.getElem?_set]
  unfold updF
  by_cases hq' : q = i
  · subst hq'
    rw [if_pos rfl, if_pos zo, if_pos rfl]
  · rw [if_neg hq', if_neg (fun e => hq' e.symm), h4 i hi]⟩ (fun k hk => .inl ⟨j, zp, hk⟩)
 have hr : Res E.X.P ⟨dst, .store t x y, ty, pos, after, guard⟩ a w (a.put dst undef) (w.setCell ⟨g, q, none⟩ v) := by
  refine ⟨_, ?_, .inr ⟨rfl, rfl⟩⟩
  simp [execOp, hxe, hye, Instr.storeAt, Instr.sureAddr, storeVar, run_sizeOf' hsz, hcells]
  first
   | (rw [hst]; rfl) | (simp only [hst]; rfl)
 exact hr.wp (hK () trivial _ _ r _ (h5.put dst (ok_va r undef) trivial) (.same (put_h ..).1 (put_h ..).2 hfr.size fun m t0 cs hm _ => hh _ (fun he => by
  have hon := (hs.heap m t0 cs hm).2.2.1; rw [he, (h1 g).2 rfl] at hon
  cases hon)))
end
def RetD {α : Type} (res : α -> SV) (φ : α -> Prop) (B : α -> Asn) (g : Nat) (w : World) (e : Ending) (w' : World) : Prop :=
 ∃ x, φ x /\ (∃ u, e = .returned u /\ ∀ r, (res x).ok r u) /\ Frm (fun k => k = g) w w' /\ (B x).P w' (fun k => k = g)
theorem calls_startD {P : Program} {f : FuncId} {fn : Func} {c : Code} {args : List Value} {w : World} {R : Ending -> World -> Prop} (n : Nat) (g t m : Nat) (cf : Nat -> Value) (svs : List SV)
 (hf : P.funcs[f]? = some fn) (hb : fn.body = some c) (hargs' : ArgsOk [] svs args) (hB : (FnA g t m cf).P w (fun k => k = g))
 (h : ∀ E : En, E.X = ⟨P, w, fun k => k = g, [], []⟩ -> E.X.P = P -> E.A = [(0, FnA g t m cf)] -> E.Q = bodyPost P fn R -> vc E n c .nil (startF svs [] 0 (fn.ntmps - args.length))) : Calls P f args.toArray w R := by
 have hlt : g < w.heap.size := by
  obtain ⟨_, ds, h2, _⟩ := hB; exact (Array.getElem?_eq_some_iff.1 h2).1
 refine calls_startF n [] [] svs (FnA g t m cf) (fun k => k = g) hf hb hargs' List.nodup_nil trivial hB (fun k hk => ⟨zp, by subst hk; exact hlt⟩) fun E hX hP hA hQ => ?_
 refine h E (hX.trans ?_) hP hA hQ
 have : (fun k => k ∈ ([] : List Nat) \/ k = g) = (fun k => k = g) := funext fun k => propext zp; rw [this]; rfl
theorem retD_fin {α : Type} {P : Program} {w0 : World} {g t n : Nat} {f : Nat -> Value} {S : St} {A : Facts} {a : Act} {w : World} {r : Nat -> Nat} {own : Nat -> Option Ent} (hs : Sim ⟨P, w0, fun k => k = g, [], []⟩ S A a w r own) {res : α -> SV} {φ : α -> Prop} {B : α -> Asn} {j : Nat} (hj : (j, FnA g t n f) ∈ A)
 (x : α) (hx : φ x) {u : Value} (hu : ∀ r, (res x).ok r u) (hB : (FnA g t n f).P w (fun k => k = g) -> (B x).P w (fun k => k = g)) : RetD res φ B g w0 (.returned u) w :=
 ⟨x, hx, ⟨u, rfl, hu⟩, hs.frm, hB (FnA.mem (hs.fact j _ hj).2)⟩
section
variable {E : En} {S : St} {α : Type} {φ : α -> Prop} {c : Call} {dst : Option Tmp} {ty : TypeId} {pos : String} {after : Array Edge} {guard : Option (Nat × Bool)} {o : Oper} {P : Program}
theorem LS_callD {f : FuncId} (g t n : Nat) (cf : Nat -> Value) (j : Nat) (res : α -> SV) (φ : α -> Prop) (B : α -> Asn) (hP : E.X.P = P) (hc : c.callee = .value (.func f)) (hf : callable P f = true) (hl : ∀ x, (res x).lt 0)
 (hk : (c.args.toList.all fun x => (ev S x).known) = true) (hj : (j, FnA g t n cf) ∈ E.A)
 (hcall : ∀ a w r own, Sim E.X S E.A a w r own -> (FnA g t n cf).P w (fun k => k = g) -> Calls P f ((c.args.toList.map fun x => (ev S x).den r).toArray) w (RetD res φ B g w)) :
 LS E S ⟨dst, .call c, ty, pos, after, guard⟩ [] φ (fun x => S.putM dst (res x)) (fun x => (S.m, B x) :: outF [j] E.A) := by
 refine LS_callJ [j] res φ B hP hc hf hl hk fun a w r own hs => (hcall a w r own hs (FnA.mem (hs.fact j _ hj).2)).mono fun e w' hr => ?_
 obtain ⟨x, hx, hu, hfr, hB⟩ := hr; have hown := FnA.own hs hj
 have hM : ∀ k, k = g -> ∃ j' ∈ [j], own k = some (.fa j') := fun k hk => ⟨j, zp, (hown k).2 hk⟩
 exact ⟨x, hx, hu, ⟨hfr.os, hfr.tape, hfr.output, hfr.size, fun k hk hn => hfr.block k hk fun he => hn (hM k he)⟩, _, fun k hk => .inl (hM k hk), hB⟩
end
section
attribute [local irreducible] LS WS
def decF (nd dp : Int) (ng tr : Bool) (dg : Nat -> Int) : Nat -> Value := fun i => if i < 800 then .int .u8 (dg i) else if i = 800 then .int .i64 nd else if i = 801 then .int .i64 dp else if i = 802 then .bool ng else if i = 803 then .bool tr else undef
abbrev DecA (g : Nat) (nd dp : Int) (ng tr : Bool) (dg : Nat -> Int) : Asn := FnA g 270 804 (decF nd dp ng tr dg)
def updD (dg : Nat -> Int) (q : Nat) (v : Int) : Nat -> Int := fun i => if i = q then v else dg i
theorem upd_nd (nd dp : Int) (ng tr : Bool) (dg : Nat -> Int) (x : Int) : updF (decF nd dp ng tr dg) 800 (.int .i64 x) = decF x dp ng tr dg := by
 funext i
 unfold updF decF
 by_cases h : i = 800
 · subst h; simp
 · simp [h]
theorem upd_dp (nd dp : Int) (ng tr : Bool) (dg : Nat -> Int) (x : Int) : updF (decF nd dp ng tr dg) 801 (.int .i64 x) = decF nd x ng tr dg := by
 funext i
 unfold updF decF
 by_cases h : i = 801
 · subst h; simp
 · simp [h]
theorem upd_ng (nd dp : Int) (ng tr : Bool) (dg : Nat -> Int) (x : Bool) : updF (decF nd dp ng tr dg) 802 (.bool x) = decF nd dp x tr dg := by
 funext i
 unfold updF decF
 by_cases h : i = 802
 · subst h; simp
 · simp [h]
theorem upd_tr (nd dp : Int) (ng tr : Bool) (dg : Nat -> Int) (x : Bool) : updF (decF nd dp ng tr dg) 803 (.bool x) = decF nd dp ng x dg := by
 funext i
 unfold updF decF
 by_cases h : i = 803
 · subst h; simp
 · simp [h]
theorem upd_dg (nd dp : Int) (ng tr : Bool) (dg : Nat -> Int) {q : Nat} (hq : q < 800) (x : Int) : updF (decF nd dp ng tr dg) q (.int .u8 x) = decF nd dp ng tr (updD dg q x) := by
 funext i
 unfold updF decF updD
 by_cases h : i = q
 · subst h; simp [hq]
 · simp [h]
theorem decF_dg (nd dp : Int) (ng tr : Bool) (dg : Nat -> Int) {q : Nat} (hq : q < 800) : decF nd dp ng tr dg q = .int .u8 (dg q) := by unfold decF; rw [if_pos hq]
end
end
section
attribute [local irreducible] leT leH
def CQ (L : List Nat) (ws : World) (listed : Array Bool) (w' : World) : Prop := (∀ j ∈ L, listed.getD j true = false) -> w' = ws
def isLd (o : Oper) : Bool := match o.op with
 | .load .. => true
 | _ => false
def isLdA (ops : Array Oper) (i : Nat) : Bool := match ops[i]? with
 | some o => isLd o
 | none => true
def Sq (S : St) (o : Oper) : St := match isLd o with
 | true => S
 | false => ⟨S.t, [], S.n, S.m⟩
theorem wpAnyL_firstT {P : Program} {md : Region.Mode} {ops : Array Oper} {Q : Exit -> Act -> World -> Prop} {C : Array Bool -> World -> Prop} {i : Nat} {oi : Oper} {v : Value} {js : List Nat} {C0 : World -> Prop} (hi : ops[i]? = some oi) (hsel : ∀ (j : Nat) (o : Oper) cs b, ops[j]? = some o -> o.op ≠ .select cs b)
 (hQ : ∀ c a w, Q (.panic c) (a.put oi.dst v) w -> Q (.panic c) a w)
 (hCi : ∀ listed w, C (listed.setIfInBounds i true) w -> C listed w) (hC0 : ∀ listed w, C listed w -> (∀ j ∈ js, listed.getD j true = false) -> C0 w) (hjs : ∀ j ∈ js, j ≠ i /\ (waitsFor md ops i j \/ ∃ j' ∈ js, waitsFor md ops j' j)) :
 ∀ (fuel : Nat) (listed : Array Bool) (a : Act) (w : World),
  (∀ j oj, ops[j]? = some oj -> j ≠ i -> listed.getD j true = false -> (∀ e ∈ oj.after, Region.binds md e = true -> e.on ≠ i) -> oi.apart ops oj = true) ->
  i ∈ Region.ready md ops listed -> (∀ j ∈ js, listed.getD j true = false) -> YieldsIf P ops C0 oi v a -> C listed w -> C (listed.setIfInBounds i true) w ->
  wpAnyL P md ops Q C fuel (listed.setIfInBounds i true) (a.put oi.dst v) w -> wpAnyL P md ops Q C (fuel + 1) listed a w := by
 intro fuel
 induction fuel with
 | zero =>
   intro listed a w _ hr hju hy hC hC' H
   refine ⟨fun h => (by rw [h] at hr; cases hr), fun j hj => ?_⟩
   by_cases hji : j = i
   · subst hji; exact hy.wpOp hi (hC0 _ _ hC hju) ⟨hC', H⟩
   · have := ready_mono hj hji
     rw [H.1] at this
     cases this
 | succ fuel ih =>
   intro listed a w hfree hr hju hy hC hC' H
   refine ⟨fun h => (by rw [h] at hr; cases hr), fun j hj => ?_⟩
   by_cases hji : j = i
   · subst hji; exact hy.wpOp hi (hC0 _ _ hC hju) ⟨hC', H⟩
   · have h1 := H.2 j (ready_mono hj hji)
     obtain ⟨hjun, oj, hoj, hall⟩ := mem_ready.1 hj; have hnot : ∀ e ∈ oj.after, Region.binds md e = true -> e.on ≠ i := fun e he hb heq => not_ready_of_waits (ready_un hr) ⟨oj, hoj, e, he, hb, heq⟩ hj; have h2 := wpOp_putIf hoj (hfree j oj hoj hji hjun hnot) (fun cs b => hsel i oi cs b hi) (fun cs b => hsel j oj cs b hoj) hQ hy h1
     have hfree' : ∀ k ok, ops[k]? = some ok -> k ≠ i -> (listed.setIfInBounds j true).getD k true = false ->
      (∀ e ∈ ok.after, Region.binds md e = true -> e.on ≠ i) -> oi.apart ops ok = true := fun k ok hk hki hun hno => by
      refine hfree k ok hk hki ?_ hno
      by_cases hjk : j = k
      · subst hjk; exact hjun
      · rw [getD_set_ne true hjk] at hun; exact hun
     have hjnot : j ∉ js := fun hm => by
      rcases (hjs j hm).2 with h | ⟨j', h', h⟩
      exact not_ready_of_waits (ready_un hr) h hj; exact not_ready_of_waits (hju j' h') h hj
     have hju' : ∀ k ∈ js, (listed.setIfInBounds j true).getD k true = false := fun k hk => by
      rw [getD_set_ne true (show j ≠ k from fun e => by subst e; exact hjnot hk)]; exact hju k hk
     have hcm : (listed.setIfInBounds i true).setIfInBounds j true = (listed.setIfInBounds j true).setIfInBounds i true := Array.setIfInBounds_comm _ _ (Ne.symm hji)
     refine wpOp_mono (fun a' w' h3 => ?_) h2
     obtain ⟨h3, h4, h5⟩ := h3; rw [hcm] at h4 h5; exact ⟨hCi _ _ h4, ih (listed.setIfInBounds j true) a' w' hfree' (ready_mono hr (Ne.symm hji)) hju' h3 (hCi _ _ h4) h4 h5⟩
def reachL (ops : Array Oper) (i : Nat) : List Nat := (List.range ops.size).foldl (fun R j => if waitB ops i j || R.any (fun j' => waitB ops j' j) then j :: R else R) []
def reachOk (ops : Array Oper) (i : Nat) (listed : Array Bool) (R : List Nat) : Bool := R.all fun j => j != i && !listed.getD j true && (waitB ops i j || R.any (fun j' => waitB ops j' j))
def qOk (ops : Array Oper) (L : List Nat) : Nat -> Array Bool -> List Nat -> Bool
 | _, listed, [] => (Region.ready .any ops listed).isEmpty
 | 0, _, _ => false
 | fuel + 1, listed, i :: l =>
   if L.contains i then (Region.ready .any ops listed == [i]) && l.isEmpty && calm ops i && (Region.ready .any ops (listed.setIfInBounds i true)).isEmpty
   else Region.noSelect ops && Region.free .any ops listed i && (Region.ready .any ops listed).contains i && (!isLdA ops i || (L.all (fun j => (reachL ops i).contains j) && reachOk ops i listed (reachL ops i))) && qOk ops L fuel (listed.setIfInBounds i true) l
def WQ (E : En) (ops : List Oper) (L : List Nat) (k : Kt) (l : List Nat) (S : St) : Prop :=
 ∀ fuel listed, qOk ops.toArray L fuel listed l = true -> ∀ a w r own, Sim E.X S E.A a w r own -> wpAnyL E.X.P .any ops.toArray (kq E k) (CQ L w) fuel listed a w
def vqo (E : En) (n : Nat) (ops : List Oper) (L : List Nat) (k : Kt) (i : Nat) (l : List Nat) (o : Oper) (S : St) (rest : SV -> Prop) : Prop :=
 match L.contains i with
 | true => vo E n ops o [] k S
 | false => match qop E.X.P (Sq S o) o with
   | some (C, sv) => match sv.known with
     | true => C /\ rest sv
     | false => WQ E ops L k (i :: l) S
   | none => WQ E ops L k (i :: l) S
def vqd (b : Bool) (X : Prop) : Prop := X
theorem vqd_dec {p : Prop} [Decidable p] {X : Prop} (h1 : p -> vqd true X) (h2 : ¬ p -> vqd false X) : vqd (decide p) X := by
 by_cases h : p
 exact h1 h; exact h2 h
theorem vqd_ndec {p : Prop} [Decidable p] {X : Prop} (h1 : ¬ p -> vqd true X) (h2 : p -> vqd false X) : vqd (!decide p) X := by
 by_cases h : p
 exact h2 h; exact h1 h
def vq (E : En) (n : Nat) (ops : List Oper) (L : List Nat) (k : Kt) : List Nat -> St -> Prop
 | [], S => vx E n .normal k S
 | i :: l, S => match nthO ops i with
   | some o => match o.guard with
     | none => vqo E n ops L k i l o S (fun sv => vq E n ops L k l (S.put o.dst sv))
     | some (j, want) => match nthO ops j with
       | some oj => match oj.dst with
         | some d => match asB (look S.t d) with
           | some (some b) => vqd b (WQ E ops L k (i :: l) S)
           | _ => WQ E ops L k (i :: l) S
         | none => WQ E ops L k (i :: l) S
       | none => WQ E ops L k (i :: l) S
   | none => False
def vqe (E : En) (n : Nat) (ops : List Oper) (L : List Nat) (k : Kt) (i : Nat) (l : List Nat) (S : St) : Prop := match nthO ops i with
 | some o => match o.guard with
   | some (j, want) => match nthO ops j with
     | some oj => match oj.dst with
       | some d => match asB (look S.t d) with
         | some (some b) => match L.contains i with
           | true => False
           | false => match b == want with
             | true => match qop E.X.P (Sq S o) o with
               | some (C, sv) => match sv.known with
                 | true => C /\ vq E n ops L k l (S.put o.dst sv)
                 | false => WQ E ops L k (i :: l) S
               | none => WQ E ops L k (i :: l) S
             | false => vq E n ops L k l (S.put o.dst undefSV)
         | _ => False
       | none => False
     | none => False
   | none => False
 | none => False
section
variable {E : En} {ops : List Oper} {L : List Nat} {k : Kt} {S : St}
theorem CQ.of_set {ws w : World} {listed : Array Bool} {i : Nat} (h : CQ L ws listed w) : CQ L ws (listed.setIfInBounds i true) w := fun hh => h fun j hj => by
 have := hh j hj
 by_cases hji : i = j
 · subst hji
   rcases Nat.lt_or_ge i listed.size with h' | h'
   · simp [h'] at this
   · simp [Array.getElem?_eq_none h'] at this
 · rwa [getD_set_ne true hji] at this
theorem CQ.set_of {ws w : World} {listed : Array Bool} {i : Nat} (hi : i ∉ L) (h : CQ L ws (listed.setIfInBounds i true) w) : CQ L ws listed w := fun hh => h fun j hj => by
 rw [getD_set_ne true (show i ≠ j from fun e => by subst e; exact hi hj)]; exact hh j hj
theorem WQ_any {i : Nat} {l : List Nat} {o : Oper} {sv : SV} (hQ : QP E.Q) (ho : nthO ops i = some o) (hL : L.contains i = false)
 (hy : ∀ a w r own, Sim E.X S E.A a w r own -> (sv.known = true /\ Region.wanted o (yielded ops.toArray a.tmps) = true /\ sv.lt S.n /\ ∀ w', (isLd o = true -> w' = w) -> Yl E.X.P r S.n o a w' sv) \/ (Region.wanted o (yielded ops.toArray a.tmps) = false /\ sv = undefSV)) (h : WQ E ops L k l (S.put o.dst sv)) : WQ E ops L k (i :: l) S := by
 intro fuel listed hs a w r own hc
 cases fuel with
 | zero => simp [qOk] at hs
 | succ fuel =>
 simp only [qOk, hL, Bool.false_eq_true, if_false, Bool.and_eq_true] at hs; obtain ⟨⟨⟨⟨h1, h2⟩, h3⟩, h4⟩, h5⟩ := hs; have hi := nthO_arr ho
 have hiL : i ∉ L := fun hm => by
  have : L.contains i = true := by simpa using hm
  rw [hL] at this
  cases this
 have hld : isLdA ops.toArray i = isLd o := by unfold isLdA; rw [hi]
 rw [hld] at h4
 have hjs : isLd o = true -> (∀ j ∈ L, j ∈ reachL ops.toArray i) /\ reachOk ops.toArray i listed (reachL ops.toArray i) = true := fun hl => by
  rw [hl] at h4
  simpa using h4
 obtain ⟨u, hu, hul, hyi⟩ : ∃ u, sv.ok r u /\ sv.lt S.n /\ YieldsIf E.X.P ops.toArray (fun w' => isLd o = true -> w' = w) o u a := by
  rcases hy a w r own hc with ⟨hk, hw, hlt, hyy⟩ | ⟨hw, rfl⟩
  · obtain ⟨u, hu, _, _⟩ := hyy w (fun _ => rfl)
    refine ⟨u, hu, hlt, .inl ⟨hw, fun w' hw' => ?_⟩⟩
    obtain ⟨u', hu', _, hrun⟩ := hyy w' hw'; rw [SV_den hk hu, <- SV_den hk hu']; exact hrun
  · exact ⟨undef, ok_va r undef, trivial, .inr ⟨hw, rfl⟩⟩
 refine wpAnyL_firstT hi (Region.noSelect_spec h1) (fun c a w hq => kq_panic hQ k c _ _ a w hq) (js := if isLd o then reachL ops.toArray i else []) (C := CQ L w) (fun listed w' hcw => CQ.set_of hiL hcw) (fun listed' w' hcw hun hl => hcw (fun j hj => by rw [hl] at hun; exact hun j ((hjs hl).1 j hj)))
  (fun j hj => ?_) fuel listed a w (Region.free_spec hi h2) (by simpa using h3) (fun j hj => ?_) hyi (fun _ => rfl) (fun _ => rfl) ?_
 · cases hlo : isLd o
   · rw [hlo] at hj; simp at hj
   · rw [hlo] at hj
     have h6 := List.all_eq_true.1 (hjs hlo).2 j (by simpa using hj); simp only [if_true]; simp only [Bool.and_eq_true, bne_iff_ne, ne_eq, Bool.or_eq_true, List.any_eq_true] at h6
     refine ⟨h6.1.1, ?_⟩
     rcases h6.2 with h | ⟨j', h', h⟩
     exact .inl (waitB_spec h).2; exact .inr ⟨j', h', (waitB_spec h).2⟩
 · cases hlo : isLd o
   · rw [hlo] at hj; simp at hj
   · rw [hlo] at hj
     have h6 := List.all_eq_true.1 (hjs hlo).2 j (by simpa using hj); simp only [Bool.and_eq_true, Bool.not_eq_true'] at h6; exact h6.1.2
 · exact h fuel _ h5 _ w r own (hc.put o.dst hu hul)
theorem WQ_take {i : Nat} {l : List Nat} {o : Oper} {sv : SV} (hQ : QP E.Q) (ho : nthO ops i = some o) (hL : L.contains i = false) (hk : sv.known = true)
 (hw : ∀ a w r own, Sim E.X S E.A a w r own -> Region.wanted o (yielded ops.toArray a.tmps) = true) (hlt : ∀ a w r own, Sim E.X S E.A a w r own -> sv.lt S.n) (hy : ∀ a w r own, Sim E.X S E.A a w r own -> ∀ w', (isLd o = true -> w' = w) -> Yl E.X.P r S.n o a w' sv) (h : WQ E ops L k l (S.put o.dst sv)) : WQ E ops L k (i :: l) S :=
 WQ_any hQ ho hL (fun a w r own hs => .inl ⟨hk, hw a w r own hs, hlt a w r own hs, hy a w r own hs⟩) h
theorem SimR_q {X : Cx} {A : Facts} {a : Act} {w w' : World} {r : Nat -> Nat} {own : Nat -> Option Ent} {o : Oper} (hs : Sim X S A a w r own) (hw : isLd o = true -> w' = w) : SimR (Sq S o) a w' r := by
 unfold Sq
 split
 · rename_i h
   rw [hw h]; exact hs.toR
 · exact ⟨hs.sz, hs.slot, hs.slt, fun n t cs hm => by cases hm⟩
theorem Sq_n (S : St) (o : Oper) : (Sq S o).n = S.n := by unfold Sq; split <;> rfl
theorem WQ_qop {i : Nat} {l : List Nat} {o : Oper} {sv : SV} {C : Prop} (hQ : QP E.Q) (ho : nthO ops i = some o) (hL : L.contains i = false) (hk : sv.known = true)
 (hw : ∀ a w r own, Sim E.X S E.A a w r own -> Region.wanted o (yielded ops.toArray a.tmps) = true) (hq : qop E.X.P (Sq S o) o = some (C, sv)) (hC : C) (h : WQ E ops L k l (S.put o.dst sv)) : WQ E ops L k (i :: l) S :=
 WQ_take hQ ho hL hk hw (fun a w r own hs => by
  obtain ⟨u, hu, hlt, _⟩ := qop_ok (SimR_q hs (o := o) (fun _ => rfl)) hq hC
  rwa [Sq_n] at hlt) (fun a w r own hs w' hw' => by
  have := qop_ok (SimR_q hs hw') hq hC
  rwa [Sq_n] at this) h
theorem WQ_last {i : Nat} {o : Oper} {l : List Nat} (ho : nthO ops i = some o) (hL : L.contains i = true) (h : WO E ops o [] k S) : WQ E ops L k (i :: l) S := by
 intro fuel listed hs a w r own hc
 cases fuel with
 | zero => simp [qOk] at hs
 | succ fuel =>
 simp only [qOk, hL, if_true, Bool.and_eq_true, beq_iff_eq] at hs; obtain ⟨⟨⟨h1, h2⟩, h3⟩, h4⟩ := hs; have hi := nthO_arr ho
 refine wpAnyL_all h1 zp fun i' hi' => ?_
 obtain rfl : i' = i := by simpa using hi'
 have h5 := h a w r own hc
 refine wpOp_of hi h3 (Oper.wp_mono (fun a' w' hk => ?_) h5)
 refine ⟨fun hh => ?_, wpAnyL_done (by simpa using h4) hk fuel⟩
 have hm : i' ∈ L := by simpa using hL
 have := hh i' hm
 rcases Nat.lt_or_ge i' listed.size with h' | h'
 · simp [h'] at this
 · simp [Array.getElem?_eq_none h'] at this
theorem WQ_done (h : WX E .normal k S) : WQ E ops L k [] S := by
 intro fuel listed hs a w r own hc
 unfold qOk at hs
 exact wpAnyL_done (by simpa using hs) (h a w r own hc) fuel
theorem vq_ok (hQ : QP E.Q) (n : Nat) : ∀ (l : List Nat) (S : St), vq E n ops L k l S -> WQ E ops L k l S
 | [], S, h => WQ_done (vx_ok n .normal k S h)
 | i :: l, S, h => by
   unfold vq at h
   split at h
   · rename_i o ho
     split at h
     · rename_i hg
       have hw : ∀ a w r own, Sim E.X S E.A a w r own -> Region.wanted o (yielded ops.toArray a.tmps) = true := fun a w r own _ => by simp [Region.wanted, hg]
       unfold vqo at h
       split at h
       · rename_i hL
         exact WQ_last ho hL (vo_ok n ops o [] k S h)
       · rename_i hL
         split at h
         · rename_i C sv hq
           split at h
           · rename_i hk
             exact WQ_qop hQ ho hL hk hw hq h.1 (vq_ok hQ n l _ h.2)
           · exact h
         · exact h
     · rename_i j want hg
       split at h
       · rename_i oj hj
         split at h
         · rename_i d hd
           split at h
           exact h; exact h
         · exact h
       · exact h
   · exact h.elim
theorem vqe_ok (hQ : QP E.Q) (n : Nat) {i : Nat} {l : List Nat} (h : vqe E n ops L k i l S) : WQ E ops L k (i :: l) S := by
 unfold vqe at h
 split at h
 · rename_i o ho
   split at h
   · rename_i j want hg
     split at h
     · rename_i oj hj
       split at h
       · rename_i d hd
         split at h
         · rename_i b hb
           have hb := asB_some hb
           have hy : ∀ a w r own, Sim E.X S E.A a w r own -> Region.wanted o (yielded ops.toArray a.tmps) = (b == want) := fun a w r own hs => by
            rw [Region.wanted, hg]; simp only [yielded_of hs hj hd hb]; rfl
           split at h
           · exact h.elim
           · rename_i hL
             split at h
             · rename_i hbw
               have hw : ∀ a w r own, Sim E.X S E.A a w r own -> Region.wanted o (yielded ops.toArray a.tmps) = true := fun a w r own hs => by rw [hy a w r own hs, hbw]
               split at h
               · rename_i C sv hq
                 split at h
                 · rename_i hk
                   exact WQ_qop hQ ho hL hk hw hq h.1 (vq_ok hQ n l _ h.2)
                 · exact h
               · exact h
             · rename_i hbw
               have hw : ∀ a w r own, Sim E.X S E.A a w r own -> Region.wanted o (yielded ops.toArray a.tmps) = false := fun a w r own hs => by rw [hy a w r own hs, hbw]
               exact WQ_any hQ ho hL (fun a w r own hs => .inr ⟨hw a w r own hs, rfl⟩) (vq_ok hQ n l _ h)
         · exact h.elim
       · exact h.elim
     · exact h.elim
   · exact h.elim
 · exact h.elim
theorem vqd_t (n : Nat) {i : Nat} {l : List Nat} (hQ : QP E.Q) (h : vqe E n ops L k i l S) : vqd true (WQ E ops L k (i :: l) S) := vqe_ok hQ n h
theorem vqd_f (n : Nat) {i : Nat} {l : List Nat} (hQ : QP E.Q) (h : vqe E n ops L k i l S) : vqd false (WQ E ops L k (i :: l) S) := vqe_ok hQ n h
def idxs : List Oper -> Nat -> List Nat
 | [], _ => []
 | _ :: l, i => i :: idxs l (i + 1)
theorem WC_q {id : Nat} {ops : Array Oper} (n : Nat) (L : List Nat) {P : Program} (hP : E.X.P = P) (hm : P.follows .mixedOrders = true) (hQ : QP E.Q)
 (hs : qOk ops L ops.size (Array.replicate ops.size false) (idxs ops.toList 0) = true) (h : vq E n ops.toList L k (idxs ops.toList 0) S) : WC E (.region id ops true) k S := by
 intro a w r own hsim; subst hP
 refine wp_region_L (C := CQ L { w with drawn := w.drawn + 1 }) hm ?_
 have := vq_ok hQ n _ _ h ops.size (Array.replicate ops.size false) (by simpa using hs) a _ r own hsim.drew
 simpa using this
theorem yl_fload {o : Oper} {t : TypeId} {x : Operand} (g t' n : Nat) (f : Nat -> Value) (j q : Nat) (v : Value) (ho : o.op = .load t x) (hx : ev S x = .sc (.va (.pointer (some ⟨g, q, none⟩)))) (hj : (j, FnA g t' n f) ∈ E.A) (hq : q < n) (hv : f q = v) (hsz : szT E.X.P t = some (1, false)) :
 ∀ a w r own, Sim E.X S E.A a w r own -> Yl E.X.P r S.n o a w (.sc (.va v)) := fun a w r own hs => by
 have hp := va_of (hx ▸ (ev_ok hs.toR x).1)
 have hc0 : w.cell? ⟨g, q, none⟩ = some v := by rw [FnA.cell (hs.fact j _ hj).2 hq, hv]
 refine ⟨v, ok_va r v, trivial, ?_⟩
 simp [execOp, ho, hp, Instr.loadAt, Instr.sureAddr, loadVar, run_isAgg' hsz, hc0]
theorem WQ_fload (n0 : Nat) {i : Nat} {l : List Nat} {o : Oper} {t : TypeId} {x : Operand} {P : Program} (g t' n : Nat) (f : Nat -> Value) (j q : Nat) (v : Value) (hP : E.X.P = P) (hQ : QP E.Q) (ho : nthO ops i = some o) (hL : L.contains i = false) (hop : o.op = .load t x)
 (hw : ∀ a w r own, Sim E.X S E.A a w r own -> Region.wanted o (yielded ops.toArray a.tmps) = true) (hx : ev S x = .sc (.va (.pointer (some ⟨g, q, none⟩)))) (hj : (j, FnA g t' n f) ∈ E.A) (hq : q < n) (hv : f q = v) (hsz : szT P t = some (1, false))
 (h : vq E n0 ops L k l (S.put o.dst (.sc (.va v)))) : WQ E ops L k (i :: l) S :=
 WQ_take (sv := .sc (.va v)) hQ ho hL rfl hw (fun _ _ _ _ _ => trivial) (fun a w r own hs w' hw' => by rw [hw' (by unfold isLd; rw [hop])]; exact yl_fload g t' n f j q v hop hx hj hq hv (by rw [hP]; exact hsz) a w r own hs) (vq_ok hQ n0 l _ h)
theorem wanted_of {o oj : Oper} {j d : Nat} {b : Bool} (hg : o.guard = some (j, b)) (h1 : nthO ops j = some oj) (h2 : oj.dst = some d) (h3 : look S.t d = .sc (.va (.bool b))) : ∀ a w r own, Sim E.X S E.A a w r own -> Region.wanted o (yielded ops.toArray a.tmps) = true := fun a w r own hs => by
 rw [Region.wanted, hg]; simp only [yielded_of hs h1 h2 h3]
 simp
theorem wanted_none {o : Oper} (hg : o.guard = none) : ∀ a w r own, Sim E.X S E.A a w r own -> Region.wanted o (yielded ops.toArray a.tmps) = true := fun a w r own hs => by simp [Region.wanted, hg]
end
attribute [go_sem] vq vqo idxs vqe isLd Sq
theorem WC_scope {E : En} {c : Code} {S : St} (n : Nat) (h : ∀ E' : En, E'.X = E.X -> E'.A = E.A -> E'.Q = Exit.noGoto E.Q -> vc E' n c .nil S) : WC E (.scope c) .nil S := fun a w r own hs =>
 wp_scope_straight (vc_ok n c .nil S (h ⟨E.X, E.A, Exit.noGoto E.Q⟩ rfl rfl rfl) a w r own hs)
theorem WX_fing {E : En} {X : Cx} {fn : Func} {R : Ending -> World -> Prop} {e : Exit} {S : St} (hX : E.X = X) (hd : X.d = []) (hQ : E.Q = Exit.noGoto (bodyPost X.P fn R)) (he : e = .ret \/ e = .normal) (h : Fin E fn R S) : WX E e .nil S := fun a w r own hs => by
 have := WX_fin (E := ⟨E.X, E.A, bodyPost X.P fn R⟩) hX hd rfl he h a w r own hs
 show E.Q e a w
 rw [hQ]
 rcases he with rfl | rfl <;> exact this
theorem c145n0 (s : ByteArray) (hs : s.size <= 2147483647) (h0 : bt s 0 ≠ 43 /\ bt s 0 ≠ 45) (hj : 0 < (s.size : Int)) (hm : (57 < bt s 0 /\ bt s 0 ≠ 95) \/ (bt s 0 = 46 /\ 1 < (s.size : Int) /\ 57 < bt s 1 /\ bt s 1 ≠ 95)) (w : World) : Calls Tryz.prog 145 [.string s].toArray w (Ret0 (fun x : Int × Int × Bool × Bool × Bool × Int × Bool => .tu [.sc (.va (.int .u64 x.1)), .sc (.va (.int .i64 x.2.1)), .sc (.va (.bool x.2.2.1)), .sc (.va (.bool x.2.2.2.1)), .sc (.va (.bool x.2.2.2.2.1)), .sc (.va (.int .i64 x.2.2.2.2.2.1)), .sc (.va (.bool x.2.2.2.2.2.2))]) (fun x => x.2.2.2.2.2.2 = false) w) := by
 refine calls_start 1000 Tryz.func145 rfl ?_
 intro E hX hP hA hQ
 repeat' first
  | refine zA ?_ | apply zI <;> intro hdec | with_reducible constructor
  | (with_reducible apply WC_scope 900
     intro E1 h1 h2 h3; replace hX := h1.trans hX
     replace hP : E1.X.P = Tryz.prog := by rw [hX]
     replace hA := h2.trans hA; replace hQ := h3.trans (congrArg Exit.noGoto hQ); clear h1 h2 h3)
  | with_reducible apply WX_fing hX rfl hQ (.inl rfl)
  | (exfalso; first | omega | (have hx := hi rfl; omega))
  | (with_reducible show WC _ (.loop _) _ _
     apply WC_loopF (ι := Bool) (fun x => x = true -> bt s 0 = 46) [57, 58, 59, 60, 63, 64, 65, 18, 67, 68, 69, 66, 9, 71, 72, 73, 70, 74, 13, 75, 17, 77, 78, 79, 80, 81, 82, 83, 76, 14, 84, 85, 86, 87, 88, 89, 90, 91, 92, 93, 15, 94, 95, 96, 97, 98, 99, 2, 100, 101, 102, 103, 104, 105, 106, 16, 107, 108, 5, 110, 111, 112, 113, 114, 115, 116, 117, 118, 119, 120, 121, 122, 109, 123, 124, 125, 126, 127, 128, 129, 130, 131, 132, 133, 134, 135, 136, 137, 138, 61, 62, 7] (fun x => [(7, .sc (.va (.int .i64 (if x then 1 else 0)))), (13, .sc (.va (.bool x))), (14, .sc (.va (.bool false))), (15, .sc (.va (.int .i64 0))), (16, .sc (.va (.int .i64 0))), (17, .sc (.va (.int .i64 0))), (2, .sc (.va (.int .u64 0))), (5, .sc (.va (.bool false))), (9, .sc (.va (.bool false)))]) (fun x => if x then 0 else 1) false zp hX
     exact zq83; exact zq24; intro x hi E' hX' hA' hQ' J hJ; rw [hA] at hJ; refine zl ?_; intro hX hP hA hQ
     refine vc_ok 900 _ _ _ ?_)
  | (cases x) | exact zr119 | refine zs10 ?_
 all_goals try first
  | omega | (unfold I64; omega) | (exfalso; omega) | exact zr71
theorem c145n2 (s : ByteArray) (hs : s.size <= 2147483647) (h0 : bt s 0 = 45) (hj : 1 < (s.size : Int)) (hm : (57 < bt s 1 /\ bt s 1 ≠ 95) \/ (bt s 1 = 46 /\ 2 < (s.size : Int) /\ 57 < bt s 2 /\ bt s 2 ≠ 95)) (w : World) : Calls Tryz.prog 145 [.string s].toArray w (Ret0 (fun x : Int × Int × Bool × Bool × Bool × Int × Bool => .tu [.sc (.va (.int .u64 x.1)), .sc (.va (.int .i64 x.2.1)), .sc (.va (.bool x.2.2.1)), .sc (.va (.bool x.2.2.2.1)), .sc (.va (.bool x.2.2.2.2.1)), .sc (.va (.int .i64 x.2.2.2.2.2.1)), .sc (.va (.bool x.2.2.2.2.2.2))]) (fun x => x.2.2.2.2.2.2 = false) w) := by
 refine calls_start 1000 Tryz.func145 rfl ?_
 intro E hX hP hA hQ
 repeat' first
  | refine zA ?_ | apply zI <;> intro hdec | with_reducible constructor
  | (with_reducible apply WC_scope 900
     intro E1 h1 h2 h3; replace hX := h1.trans hX
     replace hP : E1.X.P = Tryz.prog := by rw [hX]
     replace hA := h2.trans hA; replace hQ := h3.trans (congrArg Exit.noGoto hQ); clear h1 h2 h3)
  | with_reducible apply WX_fing hX rfl hQ (.inl rfl)
  | (exfalso; first | omega | (have hx := hi rfl; omega))
  | (with_reducible show WC _ (.loop _) _ _
     apply WC_loopF (ι := Bool) (fun x => x = true -> bt s 1 = 46) [57, 58, 59, 60, 63, 64, 65, 18, 67, 68, 69, 66, 9, 71, 72, 73, 70, 74, 13, 75, 17, 77, 78, 79, 80, 81, 82, 83, 76, 14, 84, 85, 86, 87, 88, 89, 90, 91, 92, 93, 15, 94, 95, 96, 97, 98, 99, 2, 100, 101, 102, 103, 104, 105, 106, 16, 107, 108, 5, 110, 111, 112, 113, 114, 115, 116, 117, 118, 119, 120, 121, 122, 109, 123, 124, 125, 126, 127, 128, 129, 130, 131, 132, 133, 134, 135, 136, 137, 138, 61, 62, 7] (fun x => [(7, .sc (.va (.int .i64 (if x then 2 else 1)))), (13, .sc (.va (.bool x))), (14, .sc (.va (.bool false))), (15, .sc (.va (.int .i64 0))), (16, .sc (.va (.int .i64 0))), (17, .sc (.va (.int .i64 0))), (2, .sc (.va (.int .u64 0))), (5, .sc (.va (.bool false))), (9, .sc (.va (.bool false)))]) (fun x => if x then 0 else 1) false zp hX
     exact zq83; exact zq24; intro x hi E' hX' hA' hQ' J hJ; rw [hA] at hJ; refine zl ?_; intro hX hP hA hQ
     refine vc_ok 900 _ _ _ ?_)
  | (cases x) | exact zr119 | refine zs10 ?_
 all_goals try first
  | omega | (unfold I64; omega) | (exfalso; omega) | exact zr71
section
theorem Sim.concF {X : Cx} {S : St} {A : Facts} {a : Act} {w : World} {r : Nat -> Nat} {own : Nat -> Option Ent} (h : Sim X S A a w r own) {n t m : Nat} {vals : List Value} {f : Nat -> Value} (hm : (n, t, vals.map .va) ∈ S.h) (hl : vals.length = m) (hv : ∀ i, i < m -> vals[i]? = some (f i)) :
 Sim X (S.conc n (r n)) ((S.m, FnA (r n) t m f) :: A) a w r (fun k => if k = r n then some (.fa S.m) else own k) := by
 have h1 := h.conc hm
 refine ⟨h1.dfr, h1.sz, h1.slot, h1.slt, h1.heap, fun j B hj => ?_, h1.bnd, h1.nms, h1.fas, h1.frm, h1.rts⟩
 rcases List.mem_cons.1 hj with hj | hj
 · simp only [Prod.mk.injEq] at hj
   obtain ⟨rfl, rfl⟩ := hj; obtain ⟨e1, e2, e3, _⟩ := h1.fact S.m _ zm; exact ⟨e1, e2, vals, e3, hl, hv⟩
 · exact h1.fact j B (List.mem_cons_of_mem _ hj)
variable {E : En} {S : St} {k : Kt}
theorem WO_concF {ops l : List Oper} {o : Oper} (n t m : Nat) (vals : List Value) (f : Nat -> Value) (hf : findH S.h n = some (t, vals.map .va)) (hl : vals.length = m) (hv : ∀ i, i < m -> vals[i]? = some (f i))
 (h : ∀ g (E' : En), E'.X = E.X -> E'.A = (S.m, FnA g t m f) :: E.A -> E'.Q = E.Q -> WO E' ops o l k (S.conc n g)) : WO E ops o l k S := by
 intro a w r own hs; have h1 := h (r n) ⟨E.X, (S.m, FnA (r n) t m f) :: E.A, E.Q⟩ rfl rfl rfl a w r _ (hs.concF (findH_mem hf) hl hv)
 rwa [kq_congr (E := E) (E' := ⟨E.X, (S.m, FnA (r n) t m f) :: E.A, E.Q⟩) rfl rfl] at h1
theorem WC_concF {c : Code} (n t m : Nat) (vals : List Value) (f : Nat -> Value) (hf : findH S.h n = some (t, vals.map .va)) (hl : vals.length = m) (hv : ∀ i, i < m -> vals[i]? = some (f i))
 (h : ∀ g (E' : En), E'.X = E.X -> E'.A = (S.m, FnA g t m f) :: E.A -> E'.Q = E.Q -> WC E' c k (S.conc n g)) : WC E c k S := by
 intro a w r own hs; have h1 := h (r n) ⟨E.X, (S.m, FnA (r n) t m f) :: E.A, E.Q⟩ rfl rfl rfl a w r _ (hs.concF (findH_mem hf) hl hv)
 rwa [kq_congr (E := E) (E' := ⟨E.X, (S.m, FnA (r n) t m f) :: E.A, E.Q⟩) rfl rfl] at h1
end
end
section
attribute [local irreducible] leT leH WO WX WC WD LS WS
def LeftC : Prop := ∀ (w : World) (v : ByteArray), v.size <= 40 -> v = ⟨#[]⟩ \/ plainW v ->
 Calls Tryz.prog 12 [.string ⟨#[70, 110, 70, 105, 108, 116, 101, 114, 84, 114, 101, 101]⟩, .string v].toArray w (Ret0 (fun b : Bool => .sc (.va (.bool b))) (fun b => b = false -> bt v 0 ≠ 43) w)
theorem pls_of : ∀ {l : List T}, (∀ (i : Nat) (t : T), l[i]? = some t -> t.noPlus) -> T.noPlus.pls l
 | [], _ => trivial
 | x :: l, h => ⟨h 0 x rfl, pls_of fun i t ht => h (i + 1) t (by simpa using ht)⟩
def TlC (d : Nat) : Prop := ∀ (w : World) (t : T) (ka : Option Addr) (kc : Nat) (F : Nat -> Prop), GS w 24 6 F (.slice ka t.kids.length kc) (T.gs t.kids) -> (∀ k, F k -> k < w.heap.size) -> t.good d ->
 Calls Tryz.prog 6 [.string ⟨#[70, 110, 70, 105, 108, 116, 101, 114, 84, 114, 101, 101]⟩, .agg (treeC t.k t.v t.an t.tg t.st ka t.kids.length kc).toArray].toArray w (Ret0 (fun b : Bool => .sc (.va (.bool b))) (fun b => b = false -> t.noPlus) w)
theorem good_plain {d : Nat} {k st : Int} {v an tg : ByteArray} {l : List T} (h : T.good d ⟨k, v, an, tg, st, l⟩) (hk : k = 1) (hs : st = 1) : v.size <= 40 /\ (v = ⟨#[]⟩ \/ plainW v) := by
 cases d with
 | zero => exact h.elim
 | succ d =>
   rcases h with ⟨h, _⟩ | ⟨_, _, h⟩ | ⟨h, _⟩
   omega; exact ⟨h.2.2.1, h.2.2.2 hs⟩; omega
theorem good_kids {d : Nat} {k st : Int} {v an tg : ByteArray} {l : List T} (h : T.good (d + 1) ⟨k, v, an, tg, st, l⟩) : l.length <= 6 /\ ∀ t ∈ l, T.good d t := by
 rcases h with ⟨_, rfl⟩ | ⟨_, rfl, _⟩ | ⟨_, h1, _, h2⟩
 exact ⟨Nat.zero_le _, fun t ht => by cases ht⟩; exact ⟨Nat.zero_le _, fun t ht => by cases ht⟩; exact ⟨h1, h2⟩
theorem c6 (hL : LeftC) (d : Nat) (hT : TlC d) : TlC (d + 1) := by
 intro w t ka kc F hgs hF hgood; obtain ⟨k, v, an, tg, st, l⟩ := t; obtain ⟨hl6, hall⟩ := good_kids hgood; simp only [T.k_mk, T.v_mk, T.an_mk, T.tg_mk, T.st_mk, T.kids_mk] at *; obtain ⟨A, cp, e1, e2, e3⟩ := kid_at hgs
 cases e1
 refine calls_start 1000 Tryz.func6 rfl fun E hX hP hA hQ => ?_
 repeat' first
  | refine zA ?_ | apply zI <;> intro hdec | with_reducible constructor
  | (refine zc0 (α := Bool) 12 (fun b => .sc (.va (.bool b))) (fun b => b = false -> bt v 0 ≠ 43) ?_ ?_
     · (intro a w r own hSim; simp only [go_sem]; have hp := good_plain hgood (by assumption) (by assumption); have hc := hL w v hp.1 hp.2; with_reducible exact hc)
     intro b hb
     cases b)
  | refine zs12 ?_
 all_goals try first
  | omega | exact zr36
 all_goals (have hroot : k = 1 -> st = 1 -> bt v 0 ≠ 43 := (by first | exact fun _ _ => hb rfl | (intro h1 h2; omega) | (intro h1 h2; contradiction)))
 all_goals (
  apply WC_loopF (ι := Nat) (fun i => i <= l.length /\ ∀ (j : Nat) (t : T), j < i -> l[j]? = some t -> t.noPlus) [25, 26, 27, 6, 28, 29, 30, 4, 31, 24] (fun i => [(24, .sc (.va (.int .i64 i)))]) (fun i => l.length - i) 0 ⟨Nat.zero_le _, fun j t hj => absurd hj (Nat.not_lt_zero j)⟩ hX
  exact zq10; exact zq24; intro i hi E' hX' hA' hQ' J hJ; rw [hA] at hJ; refine zl ?_; intro hX hP hA hQ
  refine vc_ok 900 _ _ _ ?_
  obtain ⟨hi, hpl⟩ := hi
  by_cases hlt : i < l.length
  · obtain ⟨A, rfl⟩ : ∃ A, ka = some A := by
     rcases e2 with e2 | e2
     · rw [e2] at hlt; simp at hlt
     · exact zq48
    obtain ⟨hF1, ka1, kc1, hcell, hgs1⟩ := e3 i l[i] (List.getElem?_eq_getElem hlt); have htm : l[i] ∈ l := List.getElem_mem hlt; have hget : l[i]? = some l[i] := List.getElem?_eq_getElem hlt
    generalize l[i] = tk at hcell hgs1 htm hget
    rw [Option.getD_some] at hF1 hcell
    repeat' first
     | refine zA ?_ | apply zI <;> intro hdec | with_reducible constructor | (refine zr108 ?_; intro _ _)
     | (refine zc0 (α := Bool) 6 (fun b => .sc (.va (.bool b))) (fun b => b = false -> tk.noPlus) ?_ ?_
        · (intro a w r own hSim; simp only [go_sem]; rw [hX] at hSim; have hc := hT w tk ka1 kc1 F (GS.of0 hSim hF hgs1) (fun k hk => Nat.lt_of_lt_of_le (hF k hk) hSim.frm.size) (hall tk htm); simp only [treeC] at hc; with_reducible exact hc)
        intro b hb2
        cases b)
     | exact zr104 | refine zs12 ?_
    all_goals try first
     | omega | rfl | (unfold I64; omega) | exact zr36
  · skip
    repeat' first
     | refine zA ?_ | apply zI <;> intro hdec | with_reducible constructor | refine zs12 ?_
    all_goals first
     | omega | exact zr115
     | skip)
