/- Lemmas for FnFilterTree; each condition stands in its statement. -/
import Derived.Test.YtbfenkhnfflpnaaGreatDoorGcr
namespace Go.Proofs.YtbfenkhnfflpnaaGreatDoor.Sx
open Go Go.RowKit
set_option maxRecDepth 100000
set_option maxHeartbeats 40000000
set_option linter.all false
section
attribute [local irreducible] leT leH WO WX WC WD LS WS
def sch41_1b : Sch := tkN [0] <| .take 1 (some [0]) <| tkN [2] <| .two 3 (.two 4 (.one 5 <| .one 6 <| .done) 5 (.one 4 <| .one 6 <| .done)) 5 (.one 3 <| .one 4 <| .one 6 <| .done)
attribute [go_sem] sch41_1b
def sch41_11b : Sch := tkN [0] <| .take 1 (some [0]) <| tkN [2] <| .one 3 <| .one 4 <| .one 5 <| tkN [6] <| .one 7 <| .done
attribute [go_sem] sch41_11b
def sch41_8b : Sch := tkN [0, 3] <| .two 1 (tkN [2] <| .one 4 <| tkN [5] <| .one 6 <| tkN [7] <| .one 8 <| tkN [9] <| .one 10 <| .done) 4 (.one 1 <| tkN [2, 5] <| .one 6 <| tkN [7] <| .one 8 <| tkN [9] <| .one 10 <| .done)
attribute [go_sem] sch41_8b
theorem c39_8 (w : World) (b : Int) (c : ByteArray) (p1 p2 p3 p4 p5 : Int) : Calls Tryz.prog 39 [.int .i64 8, .int .i64 b, .string c, .agg [.int .i64 p1, .int .i64 p2, .int .i64 p3, .int .i64 p4, .int .i64 p5].toArray].toArray w
 (RetS (.ag ((nodeC 8 b c c c ⟨#[]⟩ false false false p1 p2 p3 p4 p5 none 0 0).map .va)) w) := by
 have h := c39 w 8 b c p1 p2 p3 p4 p5
 simpa only [true_or, if_true] using h
theorem RetN.weak {α : Type} {res : α -> SV} {φ : α -> Prop} {B : α -> Asn} {g t : Nat} {cs : α -> List Value} {M M' : Nat -> Prop} {w : World} {e : Ending} {w' : World} (h : RetN res φ B g t cs M w e w') (hM : ∀ k, M k -> M' k) : RetN res φ B g t cs M' w e w' := by
 obtain ⟨x, h1, h2, h3, h4, h5, F, h6, h7⟩ := h; exact ⟨x, h1, h2, ⟨h3.os, h3.tape, h3.output, h3.size, fun k hk hn => h3.block k hk (fun hm => hn (hm.imp id (hM k)))⟩, h4, h5, F, fun k hk => (h6 k hk).imp (hM k) id, h7⟩
structure NO where
 n : N
 ka : Option Addr
 kc : Nat
 col : Int
def NO.res (x : NO) : SV := .ag ((x.n.cells x.ka x.kc).map .va)
def NO.trs (x : NO) : Asn := Trs 31 19 (.slice x.ka x.n.kids.length x.kc) (N.gs x.n.kids)
def NO.cs (x : NO) : List Value := [.int .i64 1, .int .i64 x.col]
theorem retN_fin1 {α : Type} {P : Program} {w0 : World} {g : Nat} {S : St} {A : Facts} {a : Act} {w : World} {r : Nat -> Nat} {own : Nat -> Option Ent} (hs : Sim ⟨P, w0, fun k => k ∈ [g], [], rtOf 0 [g]⟩ S A a w r own) {t : Nat} {res : α -> SV} {φ : α -> Prop} {B : α -> Asn} {cs : α -> List Value}
 (x : α) (hx : φ x) (hm : (0, t, (cs x).map .va) ∈ S.h) {u : Value} (hu : ∀ r, (res x).ok r u) {j : Nat} (hj : (j, B x) ∈ A) : RetN res φ B g t cs (fun _ => False) w0 (.returned u) w := by
 have hr := (hs.rts 0 g (List.mem_singleton_self _)).2; have e3 := (hs.heap 0 t _ hm).2.2.1; have e4 := hs.blk hm
 have e6 : ∀ v ∈ cs x, v.oneCell' = true := by
  obtain ⟨_, _, _, vs, e4', e5, e6⟩ := hs.heap 0 t _ hm
  have hv : vs = cs x := by
   have := CL_den (by simp [Cl.known]) e5; rw [this, List.map_map]; exact (List.map_congr_left fun v _ => rfl).trans (List.map_id _)
  exact hv ▸ e6
 rw [hr] at e4 e3
 refine ⟨x, hx, ⟨u, rfl, hu⟩, ⟨hs.frm.os, hs.frm.tape, hs.frm.output, hs.frm.size, fun k hk hn => hs.frm.block k hk (fun hm => hn (.inl (by simpa using hm)))⟩, e4, e6, fun k => own k = some (.fa j), fun k hk => ?_, (hs.fact j _ hj).2⟩
 obtain ⟨b1, b2⟩ := hs.bnd k _ hk
 rcases b2 with b2 | b2
 · exact .inr ⟨b2, b1⟩
 · have hkg : k = g := by simpa using b2
   have hk' : own k = some (.fa j) := hk; rw [hkg, e3] at hk'
   cases hk'
theorem plain_shape {q : Prop} {v : ByteArray} {k ty : Int} {val : ByteArray} {c : Int} (h : plainN v (k, ty, val)) (hq : q -> bt v 0 ≠ 43) (h1 : 1 <= c) (h2 : c <= 200) : N.ok q (.mk k ty val v false c []) /\ keyK k := by
 refine ⟨⟨h1, h2, trivial, ?_, fun _ => rfl⟩, ?_⟩
 · rcases h with h | h | h | h | h | h | h
   exact .inl ⟨h.1, rfl⟩; exact .inr (.inl ⟨h.1, rfl, h.2.2⟩); exact .inr (.inr (.inl ⟨h.1, rfl, .inr (.inr (.inl h))⟩)); exact .inr (.inr (.inr (.inl ⟨h.1, rfl, .inr (.inr (.inr (.inl h))), hq⟩))); exact .inr (.inr (.inr (.inr (.inl ⟨h.1, rfl, .inr (.inr (.inr (.inr (.inl h)))), hq⟩)))); exact .inr (.inr (.inr (.inr (.inr (.inl ⟨h.1, rfl, .inr (.inr (.inr (.inr (.inr (.inl h))))), hq⟩))))); exact .inr (.inr (.inr (.inr (.inr (.inr (.inl ⟨h.1, rfl, .inr (.inr (.inr (.inr (.inr (.inr h)))))⟩))))))
 · have : k = 8 \/ k = 2 \/ k = 3 \/ k = 4 \/ k = 5 \/ k = 6 \/ k = 7 := by
    rcases h with h | h | h | h | h | h | h
    exact .inl h.1; exact .inr (.inl h.1); exact .inr (.inr (.inl h.1)); exact .inr (.inr (.inr (.inl h.1))); exact .inr (.inr (.inr (.inr (.inl h.1)))); exact .inr (.inr (.inr (.inr (.inr (.inl h.1))))); exact .inr (.inr (.inr (.inr (.inr (.inr h.1)))))
   refine ⟨?_, ?_, ?_⟩ <;> omega
theorem ok_str {q : Prop} {ty : Int} {v t : ByteArray} {c : Int} (h1 : 1 <= c) (h2 : c <= 200) : N.ok q (.mk 8 ty v t false c []) := ⟨h1, h2, trivial, .inl ⟨rfl, rfl⟩, fun _ => rfl⟩
theorem ok_lit {q : Prop} {ty : Int} {v t : ByteArray} {c c2 : Int} (h1 : 1 <= c) (h2 : c <= 200) (h3 : 1 <= c2) (h4 : c2 <= 200) : N.ok q (.mk 10 ty v t false c [.mk 8 31 v v false c2 []]) :=
 ⟨h1, h2, ⟨ok_str h3 h4, trivial⟩, .inr (.inr (.inr (.inr (.inr (.inr (.inr (.inl ⟨rfl, _, rfl, rfl, rfl⟩))))))), fun _ => rfl⟩
attribute [go_sem] NO.res NO.trs NO.cs
theorem c41 (w : World) (g : Nat) (col st : Int) (v an tg : ByteArray) (ka : Option Addr) (kn kc : Nat) (q : Prop) (hv : v.size <= 1048576) (hgs : goodS v st) (hc1 : 1 <= col) (hc2 : col <= 1000000) (hg : w.heap[g]? = some (.cells [.int .i64 1, .int .i64 col].toArray 65 (0, 0))) (hq : q -> st = 1 -> bt v 0 ≠ 43) :
 Calls Tryz.prog 41 [.pointer (some ⟨g, 0, none⟩), .agg (treeC 1 v an tg st ka kn kc).toArray].toArray w
  (RetN NO.res (fun x => x.n.ok q /\ keyK x.n.k /\ col + x.n.cnt <= x.col /\ x.col <= col + 2) NO.trs g 65 NO.cs (fun _ => False) w) := by
 have hh := HpOk_one hg rfl; have hm := Int.tmod_lt_of_pos (col - 1) (show (0 : Int) < 200 by decide); have hm0 := Int.tmod_nonneg (200 : Int) (show (0 : Int) <= col - 1 by omega); have hn := Int.tmod_lt_of_pos (col + 1 - 1) (show (0 : Int) < 200 by decide); have hn0 := Int.tmod_nonneg (200 : Int) (show (0 : Int) <= col + 1 - 1 by omega)
 refine calls_startG 1000 [g] [(0, 65, [.va (.int .i64 1), .va (.int .i64 col)])] [.sc (.pt 0 0), .ag ((treeC 1 v an tg st ka kn kc).map .va)] Tryz.func41 rfl ⟨⟨rfl, rfl⟩, ⟨rfl, rfl⟩, trivial⟩ zp hh fun E hX hP hA hQ => ?_
 repeat' first
  | refine zA ?_ | apply zI <;> intro hdec | with_reducible constructor
  | (with_reducible show WC _ (.region 1 _ _) _ _
     apply WC_drawn 900 sch41_1b [6] [(0, [3, 6])] hP
     exact zq1; exact zq2; exact zq1)
  | refine zu 8 sch41_8b [4, 6, 8, 10] ?_
  | (with_reducible show WC _ (.region 11 _ _) _ _
     apply WC_drawn 900 sch41_11b [7] [(0, [3, 7])] hP
     exact zq1; exact zq2; exact zq1)
  | (refine zr77 ?_; rintro - - E2 h1 h2 h3; refine zz ?_; intro hX hP hA hQ) | (refine zr62 ?_; rintro - - E2 h1 h2 h3; refine zz ?_; intro hX hP hA hQ)
  | (refine zdS 39 (.ag [.va (.int .i64 8), .va (.int .i64 31), .va (.string v), .va (.string v), .va (.string v), .va (.string ⟨#[]⟩), .va (.bool false), .va (.bool false), .va (.bool false), .va (.int .i64 1), .va (.int .i64 (1 + (col - 1).tmod 200)), .va (.int .i64 (1 + (col - 1).tmod 200)), .va (.int .i64 0), .va (.int .i64 0), .va (.slice none 0 0), .va (.slice none 0 0), .va (.slice none 0 0), .va (.slice none 0 0), .va (.slice none 0 0)]) ?_ ?_
     · (intro a w r own hSim; simp only [go_sem]; have hc := c39_8 w 31 v 1 (1 + (col - 1).tmod 200) (1 + (col - 1).tmod 200) 0 0; simp only [nodeC, List.map_cons, List.map_nil] at hc; with_reducible exact hc))
  | (refine zdS 39 (.ag [.va (.int .i64 8), .va (.int .i64 31), .va (.string v), .va (.string v), .va (.string v), .va (.string ⟨#[]⟩), .va (.bool false), .va (.bool false), .va (.bool false), .va (.int .i64 1), .va (.int .i64 (1 + (col + 1 - 1).tmod 200)), .va (.int .i64 (1 + (col + 1 - 1).tmod 200)), .va (.int .i64 0), .va (.int .i64 0), .va (.slice none 0 0), .va (.slice none 0 0), .va (.slice none 0 0), .va (.slice none 0 0), .va (.slice none 0 0)]) ?_ ?_
     · (intro a w r own hSim; simp only [go_sem]; have hc := c39_8 w 31 v 1 (1 + (col + 1 - 1).tmod 200) (1 + (col + 1 - 1).tmod 200) 0 0; simp only [nodeC, List.map_cons, List.map_nil] at hc; with_reducible exact hc))
  | (apply WO_call0 (α := Int × Int × ByteArray) (f := 81) 900 (fun x => .ag [.va (.int .i64 x.1), .va (.int .i64 x.2.1), .va (.string x.2.2), .va (.string v), .va (.string v), .va (.string ⟨#[]⟩), .va (.bool false), .va (.bool false), .va (.bool false), .va (.int .i64 1), .va (.int .i64 (1 + (col - 1).tmod 200)), .va (.int .i64 (1 + (col - 1).tmod 200)), .va (.int .i64 0), .va (.int .i64 0), .va (.slice none 0 0), .va (.slice none 0 0), .va (.slice none 0 0), .va (.slice none 0 0), .va (.slice none 0 0)]) (plainN v) hP
     rfl; exact zq1; exact zq32; exact zq0
     · (intro a w r own hSim; simp only [go_sem]; have hc := c81 v 1 (1 + (col - 1).tmod 200) (1 + (col - 1).tmod 200) 0 0 (some ⟨r 0, 0, none⟩) zo w; simp only [nodeC, List.map_cons, List.map_nil] at hc; with_reducible exact hc)
     rintro ⟨zk, zty, zv⟩ hpl)
  | refine zr33 ?_ | refine zs27 ?_
 all_goals try first
  | omega | (unfold I64; omega) | (have := hgs.1; have := hgs.2.1; unfold I64; omega)
 all_goals (intro a w' r own hs')
 all_goals try first
  | (obtain ⟨own2, hs2⟩ := hs'.addE (B := Trs 31 19 (.slice none ([] : List N).length 0) (N.gs [])) (fun w => GS.nil)
     exact retN_fin1 hs2 ⟨.mk 8 18 v v false (1 + (col - 1).tmod 200) [], none, 0, col + 1⟩ ⟨ok_str zo zo, (by unfold keyK; decide : keyK 8), (by (try simp only [N.cnt, N.cntl]); omega), (by (try simp only [N.cnt, N.cntl]); omega)⟩ zm (fun r => ⟨_, rfl, CL_va _⟩) zm)
  | (obtain ⟨own2, hs2⟩ := hs'.addE (B := Trs 31 19 (.slice none ([] : List N).length 0) (N.gs [])) (fun w => GS.nil)
     exact retN_fin1 hs2 ⟨.mk 8 19 v v false (1 + (col - 1).tmod 200) [], none, 0, col + 1⟩ ⟨ok_str zo zo, (by unfold keyK; decide : keyK 8), (by (try simp only [N.cnt, N.cntl]); omega), (by (try simp only [N.cnt, N.cntl]); omega)⟩ zm (fun r => ⟨_, rfl, CL_va _⟩) zm)
  | (obtain ⟨own2, hs2⟩ := hs'.addE (B := Trs 31 19 (.slice none ([] : List N).length 0) (N.gs [])) (fun w => GS.nil)
     exact retN_fin1 hs2 ⟨.mk zk zty zv v false (1 + (col - 1).tmod 200) [], none, 0, col + 1⟩ ⟨(plain_shape hpl (fun h => hq h (by have := hgs.1; have := hgs.2.1; omega)) zo zo).1, (plain_shape (q := q) hpl (fun h => hq h (by have := hgs.1; have := hgs.2.1; omega)) (c := (1 + (col - 1).tmod 200)) zo zo).2, (by (try simp only [N.cnt, N.cntl]); omega), (by (try simp only [N.cnt, N.cntl]); omega)⟩ zm (fun r => ⟨_, rfl, CL_va _⟩) zm)
  | (have h2 := hs'.conc (n := 4) (t := 31) (vals := nodeC 8 31 v v v ⟨#[]⟩ false false false 1 (1 + (col + 1 - 1).tmod 200) (1 + (col + 1 - 1).tmod 200) 0 0 none 0 0) (by simp [nodeC])
     obtain ⟨own3, h3⟩ := h2.box [(none, nvals 8 31 v v false (1 + (col + 1 - 1).tmod 200), .slice none 0 0, [])] zm (fun y hy => by obtain rfl := List.mem_singleton.1 hy; exact ⟨rfl, rfl⟩) (Nat.le_of_ble_eq_true rfl); exact retN_fin1 h3 ⟨.mk 10 (12 + st) v ⟨#[124]⟩ false (1 + (col - 1).tmod 200) [.mk 8 31 v v false (1 + (col + 1 - 1).tmod 200) []], some ⟨r 4, 0, none⟩, 1, col + 1 + 1⟩ ⟨ok_lit zo zo zo zo, (by unfold keyK; decide : keyK 10), (by (try simp only [N.cnt, N.cntl]); omega), (by (try simp only [N.cnt, N.cntl]); omega)⟩ (by simp only [go_sem, ↓reduceIte]; exact zm) (fun r => ⟨_, rfl, CL_va _⟩) zm)
  | (have h2 := hs'.conc (n := 4) (t := 31) (vals := nodeC 8 31 v v v ⟨#[]⟩ false false false 1 (1 + (col + 1 - 1).tmod 200) (1 + (col + 1 - 1).tmod 200) 0 0 none 0 0) (by simp [nodeC])
     obtain ⟨own3, h3⟩ := h2.box [(none, nvals 8 31 v v false (1 + (col + 1 - 1).tmod 200), .slice none 0 0, [])] zm (fun y hy => by obtain rfl := List.mem_singleton.1 hy; exact ⟨rfl, rfl⟩) (Nat.le_of_ble_eq_true rfl); exact retN_fin1 h3 ⟨.mk 10 (12 + st) v ⟨#[62]⟩ false (1 + (col - 1).tmod 200) [.mk 8 31 v v false (1 + (col + 1 - 1).tmod 200) []], some ⟨r 4, 0, none⟩, 1, col + 1 + 1⟩ ⟨ok_lit zo zo zo zo, (by unfold keyK; decide : keyK 10), (by (try simp only [N.cnt, N.cntl]); omega), (by (try simp only [N.cnt, N.cntl]); omega)⟩ (by simp only [go_sem, ↓reduceIte]; exact zm) (fun r => ⟨_, rfl, CL_va _⟩) zm)
