/- Lemmas for FnFilterTree; each condition stands in its statement. -/
import Derived.Test.YtbfenkhnfflpnaaGreatDoorGdg
namespace Go.Proofs.YtbfenkhnfflpnaaGreatDoor.Sx
open Go Go.RowKit
set_option maxRecDepth 100000
set_option maxHeartbeats 40000000
set_option linter.all false
section
attribute [local irreducible] leT leH WO WX WC WD LS WS WQ
def zs270 : List Value := List.replicate 800 (.int .u8 0) ++ [.int .i64 0, .int .i64 0, .bool false, .bool false]
theorem z270 : zeroT Tryz.prog 270 = some zs270 := zk
theorem zl270 : zs270.length = 804 := by simp [zs270]
theorem zf270 : ∀ i, i < 804 -> zs270[i]? = some (decF 0 0 false false (fun _ => 0) i) := by
 intro i hi
 unfold zs270 decF
 rcases Nat.lt_or_ge i 800 with h | h
 · rw [List.getElem?_append_left (by simpa using h), List.getElem?_replicate, if_pos h, if_pos h]
 · rw [List.getElem?_append_right (by simpa using h), List.length_replicate, if_neg zo]
   have : i = 800 \/ i = 801 \/ i = 802 \/ i = 803 := by omega
   rcases this with rfl | rfl | rfl | rfl <;> rfl
theorem z1270 : ∀ v ∈ zs270, v.oneCell' = true := by
 intro v hv
 unfold zs270 at hv
 rcases List.mem_append.1 hv with h | h
 · rw [(List.mem_replicate.1 h).2]; rfl
 · simp only [List.mem_cons, List.not_mem_nil, or_false] at h
   rcases h with rfl | rfl | rfl | rfl <;> rfl
theorem za270 : zs270.all Value.oneCell' = true := List.all_eq_true.2 z1270
theorem exAll (s : ByteArray) : s.extract 0 s.size = s := by
 apply ByteArray.ext
 simp
theorem notGl {w0 : World} {F : Nat -> Prop} {P : Program} {S : St} {A : Facts} {a : Act} {w : World} {r : Nat -> Nat} {own : Nat -> Option Ent} (hG : Gl w0 F) (hs : Sim ⟨P, w0, fun _ => False, [], []⟩ S A a w r own) {j g t n : Nat} {f : Nat -> Value} (hj : (j, FnA g t n f) ∈ A) : ¬ F g := fun hF => by
 have h1 := (FnA.own hs hj g).2 rfl
 rcases (hs.bnd g _ h1).2 with h | h
 · have := hG.lt g hF; exact absurd this (Nat.not_lt.2 h)
 · exact h
theorem c116 (w : World) (F : Nat -> Prop) (hG : Gl w F) (s : ByteArray) (hs : s.size <= 2147483647) (hF : FW s) : Calls Tryz.prog 116 [.string s].toArray w (Ret0 (fun x : Nat × Int × Value => .tu [.sc (.va (.float .f64 x.1)), .sc (.va (.int .i64 x.2.1)), .sc (.va x.2.2)]) (fun x => errV x.2.2) w) := by
 have hext := exAll s
 refine calls_start 1000 Tryz.func116 rfl fun E hX hP hA hQ => ?_
 repeat' first
  | refine zC ?_ | apply zI <;> intro hdec | with_reducible constructor
  | (apply WO_call0 (α := Nat × Int × Bool) (f := 144) 900 (fun x : Nat × Int × Bool => .tu [.sc (.va (.float .f64 x.1)), .sc (.va (.int .i64 x.2.1)), .sc (.va (.bool x.2.2))]) (fun x => 0 <= x.2.1 /\ x.2.1 <= 10) hP
     rfl; exact zq1; exact fun _ => tulv [_, _, _]; exact zq0
     · (intro a w r own hSim; simp only [go_sem]; with_reducible exact c144 _ hs _)
     rintro ⟨f0, n0, b0⟩ hx0
     cases b0)
  | (apply WO_call0 (α := Int × Int × Bool × Bool × Bool × Int × Bool) (f := 145) 900 (fun x : Int × Int × Bool × Bool × Bool × Int × Bool => .tu [.sc (.va (.int .u64 x.1)), .sc (.va (.int .i64 x.2.1)), .sc (.va (.bool x.2.2.1)), .sc (.va (.bool x.2.2.2.1)), .sc (.va (.bool x.2.2.2.2.1)), .sc (.va (.int .i64 x.2.2.2.2.2.1)), .sc (.va (.bool x.2.2.2.2.2.2))]) (fun x => x.2.2.2.2.2.2 = true -> U64 x.1 /\ (-22 <= x.2.1 /\ x.2.1 <= 0) /\ x.2.2.2.2.1 = false /\ x.2.2.2.2.2.1 = s.size /\ (x.2.2.2.1 = true -> Slow s)) hP
     rfl; exact zq1; exact fun _ => tulv [_, _, _, _, _, _, _]; exact zq0
     · (intro a w r own hSim; simp only [go_sem]; with_reducible exact c145w _ hs hF _)
     rintro ⟨dm, dp, ng, tr, hx, nn, ok⟩ hx1
     rcases ok with _ | _
     rotate_left 1
     obtain ⟨u1, u2, u3, u4, u5⟩ := hx1 rfl; dsimp only at u1 u2 u3 u4 u5; subst u3; subst u4
     rcases tr with _ | _)
  | (refine zc0 (α := Int) 153 (fun x : Int => .sc (.va (.int .u64 x))) (fun x => 0 <= x /\ x <= 1) ?_ ?_; exact zq80; intro sg hsg)
  | (apply WO_call0 (α := Nat × Bool) (f := 155) 900 (fun x : Nat × Bool => .tu [.sc (.va (.float .f64 x.1)), .sc (.va (.bool x.2))]) (fun _ => True) hP
     rfl; exact zq1; exact zq35; exact zq0
     · (intro a w r own hSim; simp only [go_sem]; rw [hX] at hSim; have hGs := (hG.of hSim (fun k hk h => h)); with_reducible exact c155 _ F hGs _ _ _ u1 u2.1 u2.2)
     rintro ⟨f2, b2⟩ _
     cases b2)
  | (apply WO_call0 (α := Nat × Value) (f := 156) 900 (fun x : Nat × Value => .tu [.sc (.va (.float .f64 x.1)), .sc (.va x.2)]) (fun x => errV x.2) hP
     rfl; exact zq1; exact zq35; exact zq0
     · (intro a w r own hSim; simp only [go_sem]; rw [hX] at hSim; have hGs := (hG.of hSim (fun k hk h => h)); with_reducible exact c156 _ F hGs _ _ _ u1 zo zo)
     rintro ⟨f3, e3⟩ he3)
  | (apply WO_call0 (α := Nat × Value) (f := 156) 900 (fun x : Nat × Value => .tu [.sc (.va (.float .f64 x.1)), .sc (.va x.2)]) (fun x => errV x.2) hP
     rfl; exact zq1; exact zq35; exact zq0
     · (intro a w r own hSim; simp only [go_sem]; rw [hX] at hSim; have hGs := (hG.of hSim (fun k hk h => h)); with_reducible exact c156 _ F hGs _ _ _ (wrapU64_rng _) zo zo)
     rintro ⟨f4, e4⟩ he4)
  | (refine zr40 ?_; intro fb _)
  | (refine WO_LE 850 (LS_fcmp .f64 ?_ ?_ ?_) ?_
     exact zq0; exact zq0; rfl; intro vb _
     cases vb)
  | (refine WO_concF 0 270 804 zs270 (decF 0 0 false false (fun _ => 0)) ?_ zl270 zf270 ?_; rfl; intro g E2 h1 h2 h3; simp only [go_sem, ↓reduceIte, Nat.reduceAdd, Nat.zero_add]; refine zz ?_; intro hX hP hA hQ)
  | (refine WO_LS 850 (LS_callD (α := Int × Int × Bool × (Nat -> Int)) (f := 151) g 270 804 _ _ (fun _ => .sc (.va (.bool true))) (fun x => 1 <= x.1 /\ x.1 <= 800 /\ (0 <= x.2.1 /\ x.2.1 <= 18) /\ dgOk x.2.2.2 x.1 /\ 49 <= x.2.2.2 0) (fun x => DecA g x.1 x.2.1 x.2.2.1 false x.2.2.2) hP rfl ?_ ?_ ?_ zw0 ?_) ?_
     exact zq1; exact zq9; exact zq0
     · (intro a w r own hSim hDD; rw [hX] at hSim; simp only [go_sem, hext]; with_reducible exact c151w _ g _ hDD s hs (u5 rfl))
     rintro ⟨nd5, dp5, ng5, dg5⟩ hx5 E2 h1 h2 h3; refine zz ?_; intro hX hP hA hQ)
  | (refine WO_LS 850 (LS_callD (α := Int × Int × Int × Bool × (Nat -> Int)) (f := 152) g 270 804 _ _ (fun x => .tu [.sc (.va (.int .u64 x.1)), .sc (.va (.bool false))]) (fun _ => True) (fun x => DecA g x.2.1 x.2.2.1 ng5 x.2.2.2.1 x.2.2.2.2) hP rfl ?_ ?_ ?_ zw0 ?_) ?_
     exact zq1; exact zq35; exact zq0
     · (intro a w r own hSim hDD; rw [hX] at hSim; simp only [go_sem, hext]; have hGs := (hG.of hSim (fun k hk h => h)); have hnF := (notGl hG hSim zw0); with_reducible exact c152 _ F hGs g hnF nd5 dp5 ng5 false dg5 hDD hx5.1 hx5.2.1 hx5.2.2.1 hx5.2.2.2.1 hx5.2.2.2.2)
     rintro ⟨b6, nd6, dp6, t6, dg6⟩ _ E2 h1 h2 h3; refine zz ?_; intro hX hP hA hQ)
  | (refine WO_LE 850 (LS_rc (⟨2, 0, none⟩) [.bool true] false hX ?_ ?_ ?_ ?_ (fun _ => rfl)) ?_; exact zq0; exact one_cell hG.opt.2; exact zq8; exact sz4; intro _ _)
  | simp (maxSteps := 20000000) only [Tryz.f116, go_sem, zL, ↓reduceIte, reduceCtorEq, Nat.reduceAdd, Nat.reduceMul, Nat.reduceSub, Nat.reduceLeDiff, Nat.reduceEqDiff, Nat.reduceLT, Nat.reduceBEq, Int.reduceEq, hP, hX, Int.toNat_natCast, hext, z270, za270]
 all_goals try first
  | (exfalso; omega) | omega | (unfold I64; omega)
 all_goals
  (intro a w' r' own hs'
   refine ⟨(_, _, _), ?_, ⟨_, rfl, fun r => tuv [_, _, _]⟩, hs'.frm⟩
   first
   | exact .inl rfl
   | exact .inr (.inl rfl)
   | exact .inr (.inr rfl)
   | with_reducible exact he3
   | with_reducible exact he4)
abbrev RE (w : World) := Ret0 (fun g : Nat => .sc (.va (.iface 216 (.pointer (some ⟨g, 0, none⟩))))) (fun _ => True) w
theorem c44 (w : World) (F : Nat -> Prop) (hG : Gl w F) (fn s : ByteArray) (hs : s.size <= 2147483647) (b c n : Int) (hn : n = 1 \/ n = 2) :
 Calls Tryz.prog 44 [.string fn, .string s, .int .i64 b, .int .i64 c, .iface 215 (.int .i64 n)].toArray w (RE w) := by
 rcases hn with rfl | rfl
 · obtain ⟨_, t, v, h1⟩ := hG.er
   refine (Tryz.strconv_toError_range fn s b c _ w zo h1 (.inr ⟨t, v, rfl⟩)).mono ?_
   rintro e w' ⟨N, rfl, _, _, hb⟩; exact ⟨N, trivial, ⟨_, rfl, fun r => .inr rfl⟩, Frm.of_below hb⟩
 · obtain ⟨_, t, v, h1⟩ := hG.es
   refine (Tryz.strconv_toError_syntax fn s b c _ w zo h1 (.inr ⟨t, v, rfl⟩)).mono ?_
   rintro e w' ⟨N, rfl, _, _, hb⟩; exact ⟨N, trivial, ⟨_, rfl, fun r => .inr rfl⟩, Frm.of_below hb⟩
theorem c82 (w : World) (F : Nat -> Prop) (hG : Gl w F) (s : ByteArray) (hs : s.size <= 2147483647) (hF : FW s) : Calls Tryz.prog 82 [.string s, .int .i64 64].toArray w (Ret0 (fun x : Nat × Int × Value => .tu [.sc (.va (.float .f64 x.1)), .sc (.va (.int .i64 x.2.1)), .sc (.va x.2.2)]) (fun x => errV x.2.2) w) := by
 refine calls_start 1000 Tryz.func82 rfl fun E hX hP hA hQ => ?_
 repeat' first
  | refine zA ?_ | apply zI <;> intro hdec | with_reducible constructor
  | (apply WO_call0 (α := Nat × Int × Value) (f := 116) 900 (fun x : Nat × Int × Value => .tu [.sc (.va (.float .f64 x.1)), .sc (.va (.int .i64 x.2.1)), .sc (.va x.2.2)]) (fun x => errV x.2.2) hP
     rfl; exact zq1; exact fun _ => tulv [_, _, _]; exact zq0
     · (intro a w r own hSim; simp only [go_sem]; rw [hX] at hSim; have hGs := (hG.of hSim (fun k hk h => h)); with_reducible exact c116 _ F hGs s hs hF)
     rintro ⟨f1, n1, e1⟩ he1)
  | refine zs0 ?_
 all_goals try first
  | (exfalso; omega) | (intro a w' r' own hs'; exact ⟨(_, _, _), he1, ⟨_, rfl, fun r => tuv [_, _, _]⟩, hs'.frm⟩) | (intro a w' r' own hs'; exact ⟨(_, _), he1, ⟨_, rfl, fun r => tuv [_, _]⟩, hs'.frm⟩) | (intro a w' r' own hs'; exact ⟨(_, _), .inr (.inr rfl), ⟨_, rfl, fun r => tuv [_, _]⟩, hs'.frm⟩)
theorem c43 (w : World) (F : Nat -> Prop) (hG : Gl w F) (s : ByteArray) (hs : s.size <= 2147483647) (hF : FW s) : Calls Tryz.prog 43 [.string s, .int .i64 64].toArray w (RF w) := by
 refine calls_start 1000 Tryz.func43 rfl fun E hX hP hA hQ => ?_
 repeat' first
  | refine zA ?_ | apply zI <;> intro hdec | with_reducible constructor
  | (apply WO_call0 (α := Nat × Int × Value) (f := 82) 900 (fun x : Nat × Int × Value => .tu [.sc (.va (.float .f64 x.1)), .sc (.va (.int .i64 x.2.1)), .sc (.va x.2.2)]) (fun x => errV x.2.2) hP
     rfl; exact zq1; exact fun _ => tulv [_, _, _]; exact zq0
     · (intro a w r own hSim; simp only [go_sem]; rw [hX] at hSim; have hGs := (hG.of hSim (fun k hk h => h)); with_reducible exact c82 _ F hGs s hs hF)
     rintro ⟨f1, n1, e1⟩ he1)
  | refine zs0 ?_
 all_goals try first
  | (exfalso; omega) | (intro a w' r' own hs'; exact ⟨(_, _, _), he1, ⟨_, rfl, fun r => tuv [_, _, _]⟩, hs'.frm⟩) | (intro a w' r' own hs'; exact ⟨(_, _), he1, ⟨_, rfl, fun r => tuv [_, _]⟩, hs'.frm⟩) | (intro a w' r' own hs'; exact ⟨(_, _), .inr (.inr rfl), ⟨_, rfl, fun r => tuv [_, _]⟩, hs'.frm⟩)
def errP (e : Value) : Prop := e = .nilIface \/ ∃ g, e = .iface 216 (.pointer (some ⟨g, 0, none⟩))
theorem c22 (w : World) (F : Nat -> Prop) (hG : Gl w F) (s : ByteArray) (hs : s.size <= 2147483647) (hF : FW s) : Calls Tryz.prog 22 [.string s, .int .i64 64].toArray w (Ret0 (fun x : Nat × Value => .tu [.sc (.va (.float .f64 x.1)), .sc (.va x.2)]) (fun x => errP x.2) w) := by
 refine calls_start 1000 Tryz.func22 rfl fun E hX hP hA hQ => ?_
 repeat' first
  | refine zA ?_ | apply zI <;> intro hdec | with_reducible constructor
  | (apply WO_call0 (α := Nat × Value) (f := 43) 900 (fun x : Nat × Value => .tu [.sc (.va (.float .f64 x.1)), .sc (.va x.2)]) (fun x => errV x.2) hP
     rfl; exact zq1; exact zq35; exact zq0
     · (intro a w r own hSim; simp only [go_sem]; rw [hX] at hSim; have hGs := (hG.of hSim (fun k hk h => h)); with_reducible exact c43 _ F hGs s hs hF)
     rintro ⟨f1, e1⟩ he1; dsimp only at he1
     rcases he1 with rfl | rfl | rfl)
  | (refine zc0 (α := Nat) 44 (fun g : Nat => .sc (.va (.iface 216 (.pointer (some ⟨g, 0, none⟩))))) (fun _ => True) ?_ ?_
     · (intro a w r own hSim; simp only [go_sem]; rw [hX] at hSim; have hGs := (hG.of hSim (fun k hk h => h)); with_reducible exact c44 _ F hGs _ s hs _ _ _ zo)
     intro g4 _)
  | refine zs0 ?_
 all_goals try first
  | (exfalso; omega) | (intro a w' r' own hs'; exact ⟨(_, _), .inl rfl, ⟨_, rfl, fun r => tuv [_, _]⟩, hs'.frm⟩) | (intro a w' r' own hs'; exact ⟨(_, _), .inr ⟨_, rfl⟩, ⟨_, rfl, fun r => tuv [_, _]⟩, hs'.frm⟩)
