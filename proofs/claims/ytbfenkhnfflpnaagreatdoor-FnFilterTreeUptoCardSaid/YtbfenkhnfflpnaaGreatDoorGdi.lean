/- Lemmas for FnFilterTree; each condition stands in its statement. -/
import Derived.Test.YtbfenkhnfflpnaaGreatDoorGdh
namespace Go.Proofs.YtbfenkhnfflpnaaGreatDoor.Sx
open Go Go.RowKit
set_option maxRecDepth 100000
set_option maxHeartbeats 40000000
set_option linter.all false
section
attribute [local irreducible] leT leH WO WX WC WD LS WS WQ
structure LV where
 i : Nat
 st : Int
 lv : Int
 co : Int
 b6 : Bool
 b10 : Bool
 b11 : Bool
 b12 : Bool
 b13 : Bool
 b14 : Bool
 b15 : Bool
 b16 : Bool
 b17 : Bool
 b18 : Bool
 b19 : Bool
 h : Nat -> Bool
abbrev HasA (g : Nat) (h : Nat -> Bool) : Asn := FnA g 67 128 (fun i => .bool (h i))
theorem updHas (h : Nat -> Bool) (m : Nat) (b : Bool) : updF (fun i => Value.bool (h i)) m (.bool b) = fun i => Value.bool (if i = m then b else h i) := by
 funext i
 unfold updF
 split <;> rfl
theorem and127 (x : Int) : ∃ m : Nat, IntKind.u8.wrap ((BitVec.ofInt IntKind.u8.bits x &&& BitVec.ofInt IntKind.u8.bits 127).toNat : Int) = m /\ m < 128 := by
 show ∃ m : Nat, IntKind.u8.wrap ((BitVec.ofInt 8 x &&& BitVec.ofInt 8 127).toNat : Int) = m /\ m < 128
 have h : (BitVec.ofInt 8 x &&& BitVec.ofInt 8 127).toNat <= 127 := by
  rw [BitVec.toNat_and]; exact Nat.le_trans Nat.and_le_right zi
 refine ⟨(BitVec.ofInt 8 x &&& BitVec.ofInt 8 127).toNat, ?_, zo⟩
 simp only [wrapU8_eq]; omega
def zs67 : List Value := List.replicate 128 (.bool false)
theorem z67 : zeroT Tryz.prog 67 = some zs67 := zk
theorem zf67 : ∀ i, i < 128 -> zs67[i]? = some (.bool ((fun _ => false : Nat -> Bool) i)) := fun i hi => by
 unfold zs67
 rw [List.getElem?_replicate, if_pos hi]
theorem z167 : ∀ v ∈ zs67, v.oneCell' = true := fun v hv => by
 unfold zs67 at hv
 rw [(List.mem_replicate.1 hv).2]; rfl
theorem za67 : zs67.all Value.oneCell' = true := List.all_eq_true.2 z167
theorem ar67 : arT Tryz.prog 67 = some (128, 1) := zk
theorem el67 : elT Tryz.prog 67 = none := zk
abbrev FmtF (F : Nat -> Prop) : Prop := ∀ w, Gy w F -> ∀ b : Nat, Calls Tryz.prog 23 [.float .f64 b, .int .u8 103, .int .i64 (-1), .int .i64 64].toArray w (Ret0 (fun z : ByteArray => .sc (.va (.string z))) (fun _ => True) w)
theorem us68 : (Tryz.prog.underlying 68).isSome = true := zk
theorem c24t (w : World) (F : Nat -> Prop) (hG : Gy w F) (n : Int) (hn : I64 n) : Calls Tryz.prog 24 [.int .i64 n, .int .i64 10].toArray w (Ret0 (fun z : ByteArray => .sc (.va (.string z))) (fun _ => True) w) :=
 (c24 w F hG n hn).mono fun e w' h => ⟨_, trivial, h.1, h.2⟩
theorem c12 (F : Nat -> Prop) (hF23 : FmtF F) (w : World) (hG : Gy w F) (v : ByteArray) (hs0 : v.size <= 2147483647) (hv : v = ⟨#[]⟩ \/ plainW v) :
 Calls Tryz.prog 12 [.string ⟨#[70, 110, 70, 105, 108, 116, 101, 114, 84, 114, 101, 101]⟩, .string v].toArray w (Ret0 (fun b : Bool => .sc (.va (.bool b))) (fun b => b = false -> bt v 0 ≠ 43) w) := by
 refine calls_start 1000 Tryz.func12 rfl fun E hX hP hA hQ => ?_
 repeat' first
  | (first | apply zd1 | apply zd2 | apply zd3 | apply zd4) <;> intro hdec <;> try first | (exfalso; omega) | rw [zt hdec] | rw [zf hdec]
  | with_reducible first | refine WX_fin hX rfl hQ (.inl rfl) ?_ | apply And.intro | exact True.intro
  | (with_reducible show WC _ (.loop (.seq (.seq (.region 5 _ _) _) _)) _ _
     apply WC_concF 0 67 128 zs67 (fun i => .bool ((fun _ => false : Nat -> Bool) i)) rfl rfl zf67
     intro g E2 h1 h2 h3
     simp (maxSteps := 20000000) only [go_sem, ↓reduceIte, Nat.reduceAdd, Nat.zero_add]
     have z := zn h1 (zg h2) h3 hX hQ; clear hX hP hA hQ h1 h2 h3; obtain ⟨hX, hP, hA, hQ⟩ := z)
  | (with_reducible show WC _ (.loop (.seq (.seq (.region 5 _ _) _) _)) _ _
     apply WC_loopG (ι := LV) (fun x => x.i <= v.size /\ (0 <= x.st /\ x.st <= x.i) /\ (0 <= x.lv /\ x.lv <= x.i) /\ (0 <= x.co /\ x.co <= x.i)) [25, 26, 27, 28, 31, 32, 33, 21, 34, 35, 36, 37, 38, 39, 40, 41, 42, 43, 44, 45, 46, 47, 48, 49, 50, 51, 52, 53, 54, 55, 56, 57, 58, 59, 60, 6, 61, 62, 63, 64, 7, 65, 66, 67, 68, 69, 70, 71, 72, 73, 74, 75, 76, 8, 22, 77, 78, 79, 80, 81, 82, 83, 84, 85, 86, 87, 88, 89, 90, 91, 92, 93, 94, 11, 95, 96, 97, 98, 99, 100, 101, 102, 103, 104, 105, 106, 107, 108, 109, 110, 111, 112, 113, 114, 115, 116, 117, 12, 118, 119, 120, 121, 122, 123, 124, 125, 126, 127, 128, 129, 130, 131, 13, 132, 133, 134, 135, 136, 137, 138, 139, 15, 140, 141, 142, 143, 144, 16, 145, 146, 147, 148, 149, 150, 151, 152, 153, 154, 155, 156, 157, 18, 158, 159, 160, 161, 162, 163, 164, 165, 166, 167, 168, 169, 170, 171, 172, 173, 174, 175, 176, 177, 178, 179, 180, 181, 182, 19, 183, 184, 185, 186, 187, 17, 188, 189, 9, 190, 191, 192, 193, 194, 195, 10, 196, 197, 198, 199, 200, 201, 202, 203, 204, 205, 206, 14, 29, 30, 20] (fun x => [(20, .sc (.va (.int .i64 x.i))), (7, .sc (.va (.int .i64 x.st))), (8, .sc (.va (.int .i64 x.lv))), (9, .sc (.va (.int .i64 x.co))), (6, .sc (.va (.bool x.b6))), (10, .sc (.va (.bool x.b10))), (11, .sc (.va (.bool x.b11))), (12, .sc (.va (.bool x.b12))), (13, .sc (.va (.bool x.b13))), (14, .sc (.va (.bool x.b14))), (15, .sc (.va (.bool x.b15))), (16, .sc (.va (.bool x.b16))), (17, .sc (.va (.bool x.b17))), (18, .sc (.va (.bool x.b18))), (19, .sc (.va (.bool x.b19)))]) (fun _ => []) (fun x => [(0, HasA g x.h)]) (fun x => v.size - x.i) ⟨0, 0, 0, 0, false, true, false, false, false, false, false, false, false, false, false, fun _ => false⟩ ⟨zj, zj, zj, zj⟩ [(0, 0)] hX
     · (simp only [go_sem, Nat.reduceEqDiff, ↓reduceIte, Int.ofNat_zero, Int.cast_ofNat_Int, true_and, and_self, Int.natCast_zero]; try (repeat' first | exact True.intro | with_reducible rfl | exact svI zo | refine And.intro ?_ ?_))
     exact zq5; exact zq7; exact zq5; rfl; rfl; rfl; exact zq4; rintro ⟨i, st, lv, co, b6, b10, b11, b12, b13, b14, b15, b16, b17, b18, b19, hs⟩ ⟨hi1, hi2, hi3, hi4⟩ E' hX' hA' hQ' J hJ; rw [hQ] at hQ'; clear hQ hA hP hX; have hP := zP hX'; have hX := hX'; have hQ := hQ'; have hA := hA'; clear hX' hQ' hA'; dsimp only at hi1 hi2 hi3 hi4 hA)
  | simp (maxSteps := 20000000) only [Tryz.f12, go_sem, zL, ↓reduceIte, reduceCtorEq, Nat.reduceAdd, Nat.reduceMul, Nat.reduceSub, Nat.reduceLeDiff, Nat.reduceEqDiff, Nat.reduceLT, Nat.reduceBEq, Int.reduceEq, hP, hX, Int.toNat_natCast, z67, za67]
 try (simp (maxSteps := 20000000) only [go_sem, Nat.reduceAdd, Nat.reduceSub, Nat.reduceEqDiff, ↓reduceIte, List.replicate])
 apply WC_cutG (ι := Unit) (fun _ => i < v.size) [25, 26, 27, 28] (fun _ => []) (fun _ => [(0, HasA g hs)]) hX
 · intro J2 hJ2
   refine vc_ok 900 _ _ _ ?_
   repeat' first
    | (first | apply zd1 | apply zd2 | apply zd3 | apply zd4) <;> intro hdec <;> try first | exact zqd | rw [zt hdec] | rw [zf hdec]
    | with_reducible first | refine WX_fin hX rfl hQ (.inl rfl) ?_ | apply And.intro | exact True.intro
    | (apply WO_call0 (α := Nat × Value) (f := 22) 900 (fun x : Nat × Value => .tu [.sc (.va (.float .f64 x.1)), .sc (.va x.2)]) (fun x => errP x.2) hP
       rfl; exact zq1; exact zq35; exact zq0
       · (intro a w r own hSim; simp only [go_sem]; have h43 : bt v 0 ≠ 43 := (by first | omega | (rw [‹v = ⟨#[]⟩›]; decide)); rw [hX] at hSim; have hGs := (hG.of hSim (fun k hk h => h)); with_reducible exact c22 _ F hGs.gl v hs0 (FW_plain hv h43))
       rintro ⟨f1, e1⟩ he1; dsimp only at he1
       rcases he1 with rfl | ⟨ge, rfl⟩)
    | (apply WO_call0 (α := ByteArray) (f := 23) 900 (fun z : ByteArray => .sc (.va (.string z))) (fun _ => True) hP
       rfl; exact zq1; exact zq9; exact zq0
       · (intro a w r own hSim; simp only [go_sem]; rw [hX] at hSim; have hGs := (hG.of hSim (fun k hk h => h)); with_reducible exact hF23 _ hGs _)
       intro z23 _)
    | (apply WO_call0 (α := ByteArray) (f := 24) 900 (fun z : ByteArray => .sc (.va (.string z))) (fun _ => True) hP
       rfl; exact zq1; exact zq9; exact zq0
       · (intro a w r own hSim; simp only [go_sem]; rw [hX] at hSim; have hGs := (hG.of hSim (fun k hk h => h)); with_reducible exact c24t _ F hGs _ hvi)
       intro z24 _)
    | (refine WO_LE 850 (LS_f2i .f64 hP us68 un2 ?_) ?_; exact zq0; intro vi hvi)
    | (refine WO_LE 850 (LS_fcmp .f64 ?_ ?_ ?_) ?_
       exact zq0; exact zq0; rfl; intro vb _
       cases vb)
    | (apply WX_lpG _ _ [(0, 0)] hX (hJ2 () zo); exact zq17; exact zq3; exact zq3; exact zq3; rfl; rfl; rfl; exact zq4)
    | simp (maxSteps := 20000000) only [Tryz.f12, go_sem, zL, ↓reduceIte, reduceCtorEq, Nat.reduceAdd, Nat.reduceMul, Nat.reduceSub, Nat.reduceLeDiff, Nat.reduceEqDiff, Nat.reduceLT, Nat.reduceBEq, Int.reduceEq, hP, hX, Int.toNat_natCast]
   all_goals try first
    | (exfalso; omega) | omega | (unfold I64; omega)
   all_goals first
    | (have h0 := szpos (s := v) (by assumption); omega) | (intro a w' r' own hs'; exact ⟨true, (fun h => by cases h), ⟨_, rfl, fun r => .inr rfl⟩, hs'.frm⟩) | (intro a w' r' own hs'; exact ⟨_, (fun _ => by first | omega | (rw [‹v = ⟨#[]⟩›]; decide)), ⟨_, rfl, fun r => .inr rfl⟩, hs'.frm⟩)
 intro u hi E' hX' hA' hQ'; rw [hQ] at hQ'; clear hQ hA hP hX; have hP := zP hX'; have hX := hX'; have hQ := hQ'; have hA := hA'; clear hX' hQ' hA'
 refine WC_seq ?_
 refine WC_block ?_
 try (simp (maxSteps := 20000000) only [go_sem, Nat.reduceAdd, Nat.reduceSub, Nat.reduceEqDiff, ↓reduceIte, List.replicate])
 apply WC_cutG (ι := Unit) (fun _ => True) [31, 32, 33, 21] (fun _ => [(21, .sc (.va (.int .u8 (bt v i))))]) (fun _ => [(0, HasA g hs)]) hX
 · intro J2 hJ2
   refine vc_ok 900 _ _ _ ?_
   repeat' first
    | (first | apply zd1 | apply zd2 | apply zd3 | apply zd4) <;> intro hdec <;> try first | (exfalso; omega) | rw [zt hdec] | rw [zf hdec]
    | with_reducible first | refine WX_fin hX rfl hQ (.inl rfl) ?_ | apply And.intro | exact True.intro
    | (apply WX_lpG _ _ [(0, 0)] hX (hJ2 () True.intro); exact zq17; exact zq3; exact zq3; exact zq3; rfl; rfl; rfl; exact zq4)
    | simp (maxSteps := 20000000) only [Tryz.f12, go_sem, zL, ↓reduceIte, reduceCtorEq, Nat.reduceAdd, Nat.reduceMul, Nat.reduceSub, Nat.reduceLeDiff, Nat.reduceEqDiff, Nat.reduceLT, Nat.reduceBEq, Int.reduceEq, hP, hX, Int.toNat_natCast]
   all_goals try first
    | (exfalso; omega) | omega | (unfold I64; omega)
 intro u2 _ E' hX' hA' hQ'; rw [hQ] at hQ'; clear hQ hA hP hX; have hP := zP hX'; have hX := hX'; have hQ := hQ'; have hA := hA'; clear hX' hQ' hA'; obtain ⟨m, hm, hm2⟩ := and127 (bt v i); simp only [go_sem] at hm
 try (simp (maxSteps := 20000000) only [go_sem, Nat.reduceAdd, Nat.reduceSub, Nat.reduceEqDiff, ↓reduceIte, List.replicate])
 apply WC_cutG (ι := Nat -> Bool) (fun _ => True) [34, 35, 36, 37, 38, 39, 40, 41, 42, 43, 44] (fun _ => []) (fun h => [(0, HasA g h)]) hX
 · intro J2 hJ2
   refine vc_ok 900 _ _ _ ?_
   repeat' first
    | (first | apply zd1 | apply zd2 | apply zd3 | apply zd4) <;> intro hdec <;> try first | (exfalso; omega) | rw [zt hdec] | rw [zf hdec]
    | with_reducible first | refine WX_fin hX rfl hQ (.inl rfl) ?_ | apply And.intro | exact True.intro
    | (with_reducible show vg _ _ (hs m) _ _ _ _ _ _ _
       rcases hbm : hs m with _ | _)
    | (with_reducible show vb _ _ (hs m) _ _ _ _
       rcases hbm : hs m with _ | _)
    | (with_reducible show vg _ _ (!hs m) _ _ _ _ _ _ _
       rcases hbm : hs m with _ | _)
    | (with_reducible show vb _ _ (!hs m) _ _ _ _
       rcases hbm : hs m with _ | _)
    | (refine WO_LE 850 (LS_aix 128 1 hP ar67 ?_ ?_ ?_ ?_) ?_
       exact zq0; exact zq0
       rotate_left 2
       intro _ _)
    | (refine WO_LE 850 (LS_fload g 67 128 (fun i => .bool (hs i)) 0 m (.bool (hs m)) hP ?_ zw0 hm2 rfl sz4) ?_; exact zq65; intro _ _) | (refine WO_LS 850 (LS_fstore g 67 128 (fun i => .bool (hs i)) 0 m (.bool true) hP ?_ ?_ rfl zw0 hm2 sz4) ?_; exact zq65; exact zq0; intro _ _ E2 h1 h2 h3; have z := zn h1 (zg h2) h3 hX hQ; clear hX hP hA hQ h1 h2 h3; obtain ⟨hX, hP, hA, hQ⟩ := z; rw [updHas] at hA) | (refine WO_LS 850 (LS_fstore g 67 128 (fun i => .bool (hs i)) 0 m (.bool false) hP ?_ ?_ rfl zw0 hm2 sz4) ?_; exact zq65; exact zq0; intro _ _ E2 h1 h2 h3; have z := zn h1 (zg h2) h3 hX hQ; clear hX hP hA hQ h1 h2 h3; obtain ⟨hX, hP, hA, hQ⟩ := z; rw [updHas] at hA) | (refine WO_LS 850 (LS_fstore g 67 128 (fun i => .bool (hs i)) 0 m (.bool (hs m)) hP ?_ ?_ rfl zw0 hm2 sz4) ?_; exact zq65; exact zq0; intro _ _ E2 h1 h2 h3; have z := zn h1 (zg h2) h3 hX hQ; clear hX hP hA hQ h1 h2 h3; obtain ⟨hX, hP, hA, hQ⟩ := z; rw [updHas] at hA) | (refine WO_LS 850 (LS_fstore g 67 128 (fun i => .bool (hs i)) 0 m (.bool (decide (bt v i < 128))) hP ?_ ?_ rfl zw0 hm2 sz4) ?_; exact zq65; exact zq0; intro _ _ E2 h1 h2 h3; have z := zn h1 (zg h2) h3 hX hQ; clear hX hP hA hQ h1 h2 h3; obtain ⟨hX, hP, hA, hQ⟩ := z; rw [updHas] at hA) | (apply WX_lpG _ _ [(1, 0)] hX (hJ2 (fun i => if i = m then true else hs i) True.intro); exact zq17; exact zq3; exact zq3; exact zq3; rfl; rfl; rfl; exact zq4) | (apply WX_lpG _ _ [(1, 0)] hX (hJ2 (fun i => if i = m then false else hs i) True.intro); exact zq17; exact zq3; exact zq3; exact zq3; rfl; rfl; rfl; exact zq4) | (apply WX_lpG _ _ [(1, 0)] hX (hJ2 (fun i => if i = m then hs m else hs i) True.intro); exact zq17; exact zq3; exact zq3; exact zq3; rfl; rfl; rfl; exact zq4) | (apply WX_lpG _ _ [(1, 0)] hX (hJ2 (fun j => if j = m then decide (bt v i < 128) else hs j) True.intro); exact zq17; exact zq3; exact zq3; exact zq3; rfl; rfl; rfl; exact zq4)
    | simp (maxSteps := 20000000) only [Tryz.f12, go_sem, zL, ↓reduceIte, reduceCtorEq, Nat.reduceAdd, Nat.reduceMul, Nat.reduceSub, Nat.reduceLeDiff, Nat.reduceEqDiff, Nat.reduceLT, Nat.reduceBEq, Int.reduceEq, hP, hX, Int.toNat_natCast, hm, el67, addr_add, Nat.mul_one, Nat.zero_add, Nat.add_zero]
   all_goals try first
    | (exfalso; omega) | omega | (unfold I64; omega)
 intro hs2 _ E' hX' hA' hQ'; rw [hQ] at hQ'; clear hQ hA hP hX; have hP := zP hX'; have hX := hX'; have hQ := hQ'; have hA := hA'; clear hX' hQ' hA'; clear hm hm2
 try (simp (maxSteps := 20000000) only [go_sem, Nat.reduceAdd, Nat.reduceSub, Nat.reduceEqDiff, ↓reduceIte, List.replicate])
 apply WC_cutG (ι := Bool) (fun _ => True) [45, 46, 47, 48, 49, 50, 51, 52, 53, 54, 55, 56, 57, 58, 59, 60, 6] (fun b => [(6, .sc (.va (.bool b)))]) (fun _ => [(0, HasA g hs2)]) hX
 · intro J2 hJ2
   refine vc_ok 900 _ _ _ ?_
   repeat' first
    | (first | apply zd1 | apply zd2 | apply zd3 | apply zd4) <;> intro hdec <;> try first | (exfalso; omega) | rw [zt hdec] | rw [zf hdec]
    | with_reducible first | refine WX_fin hX rfl hQ (.inl rfl) ?_ | apply And.intro | exact True.intro
    | (with_reducible show vg _ _ b6 _ _ _ _ _ _ _
       cases b6)
    | (with_reducible show vb _ _ b6 _ _ _ _
       cases b6)
    | (with_reducible show vg _ _ (!b6) _ _ _ _ _ _ _
       cases b6)
    | (with_reducible show vb _ _ (!b6) _ _ _ _
       cases b6)
    | (apply WX_lpG _ _ [(0, 0)] hX (hJ2 true True.intro); exact zq17; exact zq3; exact zq3; exact zq3; rfl; rfl; rfl; exact zq4) | (apply WX_lpG _ _ [(0, 0)] hX (hJ2 false True.intro); exact zq17; exact zq3; exact zq3; exact zq3; rfl; rfl; rfl; exact zq4) | (apply WX_lpG _ _ [(0, 0)] hX (hJ2 (decide ((i : Int) + 1 < v.size)) True.intro); exact zq17; exact zq3; exact zq3; exact zq3; rfl; rfl; rfl; exact zq4)
    | simp (maxSteps := 20000000) only [Tryz.f12, go_sem, zL, ↓reduceIte, reduceCtorEq, Nat.reduceAdd, Nat.reduceMul, Nat.reduceSub, Nat.reduceLeDiff, Nat.reduceEqDiff, Nat.reduceLT, Nat.reduceBEq, Int.reduceEq, hP, hX, Int.toNat_natCast]
   all_goals try first
    | (exfalso; omega) | omega | (unfold I64; omega)
 intro c6 _ E' hX' hA' hQ'; rw [hQ] at hQ'; clear hQ hA hP hX; have hP := zP hX'; have hX := hX'; have hQ := hQ'; have hA := hA'; clear hX' hQ' hA'
 try (simp (maxSteps := 20000000) only [go_sem, Nat.reduceAdd, Nat.reduceSub, Nat.reduceEqDiff, ↓reduceIte, List.replicate])
 apply WC_cutG (ι := Int) (fun x => 0 <= x /\ x <= i + 1) [61, 62, 63, 64, 7] (fun x => [(7, .sc (.va (.int .i64 x)))]) (fun _ => [(0, HasA g hs2)]) hX
 · intro J2 hJ2
   refine vc_ok 900 _ _ _ ?_
   repeat' first
    | (first | apply zd1 | apply zd2 | apply zd3 | apply zd4) <;> intro hdec <;> try first | (exfalso; omega) | rw [zt hdec] | rw [zf hdec]
    | with_reducible first | refine WX_fin hX rfl hQ (.inl rfl) ?_ | apply And.intro | exact True.intro
    | (apply WX_lpG _ _ [(0, 0)] hX (hJ2 (st + 1) ⟨zo, zo⟩); exact zq17; exact zq3; exact zq3; exact zq3; rfl; rfl; rfl; exact zq4) | (apply WX_lpG _ _ [(0, 0)] hX (hJ2 st ⟨zo, zo⟩); exact zq17; exact zq3; exact zq3; exact zq3; rfl; rfl; rfl; exact zq4)
    | simp (maxSteps := 20000000) only [Tryz.f12, go_sem, zL, ↓reduceIte, reduceCtorEq, Nat.reduceAdd, Nat.reduceMul, Nat.reduceSub, Nat.reduceLeDiff, Nat.reduceEqDiff, Nat.reduceLT, Nat.reduceBEq, Int.reduceEq, hP, hX, Int.toNat_natCast]
   all_goals try first
    | (exfalso; omega) | omega | (unfold I64; omega)
 intro st2 hst2 E' hX' hA' hQ'; rw [hQ] at hQ'; clear hQ hA hP hX; have hP := zP hX'; have hX := hX'; have hQ := hQ'; have hA := hA'; clear hX' hQ' hA'
 try (simp (maxSteps := 20000000) only [go_sem, Nat.reduceAdd, Nat.reduceSub, Nat.reduceEqDiff, ↓reduceIte, List.replicate])
 apply WC_cutG (ι := Int) (fun x => 0 <= x /\ x <= i + 1) [65, 66, 67, 68, 69, 70, 71, 72, 73, 74, 75, 76, 8] (fun x => [(8, .sc (.va (.int .i64 x)))]) (fun _ => [(0, HasA g hs2)]) hX
 · intro J2 hJ2
   refine vc_ok 900 _ _ _ ?_
   repeat' first
    | (first | apply zd1 | apply zd2 | apply zd3 | apply zd4) <;> intro hdec <;> try first | (exfalso; omega) | rw [zt hdec] | rw [zf hdec]
    | with_reducible first | refine WX_fin hX rfl hQ (.inl rfl) ?_ | apply And.intro | exact True.intro
    | (apply WX_lpG _ _ [(0, 0)] hX (hJ2 (lv + 1) ⟨zo, zo⟩); exact zq17; exact zq3; exact zq3; exact zq3; rfl; rfl; rfl; exact zq4) | (apply WX_lpG _ _ [(0, 0)] hX (hJ2 lv ⟨zo, zo⟩); exact zq17; exact zq3; exact zq3; exact zq3; rfl; rfl; rfl; exact zq4)
    | simp (maxSteps := 20000000) only [Tryz.f12, go_sem, zL, ↓reduceIte, reduceCtorEq, Nat.reduceAdd, Nat.reduceMul, Nat.reduceSub, Nat.reduceLeDiff, Nat.reduceEqDiff, Nat.reduceLT, Nat.reduceBEq, Int.reduceEq, hP, hX, Int.toNat_natCast]
   all_goals try first
    | (exfalso; omega) | omega | (unfold I64; omega)
 intro lv2 hlv2 E' hX' hA' hQ'; rw [hQ] at hQ'; clear hQ hA hP hX; have hP := zP hX'; have hX := hX'; have hQ := hQ'; have hA := hA'; clear hX' hQ' hA'
 try (simp (maxSteps := 20000000) only [go_sem, Nat.reduceAdd, Nat.reduceSub, Nat.reduceEqDiff, ↓reduceIte, List.replicate])
 apply WC_cutG (ι := Unit) (fun _ => True) [22] (fun _ => [(22, .sc (.va (.int .u8 0)))]) (fun _ => [(0, HasA g hs2)]) hX
 · intro J2 hJ2
   refine vc_ok 900 _ _ _ ?_
   repeat' first
    | (first | apply zd1 | apply zd2 | apply zd3 | apply zd4) <;> intro hdec <;> try first | (exfalso; omega) | rw [zt hdec] | rw [zf hdec]
    | with_reducible first | refine WX_fin hX rfl hQ (.inl rfl) ?_ | apply And.intro | exact True.intro
    | (apply WX_lpG _ _ [(0, 0)] hX (hJ2 () True.intro); exact zq17; exact zq3; exact zq3; exact zq3; rfl; rfl; rfl; exact zq4)
    | simp (maxSteps := 20000000) only [Tryz.f12, go_sem, zL, ↓reduceIte, reduceCtorEq, Nat.reduceAdd, Nat.reduceMul, Nat.reduceSub, Nat.reduceLeDiff, Nat.reduceEqDiff, Nat.reduceLT, Nat.reduceBEq, Int.reduceEq, hP, hX, Int.toNat_natCast]
   all_goals try first
    | (exfalso; omega) | omega | (unfold I64; omega)
 intro u3 _ E' hX' hA' hQ'; rw [hQ] at hQ'; clear hQ hA hP hX; have hP := zP hX'; have hX := hX'; have hQ := hQ'; have hA := hA'; clear hX' hQ' hA'
 try (simp (maxSteps := 20000000) only [go_sem, Nat.reduceAdd, Nat.reduceSub, Nat.reduceEqDiff, ↓reduceIte, List.replicate])
 apply WC_cutG (ι := Int) (fun _ => True) [77, 78, 79, 80, 81, 82, 83, 84, 85, 22] (fun x => [(22, .sc (.va (.int .u8 x)))]) (fun _ => [(0, HasA g hs2)]) hX
 · intro J2 hJ2
   refine vc_ok 900 _ _ _ ?_
   repeat' first
    | (first | apply zd1 | apply zd2 | apply zd3 | apply zd4) <;> intro hdec <;> try first | (exfalso; omega) | rw [zt hdec] | rw [zf hdec]
    | with_reducible first | refine WX_fin hX rfl hQ (.inl rfl) ?_ | apply And.intro | exact True.intro
    | (apply WX_lpG _ _ [(0, 0)] hX (hJ2 (bt v (i + 1)) True.intro); exact zq17; exact zq3; exact zq3; exact zq3; rfl; rfl; rfl; exact zq4) | (apply WX_lpG _ _ [(0, 0)] hX (hJ2 0 True.intro); exact zq17; exact zq3; exact zq3; exact zq3; rfl; rfl; rfl; exact zq4)
    | simp (maxSteps := 20000000) only [Tryz.f12, go_sem, zL, ↓reduceIte, reduceCtorEq, Nat.reduceAdd, Nat.reduceMul, Nat.reduceSub, Nat.reduceLeDiff, Nat.reduceEqDiff, Nat.reduceLT, Nat.reduceBEq, Int.reduceEq, hP, hX, Int.toNat_natCast]
   all_goals try first
    | (exfalso; omega) | omega | (unfold I64; omega)
 intro nx _ E' hX' hA' hQ'; rw [hQ] at hQ'; clear hQ hA hP hX; have hP := zP hX'; have hX := hX'; have hQ := hQ'; have hA := hA'; clear hX' hQ' hA'
 try (simp (maxSteps := 20000000) only [go_sem, Nat.reduceAdd, Nat.reduceSub, Nat.reduceEqDiff, ↓reduceIte, List.replicate])
 apply WC_cutG (ι := Bool) (fun _ => True) [86, 87, 88, 89, 90, 91, 92, 93, 94, 11] (fun b => [(11, .sc (.va (.bool b)))]) (fun _ => [(0, HasA g hs2)]) hX
 · intro J2 hJ2
   refine vc_ok 900 _ _ _ ?_
   repeat' first
    | (first | apply zd1 | apply zd2 | apply zd3 | apply zd4) <;> intro hdec <;> try first | (exfalso; omega) | rw [zt hdec] | rw [zf hdec]
    | with_reducible first | refine WX_fin hX rfl hQ (.inl rfl) ?_ | apply And.intro | exact True.intro
    | (with_reducible show vg _ _ b11 _ _ _ _ _ _ _
       cases b11)
    | (with_reducible show vb _ _ b11 _ _ _ _
       cases b11)
    | (with_reducible show vg _ _ (!b11) _ _ _ _ _ _ _
       cases b11)
    | (with_reducible show vb _ _ (!b11) _ _ _ _
       cases b11)
    | (apply WX_lpG _ _ [(0, 0)] hX (hJ2 true True.intro); exact zq17; exact zq3; exact zq3; exact zq3; rfl; rfl; rfl; exact zq4) | (apply WX_lpG _ _ [(0, 0)] hX (hJ2 false True.intro); exact zq17; exact zq3; exact zq3; exact zq3; rfl; rfl; rfl; exact zq4) | (apply WX_lpG _ _ [(0, 0)] hX (hJ2 (decide (nx = 39)) True.intro); exact zq17; exact zq3; exact zq3; exact zq3; rfl; rfl; rfl; exact zq4)
    | simp (maxSteps := 20000000) only [Tryz.f12, go_sem, zL, ↓reduceIte, reduceCtorEq, Nat.reduceAdd, Nat.reduceMul, Nat.reduceSub, Nat.reduceLeDiff, Nat.reduceEqDiff, Nat.reduceLT, Nat.reduceBEq, Int.reduceEq, hP, hX, Int.toNat_natCast]
   all_goals try first
    | (exfalso; omega) | omega | (unfold I64; omega)
 intro c11 _ E' hX' hA' hQ'; rw [hQ] at hQ'; clear hQ hA hP hX; have hP := zP hX'; have hX := hX'; have hQ := hQ'; have hA := hA'; clear hX' hQ' hA'
 try (simp (maxSteps := 20000000) only [go_sem, Nat.reduceAdd, Nat.reduceSub, Nat.reduceEqDiff, ↓reduceIte, List.replicate])
 apply WC_cutG (ι := Bool) (fun _ => True) [95, 96, 97, 98, 99, 100, 101, 102, 103, 104, 105, 106, 107, 108, 109, 110, 111, 112, 113, 114, 115, 116, 117, 12] (fun b => [(12, .sc (.va (.bool b)))]) (fun _ => [(0, HasA g hs2)]) hX
 · intro J2 hJ2
   refine vc_ok 900 _ _ _ ?_
   repeat' first
    | (first | apply zd1 | apply zd2 | apply zd3 | apply zd4) <;> intro hdec <;> try first | (exfalso; omega) | rw [zt hdec] | rw [zf hdec]
    | with_reducible first | refine WX_fin hX rfl hQ (.inl rfl) ?_ | apply And.intro | exact True.intro
    | (with_reducible show vg _ _ b12 _ _ _ _ _ _ _
       cases b12)
    | (with_reducible show vb _ _ b12 _ _ _ _
       cases b12)
    | (with_reducible show vg _ _ (!b12) _ _ _ _ _ _ _
       cases b12)
    | (with_reducible show vb _ _ (!b12) _ _ _ _
       cases b12)
    | (apply WX_lpG _ _ [(0, 0)] hX (hJ2 true True.intro); exact zq17; exact zq3; exact zq3; exact zq3; rfl; rfl; rfl; exact zq4) | (apply WX_lpG _ _ [(0, 0)] hX (hJ2 false True.intro); exact zq17; exact zq3; exact zq3; exact zq3; rfl; rfl; rfl; exact zq4) | (apply WX_lpG _ _ [(0, 0)] hX (hJ2 (decide (bt v ((i : Int) - 2) = 58)) True.intro); exact zq17; exact zq3; exact zq3; exact zq3; rfl; rfl; rfl; exact zq4)
    | simp (maxSteps := 20000000) only [Tryz.f12, go_sem, zL, ↓reduceIte, reduceCtorEq, Nat.reduceAdd, Nat.reduceMul, Nat.reduceSub, Nat.reduceLeDiff, Nat.reduceEqDiff, Nat.reduceLT, Nat.reduceBEq, Int.reduceEq, hP, hX, Int.toNat_natCast]
   all_goals try first
    | (exfalso; omega) | omega | (unfold I64; omega)
 intro c12 _ E' hX' hA' hQ'; rw [hQ] at hQ'; clear hQ hA hP hX; have hP := zP hX'; have hX := hX'; have hQ := hQ'; have hA := hA'; clear hX' hQ' hA'
 try (simp (maxSteps := 20000000) only [go_sem, Nat.reduceAdd, Nat.reduceSub, Nat.reduceEqDiff, ↓reduceIte, List.replicate])
 apply WC_cutG (ι := Bool) (fun _ => True) [118, 119, 120, 121, 122, 123, 124, 125, 126, 127, 128, 129, 130, 131, 13] (fun b => [(13, .sc (.va (.bool b)))]) (fun _ => [(0, HasA g hs2)]) hX
 · intro J2 hJ2
   refine vc_ok 900 _ _ _ ?_
   repeat' first
    | (first | apply zd1 | apply zd2 | apply zd3 | apply zd4) <;> intro hdec <;> try first | (exfalso; omega) | rw [zt hdec] | rw [zf hdec]
    | with_reducible first | refine WX_fin hX rfl hQ (.inl rfl) ?_ | apply And.intro | exact True.intro
    | (with_reducible show vg _ _ b13 _ _ _ _ _ _ _
       cases b13)
    | (with_reducible show vb _ _ b13 _ _ _ _
       cases b13)
    | (with_reducible show vg _ _ (!b13) _ _ _ _ _ _ _
       cases b13)
    | (with_reducible show vb _ _ (!b13) _ _ _ _
       cases b13)
    | (apply WX_lpG _ _ [(0, 0)] hX (hJ2 true True.intro); exact zq91; exact zq3; exact zq3; exact zq3; rfl; rfl; rfl; exact zq4) | (apply WX_lpG _ _ [(0, 0)] hX (hJ2 false True.intro); exact zq91; exact zq3; exact zq3; exact zq3; rfl; rfl; rfl; exact zq4) | (apply WX_lpG _ _ [(0, 0)] hX (hJ2 (decide (IntKind.u8.wrap ((BitVec.ofInt 8 nx ||| BitVec.ofInt 8 32).toNat : Int) = 117)) True.intro); exact zq91; exact zq3; exact zq3; exact zq3; rfl; rfl; rfl; exact zq4)
    | simp (maxSteps := 20000000) only [Tryz.f12, go_sem, zL, ↓reduceIte, reduceCtorEq, Nat.reduceAdd, Nat.reduceMul, Nat.reduceSub, Nat.reduceLeDiff, Nat.reduceEqDiff, Nat.reduceLT, Nat.reduceBEq, Int.reduceEq, hP, hX, Int.toNat_natCast]
   all_goals try first
    | (exfalso; omega) | omega | (unfold I64; omega)
 intro c13 _ E' hX' hA' hQ'; rw [hQ] at hQ'; clear hQ hA hP hX; have hP := zP hX'; have hX := hX'; have hQ := hQ'; have hA := hA'; clear hX' hQ' hA'
 try (simp (maxSteps := 20000000) only [go_sem, Nat.reduceAdd, Nat.reduceSub, Nat.reduceEqDiff, ↓reduceIte, List.replicate])
 apply WC_cutG (ι := Bool) (fun _ => True) [132, 133, 134, 135, 136, 137, 138, 139, 15] (fun b => [(15, .sc (.va (.bool b)))]) (fun _ => [(0, HasA g hs2)]) hX
 · intro J2 hJ2
   refine vc_ok 900 _ _ _ ?_
   repeat' first
    | (first | apply zd1 | apply zd2 | apply zd3 | apply zd4) <;> intro hdec <;> try first | (exfalso; omega) | rw [zt hdec] | rw [zf hdec]
    | with_reducible first | refine WX_fin hX rfl hQ (.inl rfl) ?_ | apply And.intro | exact True.intro
    | (with_reducible show vg _ _ b10 _ _ _ _ _ _ _
       cases b10)
    | (with_reducible show vb _ _ b10 _ _ _ _
       cases b10)
    | (with_reducible show vg _ _ (!b10) _ _ _ _ _ _ _
       cases b10)
    | (with_reducible show vb _ _ (!b10) _ _ _ _
       cases b10)
    | (apply WX_lpG _ _ [(0, 0)] hX (hJ2 b10 True.intro); exact zq17; exact zq3; exact zq3; exact zq3; rfl; rfl; rfl; exact zq4)
    | (with_reducible show vg _ _ b15 _ _ _ _ _ _ _
       cases b15)
    | (with_reducible show vb _ _ b15 _ _ _ _
       cases b15)
    | (with_reducible show vg _ _ (!b15) _ _ _ _ _ _ _
       cases b15)
    | (with_reducible show vb _ _ (!b15) _ _ _ _
       cases b15)
    | (apply WX_lpG _ _ [(0, 0)] hX (hJ2 true True.intro); exact zq17; exact zq3; exact zq3; exact zq3; rfl; rfl; rfl; exact zq4) | (apply WX_lpG _ _ [(0, 0)] hX (hJ2 false True.intro); exact zq17; exact zq3; exact zq3; exact zq3; rfl; rfl; rfl; exact zq4)
    | simp (maxSteps := 20000000) only [Tryz.f12, go_sem, zL, ↓reduceIte, reduceCtorEq, Nat.reduceAdd, Nat.reduceMul, Nat.reduceSub, Nat.reduceLeDiff, Nat.reduceEqDiff, Nat.reduceLT, Nat.reduceBEq, Int.reduceEq, hP, hX, Int.toNat_natCast]
   all_goals try first
    | (exfalso; omega) | omega | (unfold I64; omega)
 intro c15 _ E' hX' hA' hQ'; rw [hQ] at hQ'; clear hQ hA hP hX; have hP := zP hX'; have hX := hX'; have hQ := hQ'; have hA := hA'; clear hX' hQ' hA'
 try (simp (maxSteps := 20000000) only [go_sem, Nat.reduceAdd, Nat.reduceSub, Nat.reduceEqDiff, ↓reduceIte, List.replicate])
 apply WC_cutG (ι := Bool) (fun _ => True) [140, 141, 142, 143, 144, 16] (fun b => [(16, .sc (.va (.bool b)))]) (fun _ => [(0, HasA g hs2)]) hX
 · intro J2 hJ2
   refine vc_ok 900 _ _ _ ?_
   repeat' first
    | (first | apply zd1 | apply zd2 | apply zd3 | apply zd4) <;> intro hdec <;> try first | (exfalso; omega) | rw [zt hdec] | rw [zf hdec]
    | with_reducible first | refine WX_fin hX rfl hQ (.inl rfl) ?_ | apply And.intro | exact True.intro
    | (with_reducible show vg _ _ b16 _ _ _ _ _ _ _
       cases b16)
    | (with_reducible show vb _ _ b16 _ _ _ _
       cases b16)
    | (with_reducible show vg _ _ (!b16) _ _ _ _ _ _ _
       cases b16)
    | (with_reducible show vb _ _ (!b16) _ _ _ _
       cases b16)
    | (apply WX_lpG _ _ [(0, 0)] hX (hJ2 true True.intro); exact zq17; exact zq3; exact zq3; exact zq3; rfl; rfl; rfl; exact zq4) | (apply WX_lpG _ _ [(0, 0)] hX (hJ2 false True.intro); exact zq17; exact zq3; exact zq3; exact zq3; rfl; rfl; rfl; exact zq4) | (apply WX_lpG _ _ [(0, 0)] hX (hJ2 (decide (240 <= bt v i)) True.intro); exact zq17; exact zq3; exact zq3; exact zq3; rfl; rfl; rfl; exact zq4)
    | simp (maxSteps := 20000000) only [Tryz.f12, go_sem, zL, ↓reduceIte, reduceCtorEq, Nat.reduceAdd, Nat.reduceMul, Nat.reduceSub, Nat.reduceLeDiff, Nat.reduceEqDiff, Nat.reduceLT, Nat.reduceBEq, Int.reduceEq, hP, hX, Int.toNat_natCast]
   all_goals try first
    | (exfalso; omega) | omega | (unfold I64; omega)
 intro c16 _ E' hX' hA' hQ'; rw [hQ] at hQ'; clear hQ hA hP hX; have hP := zP hX'; have hX := hX'; have hQ := hQ'; have hA := hA'; clear hX' hQ' hA'
 try (simp (maxSteps := 20000000) only [go_sem, Nat.reduceAdd, Nat.reduceSub, Nat.reduceEqDiff, ↓reduceIte, List.replicate])
 apply WC_cutG (ι := Bool) (fun _ => True) [145, 146, 147, 148, 149, 150, 151, 152, 153, 154, 155, 156, 157, 18] (fun b => [(18, .sc (.va (.bool b)))]) (fun _ => [(0, HasA g hs2)]) hX
 · intro J2 hJ2
   refine vc_ok 900 _ _ _ ?_
   repeat' first
    | (first | apply zd1 | apply zd2 | apply zd3 | apply zd4) <;> intro hdec <;> try first | (exfalso; omega) | rw [zt hdec] | rw [zf hdec]
    | with_reducible first | refine WX_fin hX rfl hQ (.inl rfl) ?_ | apply And.intro | exact True.intro
    | (with_reducible show vg _ _ b18 _ _ _ _ _ _ _
       cases b18)
    | (with_reducible show vb _ _ b18 _ _ _ _
       cases b18)
    | (with_reducible show vg _ _ (!b18) _ _ _ _ _ _ _
       cases b18)
    | (with_reducible show vb _ _ (!b18) _ _ _ _
       cases b18)
    | (apply WX_lpG _ _ [(0, 0)] hX (hJ2 true True.intro); exact zq17; exact zq3; exact zq3; exact zq3; rfl; rfl; rfl; exact zq4) | (apply WX_lpG _ _ [(0, 0)] hX (hJ2 false True.intro); exact zq17; exact zq3; exact zq3; exact zq3; rfl; rfl; rfl; exact zq4) | (apply WX_lpG _ _ [(0, 0)] hX (hJ2 (decide (122 < nx)) True.intro); exact zq17; exact zq3; exact zq3; exact zq3; rfl; rfl; rfl; exact zq4)
    | simp (maxSteps := 20000000) only [Tryz.f12, go_sem, zL, ↓reduceIte, reduceCtorEq, Nat.reduceAdd, Nat.reduceMul, Nat.reduceSub, Nat.reduceLeDiff, Nat.reduceEqDiff, Nat.reduceLT, Nat.reduceBEq, Int.reduceEq, hP, hX, Int.toNat_natCast]
   all_goals try first
    | (exfalso; omega) | omega | (unfold I64; omega)
 intro c18 _ E' hX' hA' hQ'; rw [hQ] at hQ'; clear hQ hA hP hX; have hP := zP hX'; have hX := hX'; have hQ := hQ'; have hA := hA'; clear hX' hQ' hA'
 try (simp (maxSteps := 20000000) only [go_sem, Nat.reduceAdd, Nat.reduceSub, Nat.reduceEqDiff, ↓reduceIte, List.replicate])
 apply WC_cutG (ι := Bool) (fun _ => True) [158, 159, 160, 161, 162, 163, 164, 165, 166, 167, 168, 169, 170, 171, 172, 173, 174, 175, 176, 177, 178, 179, 180, 181, 182, 19] (fun b => [(19, .sc (.va (.bool b)))]) (fun _ => [(0, HasA g hs2)]) hX
 · intro J2 hJ2
   refine vc_ok 900 _ _ _ ?_
   repeat' first
    | (first | apply zd1 | apply zd2 | apply zd3 | apply zd4) <;> intro hdec <;> try first | (exfalso; omega) | rw [zt hdec] | rw [zf hdec]
    | with_reducible first | refine WX_fin hX rfl hQ (.inl rfl) ?_ | apply And.intro | exact True.intro
    | (with_reducible show vg _ _ b19 _ _ _ _ _ _ _
       cases b19)
    | (with_reducible show vb _ _ b19 _ _ _ _
       cases b19)
    | (with_reducible show vg _ _ (!b19) _ _ _ _ _ _ _
       cases b19)
    | (with_reducible show vb _ _ (!b19) _ _ _ _
       cases b19)
    | (apply WX_lpG _ _ [(0, 0)] hX (hJ2 true True.intro); exact zq17; exact zq3; exact zq3; exact zq3; rfl; rfl; rfl; exact zq4) | (apply WX_lpG _ _ [(0, 0)] hX (hJ2 false True.intro); exact zq17; exact zq3; exact zq3; exact zq3; rfl; rfl; rfl; exact zq4) | (apply WX_lpG _ _ [(0, 0)] hX (hJ2 (decide (nx <= 57)) True.intro); exact zq17; exact zq3; exact zq3; exact zq3; rfl; rfl; rfl; exact zq4)
    | simp (maxSteps := 20000000) only [Tryz.f12, go_sem, zL, ↓reduceIte, reduceCtorEq, Nat.reduceAdd, Nat.reduceMul, Nat.reduceSub, Nat.reduceLeDiff, Nat.reduceEqDiff, Nat.reduceLT, Nat.reduceBEq, Int.reduceEq, hP, hX, Int.toNat_natCast]
   all_goals try first
    | (exfalso; omega) | omega | (unfold I64; omega)
 intro c19 _ E' hX' hA' hQ'; rw [hQ] at hQ'; clear hQ hA hP hX; have hP := zP hX'; have hX := hX'; have hQ := hQ'; have hA := hA'; clear hX' hQ' hA'
 try (simp (maxSteps := 20000000) only [go_sem, Nat.reduceAdd, Nat.reduceSub, Nat.reduceEqDiff, ↓reduceIte, List.replicate])
 apply WC_cutG (ι := Bool) (fun _ => True) [183, 184, 185, 186, 187, 17] (fun b => [(17, .sc (.va (.bool b)))]) (fun _ => [(0, HasA g hs2)]) hX
 · intro J2 hJ2
   refine vc_ok 900 _ _ _ ?_
   repeat' first
    | (first | apply zd1 | apply zd2 | apply zd3 | apply zd4) <;> intro hdec <;> try first | (exfalso; omega) | rw [zt hdec] | rw [zf hdec]
    | with_reducible first | refine WX_fin hX rfl hQ (.inl rfl) ?_ | apply And.intro | exact True.intro
    | (with_reducible show vg _ _ b17 _ _ _ _ _ _ _
       cases b17)
    | (with_reducible show vb _ _ b17 _ _ _ _
       cases b17)
    | (with_reducible show vg _ _ (!b17) _ _ _ _ _ _ _
       cases b17)
    | (with_reducible show vb _ _ (!b17) _ _ _ _
       cases b17)
    | (apply WX_lpG _ _ [(0, 0)] hX (hJ2 true True.intro); exact zq17; exact zq3; exact zq3; exact zq3; rfl; rfl; rfl; exact zq4) | (apply WX_lpG _ _ [(0, 0)] hX (hJ2 false True.intro); exact zq17; exact zq3; exact zq3; exact zq3; rfl; rfl; rfl; exact zq4) | (apply WX_lpG _ _ [(0, 0)] hX (hJ2 (decide (128 <= bt v i)) True.intro); exact zq17; exact zq3; exact zq3; exact zq3; rfl; rfl; rfl; exact zq4)
    | simp (maxSteps := 20000000) only [Tryz.f12, go_sem, zL, ↓reduceIte, reduceCtorEq, Nat.reduceAdd, Nat.reduceMul, Nat.reduceSub, Nat.reduceLeDiff, Nat.reduceEqDiff, Nat.reduceLT, Nat.reduceBEq, Int.reduceEq, hP, hX, Int.toNat_natCast]
   all_goals try first
    | (exfalso; omega) | omega | (unfold I64; omega)
 intro c17 _ E' hX' hA' hQ'; rw [hQ] at hQ'; clear hQ hA hP hX; have hP := zP hX'; have hX := hX'; have hQ := hQ'; have hA := hA'; clear hX' hQ' hA'
 try (simp (maxSteps := 20000000) only [go_sem, Nat.reduceAdd, Nat.reduceSub, Nat.reduceEqDiff, ↓reduceIte, List.replicate])
 apply WC_cutG (ι := Int) (fun x => 0 <= x /\ x <= i + 1) [188, 189, 9] (fun x => [(9, .sc (.va (.int .i64 x)))]) (fun _ => [(0, HasA g hs2)]) hX
 · intro J2 hJ2
   refine vc_ok 900 _ _ _ ?_
   repeat' first
    | (first | apply zd1 | apply zd2 | apply zd3 | apply zd4) <;> intro hdec <;> try first | (exfalso; omega) | rw [zt hdec] | rw [zf hdec]
    | with_reducible first | refine WX_fin hX rfl hQ (.inl rfl) ?_ | apply And.intro | exact True.intro
    | (apply WX_lpG _ _ [(0, 0)] hX (hJ2 (co + 1) ⟨zo, zo⟩); exact zq17; exact zq3; exact zq3; exact zq3; rfl; rfl; rfl; exact zq4)
    | simp (maxSteps := 20000000) only [Tryz.f12, go_sem, zL, ↓reduceIte, reduceCtorEq, Nat.reduceAdd, Nat.reduceMul, Nat.reduceSub, Nat.reduceLeDiff, Nat.reduceEqDiff, Nat.reduceLT, Nat.reduceBEq, Int.reduceEq, hP, hX, Int.toNat_natCast]
   all_goals try first
    | (exfalso; omega) | omega | (unfold I64; omega)
 intro co2 hco2 E' hX' hA' hQ'; rw [hQ] at hQ'; clear hQ hA hP hX; have hP := zP hX'; have hX := hX'; have hQ := hQ'; have hA := hA'; clear hX' hQ' hA'
 try (simp (maxSteps := 20000000) only [go_sem, Nat.reduceAdd, Nat.reduceSub, Nat.reduceEqDiff, ↓reduceIte, List.replicate])
 apply WC_cutG (ι := Int × Bool) (fun x => 0 <= x.1 /\ x.1 <= i + 1) [190, 191, 192, 193, 194, 195, 9, 10, 196, 197, 198, 199, 200, 201, 10] (fun x => [(9, .sc (.va (.int .i64 x.1))), (10, .sc (.va (.bool x.2)))]) (fun _ => [(0, HasA g hs2)]) hX
 · intro J2 hJ2
   refine vc_ok 900 _ _ _ ?_
   repeat' first
    | (first | apply zd1 | apply zd2 | apply zd3 | apply zd4) <;> intro hdec <;> try first | (exfalso; omega) | rw [zt hdec] | rw [zf hdec]
    | with_reducible first | refine WX_fin hX rfl hQ (.inl rfl) ?_ | apply And.intro | exact True.intro
    | (apply WX_lpG _ _ [(0, 0)] hX (hJ2 (0, true) ⟨zj, zj⟩); exact zq17; exact zq3; exact zq3; exact zq3; rfl; rfl; rfl; exact zq4) | (apply WX_lpG _ _ [(0, 0)] hX (hJ2 (co2, false) hco2); exact zq17; exact zq3; exact zq3; exact zq3; rfl; rfl; rfl; exact zq4) | (apply WX_lpG _ _ [(0, 0)] hX (hJ2 (co2, b10) hco2); exact zq17; exact zq3; exact zq3; exact zq3; rfl; rfl; rfl; exact zq4)
    | simp (maxSteps := 20000000) only [Tryz.f12, go_sem, zL, ↓reduceIte, reduceCtorEq, Nat.reduceAdd, Nat.reduceMul, Nat.reduceSub, Nat.reduceLeDiff, Nat.reduceEqDiff, Nat.reduceLT, Nat.reduceBEq, Int.reduceEq, hP, hX, Int.toNat_natCast]
   all_goals try first
    | (exfalso; omega) | omega | (unfold I64; omega)
 rintro ⟨co3, c10⟩ hco3 E' hX' hA' hQ'; rw [hQ] at hQ'; clear hQ hA hP hX; have hP := zP hX'; have hX := hX'; have hQ := hQ'; have hA := hA'; clear hX' hQ' hA'; dsimp only at hco3
 try (simp (maxSteps := 20000000) only [go_sem, Nat.reduceAdd, Nat.reduceSub, Nat.reduceEqDiff, ↓reduceIte, List.replicate])
 refine vc_ok 900 _ _ _ ?_
 repeat' first
  | (first | apply zd1 | apply zd2 | apply zd3 | apply zd4) <;> intro hdec <;> try first | (exfalso; omega) | rw [zt hdec] | rw [zf hdec]
  | with_reducible first | refine WX_fin hX rfl hQ (.inl rfl) ?_ | apply And.intro | exact True.intro
  | (with_reducible show vg _ _ b14 _ _ _ _ _ _ _
     cases b14)
  | (with_reducible show vb _ _ b14 _ _ _ _
     cases b14)
  | (with_reducible show vg _ _ (!b14) _ _ _ _ _ _ _
     cases b14)
  | (with_reducible show vb _ _ (!b14) _ _ _ _
     cases b14)
  | (apply WX_lpG _ _ [(0, 0)] hX (hJ ⟨i + 1, st2, lv2, co3, c6, c10, c11, c12, c13, true, c15, c16, c17, c18, c19, hs2⟩ ⟨zj, zj, zj, zj⟩ zj); exact zq17; exact zq3; exact zq3; exact zq3; rfl; rfl; rfl; exact zq4) | (apply WX_lpG _ _ [(0, 0)] hX (hJ ⟨i + 1, st2, lv2, co3, c6, c10, c11, c12, c13, false, c15, c16, c17, c18, c19, hs2⟩ ⟨zj, zj, zj, zj⟩ zj); exact zq17; exact zq3; exact zq3; exact zq3; rfl; rfl; rfl; exact zq4) | (apply WX_lpG _ _ [(0, 0)] hX (hJ ⟨i + 1, st2, lv2, co3, c6, c10, c11, c12, c13, (decide (190 < co3)), c15, c16, c17, c18, c19, hs2⟩ ⟨zj, zj, zj, zj⟩ zj); exact zq17; exact zq3; exact zq3; exact zq3; rfl; rfl; rfl; exact zq4)
  | simp (maxSteps := 20000000) only [Tryz.f12, go_sem, zL, ↓reduceIte, reduceCtorEq, Nat.reduceAdd, Nat.reduceMul, Nat.reduceSub, Nat.reduceLeDiff, Nat.reduceEqDiff, Nat.reduceLT, Nat.reduceBEq, Int.reduceEq, hP, hX, Int.toNat_natCast]
 all_goals try first
  | (exfalso; omega) | omega | (unfold I64; omega)
