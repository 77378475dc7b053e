/- Lemmas for FnFilterTree; each condition stands in its statement. -/
import Derived.Test.YtbfenkhnfflpnaaGreatDoorGda
namespace Go.Proofs.YtbfenkhnfflpnaaGreatDoor.Sx
open Go Go.RowKit
set_option maxRecDepth 100000
set_option maxHeartbeats 40000000
set_option linter.all false
section
attribute [local irreducible] leT leH WO WX WC WD LS WS WQ
theorem imaxE (x y : Int) : ∃ P, imax x y = P /\ x <= P /\ y <= P /\ (P = x \/ P = y) := ⟨_, rfl, by unfold imax; split <;> omega, by unfold imax; split <;> omega, by unfold imax; split <;> omega⟩
theorem iminE (x y : Int) : ∃ P, imin x y = P /\ P <= x /\ P <= y /\ (P = x \/ P = y) := ⟨_, rfl, by unfold imin; split <;> omega, by unfold imin; split <;> omega, by unfold imin; split <;> omega⟩
theorem c124f (w : World) (F0 : Nat -> Prop) (a' : Option Addr) (n' q' : Nat) (hrow : (RbA (.slice a' n' q') n').P w F0) (hF0 : ∀ k, F0 k -> k < w.heap.size) (hn0 : n' <= 100) (neg : Bool) (g : Nat) (fb : Nat -> Int) (hcell : ∀ i, i < 32 -> w.cell? ⟨g, i, none⟩ = some (.int .u8 (fb i))) (hgF : ¬ F0 g) (dp nd : Int) (hd1 : -400 <= dp) (hd2 : dp <= 420) (hnd0 : 0 <= nd) (hnd : nd <= 20) (hx1 : -4 <= dp - 1) (hx2 : dp - 1 < 6) : Calls Tryz.prog 124 [.slice a' n' q', .bool neg, .slice (some ⟨g, 0, none⟩) 32 32, .int .i64 dp, .int .i64 nd, .int .i64 nd, .int .u8 103, .bool true].toArray w (RetJ (fun z : Option Addr × Nat × Nat => .sc (.va (.slice z.1 z.2.1 z.2.2))) (fun _ => True) (fun z => RbA (.slice z.1 z.2.1 z.2.2) z.2.1) F0 w) := by
 obtain ⟨P, eP, hP1, hP2, hP3⟩ := imaxE (nd - dp) 0; obtain ⟨M, eM, hM1, hM2, hM3⟩ := iminE nd dp; obtain ⟨Z, eZ, hZ1, hZ2, hZ3⟩ := imaxE 0 (0 - dp); obtain ⟨L, eL, hL1, hL2, hL3⟩ := iminE P Z; obtain ⟨Q, eQ, hQ1, hQ2, hQ3⟩ := imaxE 0 (nd - (dp + L)); obtain ⟨M2, eM2, hM21, hM22, hM23⟩ := iminE (P - L) Q; obtain ⟨TZ, eTZ, hT1, hT2, hT3⟩ := imaxE 0 (P - L - M2)
 refine calls_startJ 1000 [.sc (.va (.slice a' n' q')), .sc (.va (.bool neg)), .sc (.va (.slice (some ⟨g, 0, none⟩) 32 32)), .sc (.va (.int .i64 dp)), .sc (.va (.int .i64 nd)), .sc (.va (.int .i64 nd)), .sc (.va (.int .u8 103)), .sc (.va (.bool true))] (RbA (.slice a' n' q') n') F0 Tryz.func124 rfl ⟨⟨rfl, rfl⟩, ⟨rfl, rfl⟩, ⟨rfl, rfl⟩, ⟨rfl, rfl⟩, ⟨rfl, rfl⟩, ⟨rfl, rfl⟩, ⟨rfl, rfl⟩, ⟨rfl, rfl⟩, trivial⟩ hrow hF0 fun E hX hP hA hQ => ?_
 repeat' first
  | (first | apply zd1 | apply zd2 | apply zd3 | apply zd4) <;> intro hdec <;> try first | exact zqd | rw [zt hdec] | rw [zf hdec]
  | with_reducible first | refine WX_fin hX rfl hQ (.inl rfl) ?_ | apply And.intro | exact True.intro
  | (with_reducible show vb _ _ neg _ _ _ _
     cases neg)
  | (with_reducible show vb _ _ (!neg) _ _ _ _
     cases neg)
  | (refine WO_LS 850 (LS_appendV _ _ _ 1 hP rfl ?_ zw0 ?_ ?_ ?_) ?_; exact zq1; exact zq0; exact NewsU1 (by simp only [go_sem]; rfl) rfl; omega; rintro ⟨a', n', q'⟩ hn' E2 h1 h2 h3; dsimp only at hn'; have z := zn h1 (zg h2) h3 hX hQ; clear hX hP hA hQ h1 h2 h3; obtain ⟨hX, hP, hA, hQ⟩ := z) | (refine WO_LS 850 (LS_appendV _ _ _ 2 hP rfl ?_ zw0 ?_ ?_ ?_) ?_; exact zq1; exact zq0; exact NewsU2 (by simp only [go_sem]; rfl) rfl; omega; rintro ⟨a', n', q'⟩ hn' E2 h1 h2 h3; dsimp only at hn'; have z := zn h1 (zg h2) h3 hX hQ; clear hX hP hA hQ h1 h2 h3; obtain ⟨hX, hP, hA, hQ⟩ := z) | (refine WO_LS 850 (LS_appendV _ _ _ 3 hP rfl ?_ zw0 ?_ ?_ ?_) ?_; exact zq1; exact zq0; exact NewsU3 (by simp only [go_sem]; rfl) rfl; omega; rintro ⟨a', n', q'⟩ hn' E2 h1 h2 h3; dsimp only at hn'; have z := zn h1 (zg h2) h3 hX hQ; clear hX hP hA hQ h1 h2 h3; obtain ⟨hX, hP, hA, hQ⟩ := z)
  | (refine WO_LE 850 (LS_ssl (e := 5) (k := 1) hP el207 ?_ ?_ ?_ ?_ ?_ ?_) ?_
     exact zq0; exact zq0; exact zq0
     rotate_left 3
     intro _ _; simp only [go_sem, cutA00, cutA1, Option.map_some, Int.toNat_natCast, Int.toNat_zero, Int.toNat_one, Nat.sub_zero, eM])
  | (refine WO_LE 850 (LS_rc (⟨g, i.toNat, none⟩) [.int .u8 (fb i.toNat)] false hX ?_ ?_ ?_ ?_ (fun _ => rfl)) ?_; exact zq0; exact one_cell (hcell i.toNat zo); exact hgF; exact sz5; intro _ _) | (refine WO_LE 850 (LS_rc (⟨g, (dp + L + i).toNat, none⟩) [.int .u8 (fb (dp + L + i).toNat)] false hX ?_ ?_ ?_ ?_ (fun _ => rfl)) ?_; exact zq0; exact one_cell (hcell (dp + L + i).toNat zo); exact hgF; exact sz5; intro _ _)
  | (with_reducible show WC _ (.loop _) _ _
     apply WC_loopG (ι := (Option Addr × Nat × Nat) × Int) (fun x => (x.1.2.1 : Int) <= 1000 + x.2 /\ 0 <= x.2 /\ x.2 <= 60) [192, 193, 194, 25, 195, 196, 197, 198, 0, 199, 191] (fun x => [(0, .sc (.va (.slice x.1.1 x.1.2.1 x.1.2.2))), (191, .sc (.va (.int .i64 x.2)))]) (fun _ => []) (fun x => [(0, RbA (.slice x.1.1 x.1.2.1 x.1.2.2) x.1.2.1)]) (fun x => (100 - x.2).toNat) ((a', n', q'), 0) ⟨zj, zj, zj⟩ [(0, 0)] hX
     exact zq10; exact zq5; exact zq7; exact zq5; rfl; rfl; rfl; exact zq4; rintro ⟨⟨a', n', q'⟩, i⟩ ⟨hb1, hb2, hb3⟩ E' hX' hA' hQ' J hJ; rw [hQ] at hQ'; clear hQ hA hP hX; have hP := zP hX'; have hX := hX'; have hQ := hQ'; have hA := hA'; clear hX' hQ' hA'
     refine vc_ok 900 _ _ _ ?_
     dsimp only at hb1 hb2 hb3 hA)
  | (with_reducible show WC _ (.loop _) _ _
     apply WC_loopG (ι := (Option Addr × Nat × Nat) × Int) (fun x => (x.1.2.1 : Int) <= 1000 + x.2 /\ 0 <= x.2 /\ x.2 <= 60) [192, 193, 194, 25, 195, 196, 197, 198, 0, 199, 191] (fun x => [(0, .sc (.va (.slice x.1.1 x.1.2.1 x.1.2.2))), (191, .sc (.va (.int .i64 x.2)))]) (fun _ => []) (fun x => [(0, RbA (.slice x.1.1 x.1.2.1 x.1.2.2) x.1.2.1)]) (fun x => (100 - x.2).toNat) ((a', n', q'), 0) ⟨zj, zj, zj⟩ [(1, 0)] hX
     exact zq10; exact zq5; exact zq7; exact zq5; rfl; rfl; rfl; exact zq4; rintro ⟨⟨a', n', q'⟩, i⟩ ⟨hb1, hb2, hb3⟩ E' hX' hA' hQ' J hJ; rw [hQ] at hQ'; clear hQ hA hP hX; have hP := zP hX'; have hX := hX'; have hQ := hQ'; have hA := hA'; clear hX' hQ' hA'
     refine vc_ok 900 _ _ _ ?_
     dsimp only at hb1 hb2 hb3 hA)
  | (with_reducible show WC _ (.loop _) _ _
     apply WC_loopG (ι := (Option Addr × Nat × Nat) × Int) (fun x => (x.1.2.1 : Int) <= 2000 + x.2 /\ 0 <= x.2 /\ x.2 <= 60) [204, 205, 206, 207, 0, 208, 203] (fun x => [(0, .sc (.va (.slice x.1.1 x.1.2.1 x.1.2.2))), (203, .sc (.va (.int .i64 x.2)))]) (fun _ => []) (fun x => [(0, RbA (.slice x.1.1 x.1.2.1 x.1.2.2) x.1.2.1)]) (fun x => (100 - x.2).toNat) ((a', n', q'), 0) ⟨zj, zj, zj⟩ [(0, 0)] hX
     exact zq10; exact zq5; exact zq7; exact zq5; rfl; rfl; rfl; exact zq4; rintro ⟨⟨a', n', q'⟩, i⟩ ⟨hb1, hb2, hb3⟩ E' hX' hA' hQ' J hJ; rw [hQ] at hQ'; clear hQ hA hP hX; have hP := zP hX'; have hX := hX'; have hQ := hQ'; have hA := hA'; clear hX' hQ' hA'
     refine vc_ok 900 _ _ _ ?_
     dsimp only at hb1 hb2 hb3 hA)
  | (with_reducible show WC _ (.loop _) _ _
     apply WC_loopG (ι := (Option Addr × Nat × Nat) × Int) (fun x => (x.1.2.1 : Int) <= 2000 + x.2 /\ 0 <= x.2 /\ x.2 <= 60) [204, 205, 206, 207, 0, 208, 203] (fun x => [(0, .sc (.va (.slice x.1.1 x.1.2.1 x.1.2.2))), (203, .sc (.va (.int .i64 x.2)))]) (fun _ => []) (fun x => [(0, RbA (.slice x.1.1 x.1.2.1 x.1.2.2) x.1.2.1)]) (fun x => (100 - x.2).toNat) ((a', n', q'), 0) ⟨zj, zj, zj⟩ [(1, 0)] hX
     exact zq10; exact zq5; exact zq7; exact zq5; rfl; rfl; rfl; exact zq4; rintro ⟨⟨a', n', q'⟩, i⟩ ⟨hb1, hb2, hb3⟩ E' hX' hA' hQ' J hJ; rw [hQ] at hQ'; clear hQ hA hP hX; have hP := zP hX'; have hX := hX'; have hQ := hQ'; have hA := hA'; clear hX' hQ' hA'
     refine vc_ok 900 _ _ _ ?_
     dsimp only at hb1 hb2 hb3 hA)
  | (with_reducible show WC _ (.loop _) _ _
     apply WC_loopG (ι := (Option Addr × Nat × Nat) × Int) (fun x => (x.1.2.1 : Int) <= 3000 + x.2 /\ 0 <= x.2 /\ x.2 <= 60) [241, 242, 243, 244, 0, 245, 240] (fun x => [(0, .sc (.va (.slice x.1.1 x.1.2.1 x.1.2.2))), (240, .sc (.va (.int .i64 x.2)))]) (fun _ => []) (fun x => [(0, RbA (.slice x.1.1 x.1.2.1 x.1.2.2) x.1.2.1)]) (fun x => (100 - x.2).toNat) ((a', n', q'), 0) ⟨zj, zj, zj⟩ [(0, 0)] hX
     exact zq10; exact zq5; exact zq7; exact zq5; rfl; rfl; rfl; exact zq4; rintro ⟨⟨a', n', q'⟩, i⟩ ⟨hb1, hb2, hb3⟩ E' hX' hA' hQ' J hJ; rw [hQ] at hQ'; clear hQ hA hP hX; have hP := zP hX'; have hX := hX'; have hQ := hQ'; have hA := hA'; clear hX' hQ' hA'
     refine vc_ok 900 _ _ _ ?_
     dsimp only at hb1 hb2 hb3 hA)
  | (with_reducible show WC _ (.loop _) _ _
     apply WC_loopG (ι := (Option Addr × Nat × Nat) × Int) (fun x => (x.1.2.1 : Int) <= 3000 + x.2 /\ 0 <= x.2 /\ x.2 <= 60) [241, 242, 243, 244, 0, 245, 240] (fun x => [(0, .sc (.va (.slice x.1.1 x.1.2.1 x.1.2.2))), (240, .sc (.va (.int .i64 x.2)))]) (fun _ => []) (fun x => [(0, RbA (.slice x.1.1 x.1.2.1 x.1.2.2) x.1.2.1)]) (fun x => (100 - x.2).toNat) ((a', n', q'), 0) ⟨zj, zj, zj⟩ [(1, 0)] hX
     exact zq10; exact zq5; exact zq7; exact zq5; rfl; rfl; rfl; exact zq4; rintro ⟨⟨a', n', q'⟩, i⟩ ⟨hb1, hb2, hb3⟩ E' hX' hA' hQ' J hJ; rw [hQ] at hQ'; clear hQ hA hP hX; have hP := zP hX'; have hX := hX'; have hQ := hQ'; have hA := hA'; clear hX' hQ' hA'
     refine vc_ok 900 _ _ _ ?_
     dsimp only at hb1 hb2 hb3 hA)
  | (with_reducible show WC _ (.loop _) _ _
     apply WC_loopG (ι := (Option Addr × Nat × Nat) × Int) (fun x => (x.1.2.1 : Int) <= 3000 + x.2 /\ 0 <= x.2 /\ x.2 <= 60) [241, 242, 243, 244, 0, 245, 240] (fun x => [(0, .sc (.va (.slice x.1.1 x.1.2.1 x.1.2.2))), (240, .sc (.va (.int .i64 x.2)))]) (fun _ => []) (fun x => [(0, RbA (.slice x.1.1 x.1.2.1 x.1.2.2) x.1.2.1)]) (fun x => (100 - x.2).toNat) ((a', n', q'), 0) ⟨zj, zj, zj⟩ [(2, 0)] hX
     exact zq10; exact zq5; exact zq7; exact zq5; rfl; rfl; rfl; exact zq4; rintro ⟨⟨a', n', q'⟩, i⟩ ⟨hb1, hb2, hb3⟩ E' hX' hA' hQ' J hJ; rw [hQ] at hQ'; clear hQ hA hP hX; have hP := zP hX'; have hX := hX'; have hQ := hQ'; have hA := hA'; clear hX' hQ' hA'
     refine vc_ok 900 _ _ _ ?_
     dsimp only at hb1 hb2 hb3 hA)
  | (with_reducible show WC _ (.loop _) _ _
     apply WC_loopG (ι := (Option Addr × Nat × Nat) × Int) (fun x => (x.1.2.1 : Int) <= 3000 + x.2 /\ 0 <= x.2 /\ x.2 <= 60) [241, 242, 243, 244, 0, 245, 240] (fun x => [(0, .sc (.va (.slice x.1.1 x.1.2.1 x.1.2.2))), (240, .sc (.va (.int .i64 x.2)))]) (fun _ => []) (fun x => [(0, RbA (.slice x.1.1 x.1.2.1 x.1.2.2) x.1.2.1)]) (fun x => (100 - x.2).toNat) ((a', n', q'), 0) ⟨zj, zj, zj⟩ [(3, 0)] hX
     exact zq10; exact zq5; exact zq7; exact zq5; rfl; rfl; rfl; exact zq4; rintro ⟨⟨a', n', q'⟩, i⟩ ⟨hb1, hb2, hb3⟩ E' hX' hA' hQ' J hJ; rw [hQ] at hQ'; clear hQ hA hP hX; have hP := zP hX'; have hX := hX'; have hQ := hQ'; have hA := hA'; clear hX' hQ' hA'
     refine vc_ok 900 _ _ _ ?_
     dsimp only at hb1 hb2 hb3 hA)
  | (with_reducible show WC _ (.loop _) _ _
     apply WC_loopG (ι := (Option Addr × Nat × Nat) × Int) (fun x => (x.1.2.1 : Int) <= 4000 + x.2 /\ 0 <= x.2 /\ x.2 <= 60) [248, 249, 30, 250, 251, 252, 253, 254, 255, 256, 257, 258, 0, 259, 247] (fun x => [(0, .sc (.va (.slice x.1.1 x.1.2.1 x.1.2.2))), (247, .sc (.va (.int .i64 x.2)))]) (fun _ => []) (fun x => [(0, RbA (.slice x.1.1 x.1.2.1 x.1.2.2) x.1.2.1)]) (fun x => (100 - x.2).toNat) ((a', n', q'), 0) ⟨zj, zj, zj⟩ [(0, 0)] hX
     exact zq10; exact zq5; exact zq7; exact zq5; rfl; rfl; rfl; exact zq4; rintro ⟨⟨a', n', q'⟩, i⟩ ⟨hb1, hb2, hb3⟩ E' hX' hA' hQ' J hJ; rw [hQ] at hQ'; clear hQ hA hP hX; have hP := zP hX'; have hX := hX'; have hQ := hQ'; have hA := hA'; clear hX' hQ' hA'
     refine vc_ok 900 _ _ _ ?_
     dsimp only at hb1 hb2 hb3 hA)
  | (with_reducible show WC _ (.loop _) _ _
     apply WC_loopG (ι := (Option Addr × Nat × Nat) × Int) (fun x => (x.1.2.1 : Int) <= 4000 + x.2 /\ 0 <= x.2 /\ x.2 <= 60) [248, 249, 30, 250, 251, 252, 253, 254, 255, 256, 257, 258, 0, 259, 247] (fun x => [(0, .sc (.va (.slice x.1.1 x.1.2.1 x.1.2.2))), (247, .sc (.va (.int .i64 x.2)))]) (fun _ => []) (fun x => [(0, RbA (.slice x.1.1 x.1.2.1 x.1.2.2) x.1.2.1)]) (fun x => (100 - x.2).toNat) ((a', n', q'), 0) ⟨zj, zj, zj⟩ [(1, 0)] hX
     exact zq10; exact zq5; exact zq7; exact zq5; rfl; rfl; rfl; exact zq4; rintro ⟨⟨a', n', q'⟩, i⟩ ⟨hb1, hb2, hb3⟩ E' hX' hA' hQ' J hJ; rw [hQ] at hQ'; clear hQ hA hP hX; have hP := zP hX'; have hX := hX'; have hQ := hQ'; have hA := hA'; clear hX' hQ' hA'
     refine vc_ok 900 _ _ _ ?_
     dsimp only at hb1 hb2 hb3 hA)
  | (with_reducible show WC _ (.loop _) _ _
     apply WC_loopG (ι := (Option Addr × Nat × Nat) × Int) (fun x => (x.1.2.1 : Int) <= 4000 + x.2 /\ 0 <= x.2 /\ x.2 <= 60) [248, 249, 30, 250, 251, 252, 253, 254, 255, 256, 257, 258, 0, 259, 247] (fun x => [(0, .sc (.va (.slice x.1.1 x.1.2.1 x.1.2.2))), (247, .sc (.va (.int .i64 x.2)))]) (fun _ => []) (fun x => [(0, RbA (.slice x.1.1 x.1.2.1 x.1.2.2) x.1.2.1)]) (fun x => (100 - x.2).toNat) ((a', n', q'), 0) ⟨zj, zj, zj⟩ [(2, 0)] hX
     exact zq10; exact zq5; exact zq7; exact zq5; rfl; rfl; rfl; exact zq4; rintro ⟨⟨a', n', q'⟩, i⟩ ⟨hb1, hb2, hb3⟩ E' hX' hA' hQ' J hJ; rw [hQ] at hQ'; clear hQ hA hP hX; have hP := zP hX'; have hX := hX'; have hQ := hQ'; have hA := hA'; clear hX' hQ' hA'
     refine vc_ok 900 _ _ _ ?_
     dsimp only at hb1 hb2 hb3 hA)
  | (with_reducible show WC _ (.loop _) _ _
     apply WC_loopG (ι := (Option Addr × Nat × Nat) × Int) (fun x => (x.1.2.1 : Int) <= 4000 + x.2 /\ 0 <= x.2 /\ x.2 <= 60) [248, 249, 30, 250, 251, 252, 253, 254, 255, 256, 257, 258, 0, 259, 247] (fun x => [(0, .sc (.va (.slice x.1.1 x.1.2.1 x.1.2.2))), (247, .sc (.va (.int .i64 x.2)))]) (fun _ => []) (fun x => [(0, RbA (.slice x.1.1 x.1.2.1 x.1.2.2) x.1.2.1)]) (fun x => (100 - x.2).toNat) ((a', n', q'), 0) ⟨zj, zj, zj⟩ [(3, 0)] hX
     exact zq10; exact zq5; exact zq7; exact zq5; rfl; rfl; rfl; exact zq4; rintro ⟨⟨a', n', q'⟩, i⟩ ⟨hb1, hb2, hb3⟩ E' hX' hA' hQ' J hJ; rw [hQ] at hQ'; clear hQ hA hP hX; have hP := zP hX'; have hX := hX'; have hQ := hQ'; have hA := hA'; clear hX' hQ' hA'
     refine vc_ok 900 _ _ _ ?_
     dsimp only at hb1 hb2 hb3 hA)
  | (with_reducible show WC _ (.loop _) _ _
     apply WC_loopG (ι := (Option Addr × Nat × Nat) × Int) (fun x => (x.1.2.1 : Int) <= 5000 + x.2 /\ 0 <= x.2 /\ x.2 <= 60) [262, 263, 264, 265, 0, 266, 261] (fun x => [(0, .sc (.va (.slice x.1.1 x.1.2.1 x.1.2.2))), (261, .sc (.va (.int .i64 x.2)))]) (fun _ => []) (fun x => [(0, RbA (.slice x.1.1 x.1.2.1 x.1.2.2) x.1.2.1)]) (fun x => (100 - x.2).toNat) ((a', n', q'), 0) ⟨zj, zj, zj⟩ [(0, 0)] hX
     exact zq10; exact zq5; exact zq7; exact zq5; rfl; rfl; rfl; exact zq4; rintro ⟨⟨a', n', q'⟩, i⟩ ⟨hb1, hb2, hb3⟩ E' hX' hA' hQ' J hJ; rw [hQ] at hQ'; clear hQ hA hP hX; have hP := zP hX'; have hX := hX'; have hQ := hQ'; have hA := hA'; clear hX' hQ' hA'
     refine vc_ok 900 _ _ _ ?_
     dsimp only at hb1 hb2 hb3 hA)
  | (with_reducible show WC _ (.loop _) _ _
     apply WC_loopG (ι := (Option Addr × Nat × Nat) × Int) (fun x => (x.1.2.1 : Int) <= 5000 + x.2 /\ 0 <= x.2 /\ x.2 <= 60) [262, 263, 264, 265, 0, 266, 261] (fun x => [(0, .sc (.va (.slice x.1.1 x.1.2.1 x.1.2.2))), (261, .sc (.va (.int .i64 x.2)))]) (fun _ => []) (fun x => [(0, RbA (.slice x.1.1 x.1.2.1 x.1.2.2) x.1.2.1)]) (fun x => (100 - x.2).toNat) ((a', n', q'), 0) ⟨zj, zj, zj⟩ [(1, 0)] hX
     exact zq10; exact zq5; exact zq7; exact zq5; rfl; rfl; rfl; exact zq4; rintro ⟨⟨a', n', q'⟩, i⟩ ⟨hb1, hb2, hb3⟩ E' hX' hA' hQ' J hJ; rw [hQ] at hQ'; clear hQ hA hP hX; have hP := zP hX'; have hX := hX'; have hQ := hQ'; have hA := hA'; clear hX' hQ' hA'
     refine vc_ok 900 _ _ _ ?_
     dsimp only at hb1 hb2 hb3 hA)
  | (with_reducible show WC _ (.loop _) _ _
     apply WC_loopG (ι := (Option Addr × Nat × Nat) × Int) (fun x => (x.1.2.1 : Int) <= 5000 + x.2 /\ 0 <= x.2 /\ x.2 <= 60) [262, 263, 264, 265, 0, 266, 261] (fun x => [(0, .sc (.va (.slice x.1.1 x.1.2.1 x.1.2.2))), (261, .sc (.va (.int .i64 x.2)))]) (fun _ => []) (fun x => [(0, RbA (.slice x.1.1 x.1.2.1 x.1.2.2) x.1.2.1)]) (fun x => (100 - x.2).toNat) ((a', n', q'), 0) ⟨zj, zj, zj⟩ [(2, 0)] hX
     exact zq10; exact zq5; exact zq7; exact zq5; rfl; rfl; rfl; exact zq4; rintro ⟨⟨a', n', q'⟩, i⟩ ⟨hb1, hb2, hb3⟩ E' hX' hA' hQ' J hJ; rw [hQ] at hQ'; clear hQ hA hP hX; have hP := zP hX'; have hX := hX'; have hQ := hQ'; have hA := hA'; clear hX' hQ' hA'
     refine vc_ok 900 _ _ _ ?_
     dsimp only at hb1 hb2 hb3 hA)
  | (with_reducible show WC _ (.loop _) _ _
     apply WC_loopG (ι := (Option Addr × Nat × Nat) × Int) (fun x => (x.1.2.1 : Int) <= 5000 + x.2 /\ 0 <= x.2 /\ x.2 <= 60) [262, 263, 264, 265, 0, 266, 261] (fun x => [(0, .sc (.va (.slice x.1.1 x.1.2.1 x.1.2.2))), (261, .sc (.va (.int .i64 x.2)))]) (fun _ => []) (fun x => [(0, RbA (.slice x.1.1 x.1.2.1 x.1.2.2) x.1.2.1)]) (fun x => (100 - x.2).toNat) ((a', n', q'), 0) ⟨zj, zj, zj⟩ [(3, 0)] hX
     exact zq10; exact zq5; exact zq7; exact zq5; rfl; rfl; rfl; exact zq4; rintro ⟨⟨a', n', q'⟩, i⟩ ⟨hb1, hb2, hb3⟩ E' hX' hA' hQ' J hJ; rw [hQ] at hQ'; clear hQ hA hP hX; have hP := zP hX'; have hX := hX'; have hQ := hQ'; have hA := hA'; clear hX' hQ' hA'
     refine vc_ok 900 _ _ _ ?_
     dsimp only at hb1 hb2 hb3 hA)
  | (apply WX_lpG _ _ [(1, 0)] hX (hJ (((a', n', q'), i + 1)) ⟨zj, zj, zj⟩ zj); exact zq7; exact zq3; exact zq7; exact zq3; rfl; rfl; rfl; exact zq4) | (apply WX_lpG _ _ [(2, 0)] hX (hJ (((a', n', q'), i + 1)) ⟨zj, zj, zj⟩ zj); exact zq7; exact zq3; exact zq7; exact zq3; rfl; rfl; rfl; exact zq4) | (apply WX_lpG _ _ [(3, 0)] hX (hJ (((a', n', q'), i + 1)) ⟨zj, zj, zj⟩ zj); exact zq7; exact zq3; exact zq7; exact zq3; rfl; rfl; rfl; exact zq4) | (apply WX_lpG _ _ [(4, 0)] hX (hJ (((a', n', q'), i + 1)) ⟨zj, zj, zj⟩ zj); exact zq7; exact zq3; exact zq7; exact zq3; rfl; rfl; rfl; exact zq4) | (apply WX_lpG _ _ [(5, 0)] hX (hJ (((a', n', q'), i + 1)) ⟨zj, zj, zj⟩ zj); exact zq7; exact zq3; exact zq7; exact zq3; rfl; rfl; rfl; exact zq4)
  | simp (maxSteps := 20000000) only [Tryz.f124, go_sem, zL, ↓reduceIte, reduceCtorEq, Nat.reduceAdd, Nat.reduceMul, Nat.reduceSub, Nat.reduceLeDiff, Nat.reduceEqDiff, Nat.reduceLT, Nat.reduceBEq, Int.reduceEq, hP, hX, addr_add, Nat.mul_one, Nat.zero_add, Nat.add_zero, Option.isSome_some, Int.toNat_natCast, Int.toNat_zero, eP, eM, eZ, eL, eQ, eM2, eTZ]
 all_goals try first
  | (intro a w' r own hs'; exact retJ_fin hs' (a', n', q') trivial (fun r => .inr rfl) zw0) | (with_reducible show I64 (Int.tdiv _ _); exact tdivI zo zo zi) | (with_reducible show I64 _; unfold I64; omega) | (with_reducible show I64 _; unfold I64 imax imin; split <;> omega) | omega
