/- Lemmas for FnFilterTree; each condition stands in its statement. -/
import Derived.Test.YtbfenkhnfflpnaaGreatDoorGdc
namespace Go.Proofs.YtbfenkhnfflpnaaGreatDoor.Sx
open Go Go.RowKit
set_option maxRecDepth 100000
set_option maxHeartbeats 40000000
set_option linter.all false
section
attribute [local irreducible] leT leH WO WX WC WD LS WS WQ
structure ls53 (dg : Nat -> Int) (nd : Int) (c : Nat) (n : Int) (d : Nat -> Int) : Prop where
 a1 : 0 <= n
 a2 : n < 9007199254740992
 a3 : (c : Int) <= nd
 a4 : ∀ i : Nat, (i : Int) < nd - c -> d i = dg i
theorem upd_hi {d : Nat -> Int} {nd v : Int} {c i : Nat} (hi : (i : Int) < nd - (c + 1 : Nat)) : updD d (nd + 16 - (c : Int) - 1).toNat v i = d i := by
 unfold updD
 rw [if_neg zo]
theorem ls53_st {dg d d' : Nat -> Int} {nd n : Int} {c : Nat} (h : ls53 dg nd c n d) (hdg : dgOk dg nd) (hc : 0 <= nd - 1 - (c : Int)) (hd : ∀ i : Nat, (i : Int) < nd - (c + 1 : Nat) -> d' i = d i) : ls53 dg nd (c + 1) (IntKind.u64.wrap ((IntKind.u64.wrap (n + IntKind.u64.wrap (IntKind.u64.wrap (IntKind.u64.wrap (d (nd - 1 - (c : Int)).toNat) - 48) * 2 ^ min 53 64))).tdiv 10)) d' := by
 have q4 := h.a4 (nd - 1 - (c : Int)).toNat zo; have hr := hdg (nd - 1 - (c : Int)).toNat zo; have q1 := h.a1; have q2 := h.a2; have q3 := h.a3
 have e53 : (2 : Int) ^ min 53 64 = 9007199254740992 := by decide
 have hN : IntKind.u64.wrap (n + IntKind.u64.wrap (IntKind.u64.wrap (IntKind.u64.wrap (d (nd - 1 - (c : Int)).toNat) - 48) * 2 ^ min 53 64)) = n + 9007199254740992 * (dg (nd - 1 - (c : Int)).toNat - 48) := by
  rw [q4, e53]
  generalize dg (nd - 1 - (c : Int)).toNat = y at hr ⊢
  simp only [wrapU64_eq]; omega
 rw [hN]
 generalize dg (nd - 1 - (c : Int)).toNat = y at hr ⊢
 clear hN q4
 obtain ⟨M, hM⟩ : ∃ M, n + 9007199254740992 * (y - 48) = M := ⟨_, rfl⟩
 rw [hM]
 have hM1 : 0 <= M := by omega
 have hM2 : M < 90071992547409920 := by omega
 clear hM; have ht : M.tdiv 10 = M / 10 := Int.tdiv_eq_ediv_of_nonneg hM1
 refine ⟨?_, ?_, zo, fun i hi => by rw [hd i hi]; exact h.a4 i zo⟩
 · rw [ht]; simp only [wrapU64_eq]; omega
 · rw [ht]; simp only [wrapU64_eq]; omega
theorem p10_mono {a b : Nat} (h : a <= b) : p10 a <= p10 b := by
 obtain ⟨c, rfl⟩ := Nat.le.dest h; clear h
 induction c with
 | zero => exact Int.le_refl _
 | succ c ih => rw [show a + (c + 1) = (a + c) + 1 by omega, p10_succ]; have := p10_pos (a + c); omega
theorem p10_st {n : Int} {c : Nat} (h1 : 0 <= n) (h2 : n < p10 c) (h3 : c <= 16) (h : 0 < n) : 0 <= IntKind.u64.wrap (n.tdiv 10) /\ IntKind.u64.wrap (n.tdiv 10) < p10 (c - 1) /\ c - 1 <= 16 := by
 obtain ⟨m, rfl⟩ : ∃ m, c = m + 1 := ⟨c - 1, by rcases Nat.eq_zero_or_pos c with e | e; (subst e; have : p10 0 = 1 := rfl; omega); omega⟩
 rw [p10_succ] at h2; have h5 : p10 (m + 1) <= p10 16 := p10_mono h3; have h6 : p10 16 = 10000000000000000 := rfl; rw [p10_succ] at h5; have ht : n.tdiv 10 = n / 10 := Int.tdiv_eq_ediv_of_nonneg h1; rw [ht, show m + 1 - 1 = m by omega]; simp only [wrapU64_eq]; omega
theorem c171w (w : World) (g : Nat) (nd dp : Int) (ng tr : Bool) (dg : Nat -> Int) (hD : (DecA g nd dp ng tr dg).P w (fun k => k = g)) (h0 : 0 <= nd) (h8 : nd <= 800) (hp : -1000 <= dp /\ dp <= 1000) : Calls Tryz.prog 171 [.pointer (some ⟨g, 0, none⟩)].toArray w (RetD (fun x : Int × Int => .tu []) (fun x => 0 <= x.1 /\ x.1 <= 800 /\ -1000 <= x.2 /\ x.2 <= 1000) (fun x : Int × Int => DecA g x.1 x.2 ng tr dg) g w) :=
 (c171 w g nd dp ng tr dg hD h0 h8 hp).mono fun e w' hr => by
   obtain ⟨x, ⟨h1, h2, h3, h4, _⟩, hx⟩ := hr
   refine ⟨x, ⟨h1, zo, ?_, ?_⟩, hx⟩
   · rcases Int.lt_or_le 0 x.1 with h | h
     · rw [h4 h]; omega
     · rw [h3 zo]; decide
   · rcases Int.lt_or_le 0 x.1 with h | h
     · rw [h4 h]; omega
     · rw [h3 zo]; decide
theorem c172_53 (w : World) (F : Nat -> Prop) (hG : Gl w F) (g : Nat) (hgF : ¬ F g) (nd dp : Int) (ng tr : Bool) (dg : Nat -> Int) (hD : (DecA g nd dp ng tr dg).P w (fun k => k = g)) (h0 : 1 <= nd) (h8 : nd <= 800) (hp : -900 <= dp /\ dp <= 900) (hdg : dgOk dg nd) (hd0 : 50 <= dg 0) : Calls Tryz.prog 172 [.pointer (some ⟨g, 0, none⟩), .int .u64 53].toArray w (RetD (fun _ : Int × Int × Bool × (Nat -> Int) => .tu []) (fun x => 0 <= x.1 /\ x.1 <= 800 /\ -1000 <= x.2.1 /\ x.2.1 <= 1000) (fun x => DecA g x.1 x.2.1 ng x.2.2.1 x.2.2.2) g w) := by
 obtain ⟨_, bq, oq, cq, hq1, hq2, ⟨hq3, s1, hq4, hq5, hq5', hq6⟩, hq7, s2, hq8, hq9, hq9', hq10⟩ := hG.lc; have hMq : ¬ (fun k => k = g) bq := fun h => hgF (by rw [<- show bq = g from h]; exact hq1); have hM11 : ¬ (fun k => k = g) (11 : Nat) := fun h => hgF (by rw [<- show 11 = g from h]; exact hG.lc.1)
 refine calls_startD 1000 g 270 804 _ [.sc (.va (.pointer (some ⟨g, 0, none⟩))), .sc (.va (.int .u64 53))] Tryz.func172 rfl ⟨⟨rfl, rfl⟩, ⟨rfl, rfl⟩, trivial⟩ hD fun E hX hP hA hQ => ?_
 repeat' first
  | refine zC ?_ | apply zI <;> intro hdec | with_reducible constructor | (with_reducible refine vqd_dec ?_ ?_ <;> intro hdec <;> first | (exfalso; omega) | rw [decide_eq_true hdec] | rw [decide_eq_false hdec] | skip) | (with_reducible refine vqd_ndec ?_ ?_ <;> intro hdec <;> first | (exfalso; omega) | rw [decide_eq_true hdec] | rw [decide_eq_false hdec] | skip)
  | (with_reducible refine vqd_t 850 ?_ ?_
     · exact zq2)
  | (with_reducible refine vqd_f 850 ?_ ?_
     · exact zq2)
  | (with_reducible show WC _ (.loop (.seq (.seq (.region 7 _ _) _) _)) _ _
     apply WC_loopG (ι := Nat × Int × (Nat -> Int) × Bool) (fun x => ls53 dg nd x.1 x.2.1 x.2.2.1) [45, 46, 49, 50, 51, 52, 53, 54, 55, 56, 57, 58, 59, 60, 7, 61, 62, 8, 63, 64, 65, 66, 9, 67, 68, 6, 69, 70, 71, 72, 73, 74, 75, 76, 77, 78, 79, 80, 81, 82, 83, 84, 47, 48, 5] (fun x => [(5, .sc (.va (.int .i64 (nd - 1 - x.1)))), (6, .sc (.va (.int .i64 (nd + 16 - x.1)))), (7, .sc (.va (.int .u64 x.2.1)))]) (fun _ => []) (fun x => [(0, DecA g nd dp ng x.2.2.2 x.2.2.1)]) (fun x => nd.toNat + 1 - x.1) (0, 0, dg, tr) ⟨Int.le_refl 0, zj, zj, fun i _ => rfl⟩ [(1, 0)] hX
     exact zq87; exact zq5; exact zq11; exact zq5; rfl; rfl; rfl; exact zq4; rintro ⟨c, n, d, t⟩ q E' hX' hA' hQ' J hJ; refine zl ?_; intro hX hP hA hQ; dsimp only at q hA; have q1 := q.a1; have q2 := q.a2; have q3 := q.a3; have q4 := q.a4 (nd - 1 - c).toNat; have hdr := hdg (nd - 1 - c).toNat
     refine vc_ok 900 _ _ _ ?_)
  | exact zG11 [(2, 0)] (hJ ((c + 1, (IntKind.u64.wrap ((IntKind.u64.wrap (n + IntKind.u64.wrap (IntKind.u64.wrap (IntKind.u64.wrap (d (nd - 1 - (c : Int)).toNat) - 48) * 2 ^ min 53 64))).tdiv 10)), updD d (nd + 16 - (c : Int) - 1).toNat (IntKind.u8.wrap (IntKind.u64.wrap (IntKind.u64.wrap (IntKind.u64.wrap (n + IntKind.u64.wrap (IntKind.u64.wrap (IntKind.u64.wrap (d (nd - 1 - (c : Int)).toNat) - 48) * 2 ^ min 53 64)) - IntKind.u64.wrap (10 * IntKind.u64.wrap ((IntKind.u64.wrap (n + IntKind.u64.wrap (IntKind.u64.wrap (IntKind.u64.wrap (d (nd - 1 - (c : Int)).toNat) - 48) * 2 ^ min 53 64))).tdiv 10))) + 48))), t)) (ls53_st q hdg (by assumption) (fun i hi => upd_hi hi)) zj)
  | exact zG11 [(2, 0)] (hJ ((c + 1, (IntKind.u64.wrap ((IntKind.u64.wrap (n + IntKind.u64.wrap (IntKind.u64.wrap (IntKind.u64.wrap (d (nd - 1 - (c : Int)).toNat) - 48) * 2 ^ min 53 64))).tdiv 10)), d, true)) (ls53_st q hdg (by assumption) (fun i hi => rfl)) zj)
  | exact zG11 [(0, 0)] (hJ ((c + 1, (IntKind.u64.wrap ((IntKind.u64.wrap (n + IntKind.u64.wrap (IntKind.u64.wrap (IntKind.u64.wrap (d (nd - 1 - (c : Int)).toNat) - 48) * 2 ^ min 53 64))).tdiv 10)), d, t)) (ls53_st q hdg (by assumption) (fun i hi => rfl)) zj)
  | (with_reducible show WC _ (.loop (.seq (.seq (.region 18 _ _) _) _)) _ _
     apply WC_loopG (ι := Nat × Int × (Nat -> Int) × Bool) (fun x => 0 <= x.2.1 /\ x.2.1 < p10 x.1 /\ x.1 <= 16) [85, 86, 87, 88, 10, 89, 90, 91, 92, 11, 93, 94, 6, 95, 96, 97, 98, 99, 100, 101, 102, 103, 104, 105, 106, 107, 108, 109, 110, 7] (fun x => [(6, .sc (.va (.int .i64 x.1))), (7, .sc (.va (.int .u64 x.2.1)))]) (fun _ => []) (fun x => [(0, DecA g nd dp ng x.2.2.2 x.2.2.1)]) (fun x => x.1) (16, n, d, t) ⟨q1, by have : p10 16 = 10000000000000000 := rfl; dsimp only; omega, Nat.le_refl _⟩ [(0, 0)] hX
     exact zq87; exact zq5; exact zq11; exact zq5; rfl; rfl; rfl; exact zq4; rintro ⟨c2, n2, d2, t2⟩ p E' hX' hA' hQ' J hJ; refine zl ?_; intro hX hP hA hQ; dsimp only at p hA; obtain ⟨p1, p2, p3⟩ := p
     have p4 : 0 < n2 -> 1 <= c2 := fun h => by rcases Nat.eq_zero_or_pos c2 with e | e; (subst e; have : p10 0 = 1 := rfl; omega); exact e
     refine vc_ok 900 _ _ _ ?_)
  | exact zG11 [(2, 0)] (hJ ((c2 - 1, (IntKind.u64.wrap (n2.tdiv 10)), updD d2 ((c2 : Int) - 1).toNat (IntKind.u8.wrap (IntKind.u64.wrap (IntKind.u64.wrap (n2 - IntKind.u64.wrap (10 * IntKind.u64.wrap (n2.tdiv 10))) + 48))), t2)) (p10_st p1 p2 p3 (by assumption)) (by have := p4 (by assumption); dsimp only; omega))
  | (refine WO_LS 850 (LS_callD (α := Int × Int) (f := 171) g 270 804 _ _ (fun _ => .tu []) (fun x => 0 <= x.1 /\ x.1 <= 800 /\ -1000 <= x.2 /\ x.2 <= 1000) (fun x => DecA g x.1 x.2 ng t2 d2) hP rfl ?_ ?_ ?_ zw0 ?_) ?_
     exact zq1; exact zq33; exact zq0
     · (intro a w r own hSim hDD; simp only [go_sem]; exact c171w _ _ _ _ _ _ _ hDD zo zo ⟨zo, zo⟩)
     rintro ⟨y1, y2⟩ hy E2 h1 h2 h3; refine zz ?_; intro hX hP hA hQ)
  | (refine zr16 ?_; intro _ _) | (refine zr17 ?_; intro _ _) | (refine zr18 ?_; intro _ _) | (refine zr19 ?_; intro _ _) | (refine zr14 ?_ ?_; intro _ _) | (refine zr10 ?_; intro _ _ E2 h1 h2 h3; refine zz ?_; intro hX hP hA hQ) | (refine zr11 ?_; intro _ _ E2 h1 h2 h3; refine zz ?_; intro hX hP hA hQ) | (refine zr12 ?_; intro _ _ E2 h1 h2 h3; refine zz ?_; intro hX hP hA hQ) | (refine zr13 ?_; intro _ _ E2 h1 h2 h3; refine zz ?_; intro hX hP hA hQ) | (refine zr9 ?_ ?_; intro _ _ E2 h1 h2 h3; refine zz ?_; intro hX hP hA hQ) | (refine zr15 ?_ ?_ ?_; intro _ _) | refine zr34 ?_ | refine zr35 ?_ | refine zr30 ?_ ?_ | refine zr32 ?_ ?_ ?_
  | (with_reducible show WC _ (.region _ _ true) _ _
     apply WC_q 900 [13] hP
     exact zq1; exact zq2; exact zq1)
  | (refine zr111 ?_; intro _ _) | (refine WO_LE 850 (LS_rc (⟨bq, oq + 106, none⟩) [.int .i64 16] false hX ?_ ?_ ?_ ?_ (fun _ => rfl)) ?_; exact zq0; exact one_cell hq7; exact hMq; exact sz3; intro _ _)
  | (refine WO_LE 850 (LS_asl 800 1 hP ar268 ?_ ?_ ?_ ?_ ?_ ?_) ?_
     exact zq0; exact zq0; exact zq0
     rotate_left 3
     intro _ _)
  | (refine WQ_asl 850 800 1 hP ?_ rfl rfl ?_ ar268 ?_ ?_ ?_ ?_ ?_ ?_ ?_
     exact zq2; exact zq19; exact zq0; exact zq0; exact zq0
     rotate_left 3)
  | (refine WQ_rc 850 (⟨11, 0, none⟩) (.slice (some ⟨bq, oq, none⟩) 61 cq) hX ?_ rfl rfl ?_ ?_ ?_ ?_ ?_ ?_
     exact zq2; exact zq19; exact zq0; exact hq2; exact hM11; exact sz342
     skip)
  | (refine WQ_rc 850 (⟨bq, oq + 106 + 1, none⟩) (.string s2) hX ?_ rfl rfl ?_ ?_ ?_ ?_ ?_ ?_
     exact zq2; exact zq19; exact zq0; exact hq8; exact hMq; exact sz9
     skip)
  | (refine WO_LS 850 (LS_callD (α := Bool) (f := 195) g 270 804 _ _ (fun b => .sc (.va (.bool b))) (fun b => b = decide (dg 0 < bt s2 0)) (fun _ => DecA g nd dp ng tr dg) hP rfl ?_ ?_ ?_ zw0 ?_) ?_
     exact zq1; exact zq9; exact zq0
     · (intro a w r own hSim hDD; simp only [go_sem]; exact c195 _ _ nd dp ng tr dg hDD (nd.toNat - 0) 800 s2 zo hq9 hq9' (by rw [hq10]; omega))
     intro b hb E2 h1 h2 h3; rw [hq10, decide_eq_false zo] at hb; subst hb; refine zz ?_; intro hX hP hA hQ)
  | apply WX_fin hX rfl hQ (.inr rfl)
  | refine zs29 ?_
 all_goals try first
  | exact zr1 | (with_reducible show (_ : Int) <= _; omega) | (with_reducible show (_ : Int) < _; omega) | exact zr21 | (with_reducible show (_ : Nat) < _; omega) | (with_reducible show (_ : Nat) <= _; omega)
 all_goals try first
  | (exfalso; omega)
  | (intro a w' r' own hs'
     exact retD_fin hs' zw0 ⟨y1, y2, t2, d2⟩ ⟨hy.1, hy.2.1, hy.2.2.1, hy.2.2.2⟩ (fun r => tu0) (fun h => h))
