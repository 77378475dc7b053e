/- Lemmas for FnFilterTree; each condition stands in its statement. -/
import Derived.Test.YtbfenkhnfflpnaaGreatDoorGdf
namespace Go.Proofs.YtbfenkhnfflpnaaGreatDoor.Sx
open Go Go.RowKit
set_option maxRecDepth 100000
set_option maxHeartbeats 40000000
set_option linter.all false
section
attribute [local irreducible] leT leH
def pw (i : Nat) : Int := [1, 3, 6, 9, 13, 16, 19, 23, 26].getD i 0
theorem pw_get {i : Nat} (h : i < 9) : ([1, 3, 6, 9, 13, 16, 19, 23, 26] : List Int)[i]? = some (pw i) := by
 have : ∀ i, i < 9 -> ([1, 3, 6, 9, 13, 16, 19, 23, 26] : List Int)[i]? = some (pw i) := by decide
 exact this i h
structure pwOk (k dp : Int) : Prop where
 a1 : 3 <= k
 a2 : k <= 27
 a3 : (2 : Int) ^ k.toNat < p10 dp.toNat
theorem pwOk_tab {dp : Int} (h1 : 0 < dp) (h2 : dp < 9) : pwOk (pw dp.toNat) dp := by
 obtain ⟨i, rfl⟩ : ∃ i : Nat, dp = i := ⟨dp.toNat, zo⟩
 have key : ∀ i, i < 9 -> 0 < i -> 3 <= pw i /\ pw i <= 27 /\ (2 : Int) ^ (pw i).toNat < p10 i := by decide
 have h := key i zo zo; exact ⟨h.1, h.2.1, h.2.2⟩
theorem pwOk_27 {dp : Int} (h : 9 <= dp) : pwOk 27 dp := ⟨zi, zi, Int.lt_of_lt_of_le (by decide : (2 : Int) ^ (27 : Int).toNat < p10 9) (p10_mono zo)⟩
def hiD (d : Nat -> Int) : Int := if 56 <= d 0 then 1 else 0
structure fl1 (e nd dp : Int) (d : Nat -> Int) : Prop where
 a1 : 1 <= nd
 a2 : nd <= 800
 a3 : 0 <= dp
 a4 : dp <= 18
 a5 : dgOk d nd
 a6 : 49 <= d 0
 a7 : 0 <= e
 a8 : e + 27 * (2 * dp + hiD d) <= 999
theorem fl1_step {e nd dp k : Int} {d : Nat -> Int} {x : RS} (h : fl1 e nd dp d) (hx : RS.ok ((2 : Int) ^ k.toNat) (d 0) x) (hk : pwOk k dp) : fl1 (e + k) x.nd (dp - ((x.r : Int) - 1)) x.dg /\ (2 * (dp - ((x.r : Int) - 1)) + hiD x.dg).toNat < (2 * dp + hiD d).toNat := by
 obtain ⟨a1, a2, a3, a4, a5, a6, a7, a8⟩ := h; obtain ⟨b1, b2, b3⟩ := hk; obtain ⟨c1, c2, c3, c4, c5, c6, c7, c8, c9, c10⟩ := hx; have h8 := (pow_rng b1 b2).1
 have hh : hiD d = 0 \/ hiD d = 1 := by unfold hiD; split <;> simp
 have hh' : hiD x.dg = 0 \/ hiD x.dg = 1 := by unfold hiD; split <;> simp
 have h0 : 0 <= e + k := by omega
 have key : 2 * (dp - ((x.r : Int) - 1)) + hiD x.dg < 2 * dp + hiD d /\ 0 <= dp - ((x.r : Int) - 1) := by
  rcases Nat.lt_or_ge x.r 2 with hr | hr
  · have hr1 : x.r = 1 := by omega
    have e1 := c9 hr1; have e2 := c10 hr1
    have d1 : hiD d = 1 := by unfold hiD; rw [if_pos zo]
    have d2 : hiD x.dg = 0 := by unfold hiD; rw [if_neg zo]
    omega
  · have e1 := c5 hr
    have e2 : x.r - 2 < dp.toNat := by
     rcases Nat.lt_or_ge (x.r - 2) dp.toNat with h | h
     · exact h
     · have := p10_mono h; omega
    omega
 exact ⟨⟨c1, c2, key.2, zo, c7, c8, h0, zo⟩, zo⟩
structure fl2 (e nd : Int) (d : Nat -> Int) : Prop where
 a1 : 1 <= nd
 a2 : nd <= 800
 a5 : dgOk d nd
 a6 : 49 <= d 0
 a7 : d 0 <= 57
 a8 : 49 <= e + d 0
 a9 : e <= 999
theorem fl2_of {e nd : Int} {d : Nat -> Int} (h : fl1 e nd 0 d) : fl2 e nd d := by
 obtain ⟨a1, a2, a3, a4, a5, a6, a7, a8⟩ := h
 have hh : hiD d = 0 \/ hiD d = 1 := by unfold hiD; split <;> simp
 exact ⟨a1, a2, a5, a6, (a5 0 zo).2, zo, zo⟩
theorem fl2_step {e nd : Int} {d : Nat -> Int} {x : Int × Bool × (Nat -> Int)} (h : fl2 e nd d) (hx : 1 <= x.1 /\ x.1 <= nd /\ dgOk x.2.2 x.1 /\ d 0 < x.2.2 0 /\ x.2.2 0 <= 57) : fl2 (e - 1) x.1 x.2.2 /\ (60 - x.2.2 0).toNat < (60 - d 0).toNat := by
 obtain ⟨a1, a2, a5, a6, a7, a8, a9⟩ := h; obtain ⟨b1, b2, b3, b4, b5⟩ := hx; exact ⟨⟨b1, zo, b3, zo, b5, zo, zo⟩, zo⟩
theorem e11 : IntKind.i64.wrap (1 * 2 ^ min 11 64) = 2048 := by decide
theorem e52 : IntKind.u64.wrap (1 * 2 ^ min 52 64) = 4503599627370496 := by decide
theorem e52b : IntKind.u64.wrap (2 * 2 ^ min 52 64) = 9007199254740992 := by decide
theorem e53 : IntKind.u64.wrap (1 + 52) = 53 := by decide
theorem WC_goto {E : En} {l : Nat} {k : Kt} {S : St} (h : WX E (.goto l) k S) : WC E (.goto l) k S := fun a w r own hs => wp_goto (h a w r own hs)
section
attribute [local irreducible] WO WX WC WD LS WS WQ
theorem c152 (w : World) (F : Nat -> Prop) (hG : Gl w F) (g : Nat) (hgF : ¬ F g) (nd dp : Int) (ng tr : Bool) (dg : Nat -> Int) (hD : (DecA g nd dp ng tr dg).P w (fun k => k = g)) (h0 : 1 <= nd) (h8 : nd <= 800) (hp : 0 <= dp /\ dp <= 18) (hdg : dgOk dg nd) (hd0 : 49 <= dg 0) : Calls Tryz.prog 152 [.pointer (some ⟨g, 0, none⟩), .pointer (some ⟨6, 0, none⟩)].toArray w (RetD (fun x : Int × Int × Int × Bool × (Nat -> Int) => .tu [.sc (.va (.int .u64 x.1)), .sc (.va (.bool false))]) (fun _ => True) (fun x => DecA g x.2.1 x.2.2.1 ng x.2.2.2.1 x.2.2.2.2) g w) := by
 obtain ⟨_, bq, oq, cq, hq1, hq2, hq4⟩ := hG.pt; obtain ⟨_, hi0, hi1, hi2⟩ := hG.inf; have hMq : ¬ (fun k => k = g) bq := fun h => hgF (by rw [<- show bq = g from h]; exact hq1); have hM8 : ¬ (fun k => k = g) (8 : Nat) := fun h => hgF (by rw [<- show 8 = g from h]; exact hG.pt.1); have hM6 : ¬ (fun k => k = g) (6 : Nat) := fun h => hgF (by rw [<- show 6 = g from h]; exact hG.inf.1)
 refine calls_startD 1000 g 270 804 _ [.sc (.va (.pointer (some ⟨g, 0, none⟩))), .sc (.va (.pointer (some ⟨6, 0, none⟩)))] Tryz.func152 rfl ⟨⟨rfl, rfl⟩, ⟨rfl, rfl⟩, trivial⟩ hD fun E hX hP hA hQ => ?_
 repeat' first
  | refine zC ?_ | apply zI <;> intro hdec | with_reducible constructor | (with_reducible refine vqd_dec ?_ ?_ <;> intro hdec <;> first | (exfalso; omega) | rw [decide_eq_true hdec] | rw [decide_eq_false hdec] | skip) | (with_reducible refine vqd_ndec ?_ ?_ <;> intro hdec <;> first | (exfalso; omega) | rw [decide_eq_true hdec] | rw [decide_eq_false hdec] | skip)
  | (with_reducible refine vqd_t 850 ?_ ?_
     · exact zq42)
  | (with_reducible refine vqd_f 850 ?_ ?_
     · exact zq42)
  | (with_reducible show vb _ _ ng _ _ _ _
     cases ng)
  | (with_reducible show vb _ _ (!ng) _ _ _ _
     cases ng)
  | (with_reducible show WC _ (.scope _) _ _
     apply WC_scopeJ 900 0 rfl (fun i : Int × Int × Int × Int × Bool × (Nat -> Int) => ⟨over (List.replicate 243 (.sc .un)) [(0, .sc (.va (.pointer (some ⟨g, 0, none⟩)))), (1, .sc (.va (.pointer (some ⟨6, 0, none⟩)))), (5, .sc (.va (.bool false))), (6, .sc (.va (.int .i64 i.1))), (7, .sc (.va (.int .u64 i.2.1)))], [], 0, 1⟩) (fun i => [(0, DecA g i.2.2.1 i.2.2.2.1 ng i.2.2.2.2.1 i.2.2.2.2.2)]) (fun i => -1100 <= i.1 /\ i.1 <= 1100)
     rotate_left 1
     rintro ⟨ef, mf, ndf, dpf, tf, df⟩ hf E1 h1 h2 h3; rw [hQ] at h3; replace hX := h1.trans hX
     replace hP : E1.X.P = Tryz.prog := by rw [hX]
     replace hA := h2; replace hQ := h3; dsimp only at hf hA; clear h1 h2 h3
     rotate_left 1
     intro E1 h1 h2 h3; rw [hX, hQ] at h3; replace hX := h1.trans hX
     replace hP : E1.X.P = Tryz.prog := by rw [hX]
     replace hA := h2.trans hA; replace hQ := h3; clear h1 h2 h3)
  | apply WX_finJ hX rfl hQ (.inl rfl)
  | refine WC_goto ?_
  | (apply WX_goto hQ
     intro a w r own hs'; rw [hX] at hs'
     refine J_sel hs' ((-1023), m3, x3.1, x3.2.1, x3.2.2.1, x3.2.2.2) ?_ [(2, 0)] ?_ ?_ ?_ ?_ ?_ ?_ ?_ ?_
     rotate_left 1
     exact zq72; exact zq26; exact zq3; exact zq3; rfl; rfl; rfl; exact zq4
     show -1100 <= _ /\ _ <= (1100 : Int)
     omega)
  | (apply WX_goto hQ
     intro a w r own hs'; rw [hX] at hs'
     refine J_sel hs' (e2 - 1, m3, x3.1, x3.2.1, x3.2.2.1, x3.2.2.2) ?_ [(2, 0)] ?_ ?_ ?_ ?_ ?_ ?_ ?_ ?_
     rotate_left 1
     exact zq72; exact zq26; exact zq3; exact zq3; rfl; rfl; rfl; exact zq4
     show -1100 <= _ /\ _ <= (1100 : Int)
     omega)
  | (apply WX_goto hQ
     intro a w r own hs'; rw [hX] at hs'
     refine J_sel hs' ((-1023), m3.fdiv (2 ^ min 1 64), x3.1, x3.2.1, x3.2.2.1, x3.2.2.2) ?_ [(2, 0)] ?_ ?_ ?_ ?_ ?_ ?_ ?_ ?_
     rotate_left 1
     exact zq72; exact zq26; exact zq3; exact zq3; rfl; rfl; rfl; exact zq4
     show -1100 <= _ /\ _ <= (1100 : Int)
     omega)
  | (apply WX_goto hQ
     intro a w r own hs'; rw [hX] at hs'
     refine J_sel hs' (e2 - 1 + 1, m3.fdiv (2 ^ min 1 64), x3.1, x3.2.1, x3.2.2.1, x3.2.2.2) ?_ [(2, 0)] ?_ ?_ ?_ ?_ ?_ ?_ ?_ ?_
     rotate_left 1
     exact zq72; exact zq26; exact zq3; exact zq3; rfl; rfl; rfl; exact zq4
     show -1100 <= _ /\ _ <= (1100 : Int)
     omega)
  | (with_reducible show WC _ (.loop (.seq (.seq (.region 11 _ _) _) _)) _ _
     apply WC_loopG (ι := Int × Int × Int × Bool × (Nat -> Int)) (fun x => fl1 x.1 x.2.1 x.2.2.1 x.2.2.2.2) [35, 36, 37, 38, 39, 8, 40, 41, 42, 43, 44, 45, 46, 47, 48, 49, 50, 51, 52, 53, 54, 55, 56, 57, 58, 59, 60, 6] (fun x => [(6, .sc (.va (.int .i64 x.1)))]) (fun _ => []) (fun x => [(0, DecA g x.2.1 x.2.2.1 ng x.2.2.2.1 x.2.2.2.2)]) (fun x => (2 * x.2.2.1 + hiD x.2.2.2.2).toNat) (0, nd, dp, tr, dg) ⟨h0, h8, hp.1, hp.2, hdg, hd0, Int.le_refl 0, by have hh : hiD dg = 0 \/ hiD dg = 1 := (by unfold hiD; split <;> simp); dsimp only; omega⟩ [(0, 0)] hX
     exact zq10; exact zq5; exact zq11; exact zq5; rfl; rfl; rfl; exact zq4; rintro ⟨e1, nd1, dp1, t1, d1⟩ q E' hX' hA' hQ' J hJ; refine zl ?_; intro hX hP hA hQ; dsimp only at q hA; have q1 := q.a1; have q2 := q.a2; have q3 := q.a3; have q4 := q.a4; have q7 := q.a7; have q8 := q.a8
     have hpw : dp1 < 9 -> 0 < dp1 -> 3 <= pw dp1.toNat /\ pw dp1.toNat <= 27 := fun h1 h2 => ⟨(pwOk_tab h2 h1).a1, (pwOk_tab h2 h1).a2⟩
     have qh : hiD d1 = 0 \/ hiD d1 = 1 := (by unfold hiD; split <;> simp)
     refine vc_ok 900 _ _ _ ?_)
  | (with_reducible show WC _ (.loop (.seq (.seq (.region 18 _ _) _) _)) _ _
     apply WC_loopG (ι := Int × Int × Bool × (Nat -> Int)) (fun x => fl2 x.1 x.2.1 x.2.2.2) [61, 62, 63, 64, 65, 66, 67, 68, 69, 70, 71, 72, 73, 74, 75, 76, 77, 78, 79, 80, 9, 81, 82, 83, 84, 85, 86, 87, 88, 89, 90, 91, 92, 93, 94, 95, 96, 97, 98, 99, 100, 101, 102, 6] (fun x => [(6, .sc (.va (.int .i64 x.1)))]) (fun _ => []) (fun x => [(0, DecA g x.2.1 0 ng x.2.2.1 x.2.2.2)]) (fun x => (60 - x.2.2.2 0).toNat) (e1, nd1, t1, d1) (fl2_of (by rw [show dp1 = 0 by omega] at q; exact q)) [(0, 0)] hX
     exact zq10; exact zq5; exact zq11; exact zq5; rfl; rfl; rfl
     · (rw [hA]; try rw [show dp1 = 0 by omega]; repeat' first | exact True.intro | exact zm | refine List.mem_cons_of_mem _ ?_ | refine ⟨rfl, ?_, ?_⟩)
     rintro ⟨e2, nd2, t2, d2⟩ p E' hX' hA' hQ' J hJ; refine zl ?_; intro hX hP hA hQ; dsimp only at p hA; have p1 := p.a1; have p2 := p.a2; have p6 := p.a6; have p7 := p.a7; have p8 := p.a8; have p9 := p.a9
     refine vc_ok 900 _ _ _ ?_)
  | (refine WO_LS 850 (LS_callD (α := RS) (f := 131) g 270 804 _ _ (fun _ => .tu []) (RS.ok ((2 : Int) ^ ((pw dp1.toNat) : Int).toNat) (d1 0)) (fun x => DecA g x.nd (dp1 - ((x.r : Int) - 1)) ng x.tr x.dg) hP rfl ?_ ?_ ?_ zw0 ?_) ?_
     exact zq1; exact zq33; exact zq0
     · (intro a w r own hSim hDD; rw [hX] at hSim; simp only [go_sem]; have hGs := (hG.of hSim (fun k hk h => hgF (h ▸ hk))); with_reducible exact c131_n _ F hGs g hgF nd1 dp1 ng t1 d1 hDD q1 q2 ⟨zo, zo⟩ q.a5 q.a6 (pw dp1.toNat) (pwOk_tab (dp := dp1) zo zo).a1 (pwOk_tab (dp := dp1) zo zo).a2)
     intro x1 hx1 E2 h1 h2 h3; refine zz ?_; intro hX hP hA hQ)
  | (refine WO_LS 850 (LS_callD (α := RS) (f := 131) g 270 804 _ _ (fun _ => .tu []) (RS.ok ((2 : Int) ^ (27 : Int).toNat) (d1 0)) (fun x => DecA g x.nd (dp1 - ((x.r : Int) - 1)) ng x.tr x.dg) hP rfl ?_ ?_ ?_ zw0 ?_) ?_
     exact zq1; exact zq33; exact zq0
     · (intro a w r own hSim hDD; rw [hX] at hSim; simp only [go_sem]; have hGs := (hG.of hSim (fun k hk h => hgF (h ▸ hk))); with_reducible exact c131_n _ F hGs g hgF nd1 dp1 ng t1 d1 hDD q1 q2 ⟨zo, zo⟩ q.a5 q.a6 27 (pwOk_27 (dp := dp1) zo).a1 (pwOk_27 (dp := dp1) zo).a2)
     intro x1 hx1 E2 h1 h2 h3; refine zz ?_; intro hX hP hA hQ)
  | exact zG11 [(1, 0)] (hJ ((e1 + pw dp1.toNat, x1.nd, dp1 - ((x1.r : Int) - 1), x1.tr, x1.dg)) (fl1_step q hx1 (pwOk_tab zo zo)).1 (fl1_step q hx1 (pwOk_tab zo zo)).2)
  | exact zG11 [(1, 0)] (hJ ((e1 + 27, x1.nd, dp1 - ((x1.r : Int) - 1), x1.tr, x1.dg)) (fl1_step q hx1 (pwOk_27 zo)).1 (fl1_step q hx1 (pwOk_27 zo)).2)
  | (refine WO_LS 850 (LS_callD (α := Int × Bool × (Nat -> Int)) (f := 131) g 270 804 _ _ (fun _ => .tu []) (fun x => 1 <= x.1 /\ x.1 <= nd2 /\ dgOk x.2.2 x.1 /\ d2 0 < x.2.2 0 /\ x.2.2 0 <= 57) (fun x => DecA g x.1 0 ng x.2.1 x.2.2) hP rfl ?_ ?_ ?_ zw0 ?_) ?_
     exact zq1; exact zq33; exact zq0
     · (intro a w r own hSim hDD; rw [hX] at hSim; simp only [go_sem]; have hGs := (hG.of hSim (fun k hk h => hgF (h ▸ hk))); with_reducible exact c131_1 _ F hGs g hgF nd2 0 ng t2 d2 hDD p1 p2 ⟨zi, zi⟩ p.a5 ⟨p6, zo⟩)
     intro x2 hx2 E2 h1 h2 h3; refine zz ?_; intro hX hP hA hQ)
  | exact zG11 [(1, 0)] (hJ ((e2 - 1, x2.1, x2.2.1, x2.2.2)) (fl2_step p hx2).1 (fl2_step p hx2).2)
  | (refine WO_LS 850 (LS_callD (α := Int × Int × Bool × (Nat -> Int)) (f := 131) g 270 804 _ _ (fun _ => .tu []) (fun x => 0 <= x.1 /\ x.1 <= 800 /\ -1000 <= x.2.1 /\ x.2.1 <= 1000) (fun x => DecA g x.1 x.2.1 ng x.2.2.1 x.2.2.2) hP rfl ?_ ?_ ?_ zw0 ?_) ?_
     exact zq1; exact zq33; exact zq0
     · (intro a w r own hSim hDD; rw [hX] at hSim; simp only [go_sem]; have hGs := (hG.of hSim (fun k hk h => hgF (h ▸ hk))); with_reducible exact c131_53 _ F hGs g hgF nd2 0 ng t2 d2 hDD p1 p2 ⟨zi, zi⟩ p.a5 zo)
     intro x3 hx3 E2 h1 h2 h3; refine zz ?_; intro hX hP hA hQ)
  | (refine WO_LS 850 (LS_callD (α := Int) (f := 191) g 270 804 _ _ (fun x : Int => .sc (.va (.int .u64 x))) (fun _ => True) (fun _ => DecA g x3.1 x3.2.1 ng x3.2.2.1 x3.2.2.2) hP rfl ?_ ?_ ?_ zw0 ?_) ?_
     exact zq1; exact zq9; exact zq0
     · (intro a w r own hSim hDD; simp only [go_sem]; exact c191 _ g _ _ _ _ _ hDD hx3.1 hx3.2.1 ⟨hx3.2.2.1, hx3.2.2.2⟩)
     intro m3 _ E2 h1 h2 h3; refine zz ?_; intro hX hP hA hQ)
  | (refine zr16 ?_; intro _ _) | (refine zr17 ?_; intro _ _) | (refine zr18 ?_; intro _ _) | (refine zr19 ?_; intro _ _) | (refine zr14 ?_ ?_; intro _ _) | (refine zr10 ?_; intro _ _ E2 h1 h2 h3; refine zz ?_; intro hX hP hA hQ) | (refine zr11 ?_; intro _ _ E2 h1 h2 h3; refine zz ?_; intro hX hP hA hQ) | (refine zr12 ?_; intro _ _ E2 h1 h2 h3; refine zz ?_; intro hX hP hA hQ) | (refine zr13 ?_; intro _ _ E2 h1 h2 h3; refine zz ?_; intro hX hP hA hQ) | (refine zr9 ?_ ?_; intro _ _ E2 h1 h2 h3; refine zz ?_; intro hX hP hA hQ) | (refine zr15 ?_ ?_ ?_; intro _ _) | (refine WQ_dnd 850 _ _ _ _ _ _ _ hP ?_ rfl rfl ?_ zw0 ?_ sz3 ?_; exact zq42; exact zq19; exact zq6) | (refine WQ_ddp 850 _ _ _ _ _ _ _ hP ?_ rfl rfl ?_ zw0 ?_ sz3 ?_; exact zq42; exact zq19; exact zq6) | (refine WQ_ddg 850 _ _ _ _ _ _ _ hP ?_ rfl rfl ?_ zw0 ?_ ?_ ?_ sz5 ?_; exact zq42; exact zq19; exact zq0; exact zq20) | (refine WQ_aix 850 800 1 hP ?_ rfl rfl ?_ ar268 ?_ ?_ ?_ ?_ ?_; exact zq42; exact zq19; exact zq0; exact zq0)
  | (with_reducible show WC _ (.region _ _ true) _ _
     apply WC_q 900 [] hP
     exact zq1; exact zq42; exact zq1)
  | (refine WQ_rc 850 (⟨8, 0, none⟩) (.slice (some ⟨bq, oq, none⟩) 9 cq) hX ?_ rfl rfl ?_ ?_ ?_ ?_ ?_ ?_
     exact zq42; exact zq19; exact zq0; exact hq2; exact hM8; exact sz331
     skip)
  | (refine WQ_rc 850 (⟨bq, oq + dp1.toNat, none⟩) (.int .i64 (pw dp1.toNat)) hX ?_ rfl rfl ?_ ?_ ?_ ?_ ?_ ?_
     exact zq42; exact zq19; exact zq0; exact (hq4 _ _ (pw_get zo)); exact hMq; exact sz3
     skip)
  | (refine WQ_rc 850 (⟨bq, oq, none⟩) (.int .i64 1) hX ?_ rfl rfl ?_ ?_ ?_ ?_ ?_ ?_
     exact zq42; exact zq19; exact zq0; exact (hq4 0 1 rfl); exact hMq; exact sz3
     skip)
  | (refine WQ_rc 850 (⟨6, 0, none⟩) (.int .u64 52) hX ?_ rfl rfl ?_ ?_ ?_ ?_ ?_ ?_
     exact zq42; exact zq19; exact zq0; exact hi0; exact hM6; exact sz35
     skip)
  | (refine WQ_rc 850 (⟨6, 1, none⟩) (.int .u64 11) hX ?_ rfl rfl ?_ ?_ ?_ ?_ ?_ ?_
     exact zq42; exact zq19; exact zq0; exact hi1; exact hM6; exact sz35
     skip)
  | (refine WQ_rc 850 (⟨6, 2, none⟩) (.int .i64 (-1023)) hX ?_ rfl rfl ?_ ?_ ?_ ?_ ?_ ?_
     exact zq42; exact zq19; exact zq0; exact hi2; exact hM6; exact sz3
     skip)
  | (refine WO_LE 850 (LS_rc (⟨6, 0, none⟩) [.int .u64 52] false hX ?_ ?_ ?_ ?_ (fun _ => rfl)) ?_; exact zq0; exact one_cell hi0; exact hM6; exact sz35; intro _ _) | (refine WO_LE 850 (LS_rc (⟨6, 1, none⟩) [.int .u64 11] false hX ?_ ?_ ?_ ?_ (fun _ => rfl)) ?_; exact zq0; exact one_cell hi1; exact hM6; exact sz35; intro _ _) | (refine WO_LE 850 (LS_rc (⟨6, 2, none⟩) [.int .i64 (-1023)] false hX ?_ ?_ ?_ ?_ (fun _ => rfl)) ?_; exact zq0; exact one_cell hi2; exact hM6; exact sz3; intro _ _)
  | apply WX_fin hX rfl hQ (.inr rfl)
  | simp (maxSteps := 20000000) only [Tryz.f152, go_sem, zL, ↓reduceIte, reduceCtorEq, Nat.reduceAdd, Nat.reduceMul, Nat.reduceSub, Nat.reduceLeDiff, Nat.reduceEqDiff, Nat.reduceLT, Nat.reduceBEq, Int.reduceEq, hP, hX, addr_add, Nat.mul_one, Nat.zero_add, Nat.add_zero, Bool.false_eq_true, Int.reduceAdd, Int.reduceSub, Int.reduceNeg, Int.reduceToNat, Int.zero_sub, Int.neg_zero, e11, e52, e52b, e53, eU53, Option.isSome_some]
 all_goals try first
  | exact zr1 | (with_reducible show (_ : Int) <= _; omega) | (with_reducible show (_ : Int) < _; omega) | exact zr21 | (with_reducible show (_ : Nat) < _; omega) | (with_reducible show (_ : Nat) <= _; omega)
 all_goals try first
  | (exfalso; omega) | (have := hpw zo zo; unfold I64; omega)
  | (intro a w' r' own hs'
     exact retD_fin hs' zw0 (_, ndf, dpf, tf, df) True.intro (fun r => tu2v _ _) (fun h => h))
end
