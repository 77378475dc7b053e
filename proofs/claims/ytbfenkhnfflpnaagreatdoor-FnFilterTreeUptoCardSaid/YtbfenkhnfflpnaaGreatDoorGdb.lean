/- Lemmas for FnFilterTree; each condition stands in its statement. -/
import Derived.Test.YtbfenkhnfflpnaaGreatDoorGcz
namespace Go.Proofs.YtbfenkhnfflpnaaGreatDoor.Sx
open Go Go.RowKit
set_option maxRecDepth 100000
set_option maxHeartbeats 40000000
set_option linter.all false
section
attribute [local irreducible] leT leH WO WX WC WD LS WS WQ
structure RS where
 nd : Int
 r : Nat
 tr : Bool
 dg : Nat -> Int
def RS.ok (P D : Int) (x : RS) : Prop := 1 <= x.nd /\ x.nd <= 800 /\ 1 <= x.r /\ x.r <= 40 /\ (2 <= x.r -> p10 (x.r - 2) < P) /\ (x.r = 1 -> P <= 9) /\ dgOk x.dg x.nd /\ 49 <= x.dg 0 /\ (x.r = 1 -> x.dg 0 <= 55) /\ (x.r = 1 -> P + 48 <= D)
structure rs1 (P D nd : Int) (r : Nat) (n : Int) : Prop where
 a1 : 0 <= n
 a2 : n < 10 * P
 a3 : r = 0 -> n = 0
 a4 : 1 <= r -> p10 (r - 1) <= n
 a5 : 2 <= r -> p10 (r - 2) < P
 a6 : r = 1 -> n <= 9
 a7 : r <= 800
 a8 : r = 1 -> n + 48 = D
theorem p10_le40 {r : Nat} {P : Int} (hP : P <= 134217728) (h : 2 <= r -> p10 (r - 2) < P) : r <= 40 := by
 rcases Nat.lt_or_ge 40 r with hr | hr
 · have h1 := h zo
   have e : r - 2 = (r - 41) + 39 := by omega
   have h2 : ∀ m, p10 (m + 39) >= 10 ^ 39 := by
    intro m
    induction m with
    | zero => decide
    | succ m ih => rw [show m + 1 + 39 = (m + 39) + 1 by omega, p10_succ]; omega
   have h3 := h2 (r - 41); rw [e] at h1
   have : (10 : Int) ^ 39 > 134217728 := by decide
   omega
 · exact hr
theorem rs1_step {P D nd : Int} {r : Nat} {n c : Int} (h : rs1 P D nd r n) (hn : n < P) (hr : (r : Int) < nd) (h8 : nd <= 800) (hP : 8 <= P) (h1 : 48 <= c) (h2 : c <= 57) (h3 : r = 0 -> 49 <= c) (h9 : r = 0 -> c = D) : rs1 P D nd (r + 1) (n * 10 + (c - 48)) := by
 obtain ⟨a1, a2, a3, a4, a5, a6, a7, a8⟩ := h
 refine ⟨zo, zo, fun h => by omega, fun _ => ?_, fun h => ?_, fun h => ?_, zo, fun h => by have e3 := a3 zo; have e9 := h9 zo; omega⟩
 · rcases Nat.eq_zero_or_pos r with rfl | hr0
   · have := a3 rfl; have := h3 rfl; show (1 : Int) <= _; omega
   · have := a4 hr0
     have e : r + 1 - 1 = (r - 1) + 1 := by omega
     rw [e, p10_succ]; omega
 · have := a4 zo
   have e : r + 1 - 2 = r - 1 := by omega
   rw [e]; omega
 · have : r = 0 := by omega
   have := a3 this; omega
theorem rs1_step0 {P D nd : Int} {r : Nat} {n : Int} (h : rs1 P D nd r n) (hn : n < P) (hr : 1 <= r) (hP : 8 <= P) (hP2 : P <= 134217728) : rs1 P D nd (r + 1) (n * 10) := by
 obtain ⟨a1, a2, a3, a4, a5, a6, a7, a8⟩ := h; have h40 := p10_le40 hP2 a5
 refine ⟨zo, zo, fun h => by omega, fun _ => ?_, fun h => ?_, fun h => by omega, zo, fun h => by omega⟩
 · have := a4 hr
   have e : r + 1 - 1 = (r - 1) + 1 := by omega
   rw [e, p10_succ]; omega
 · have := a4 hr
   have e : r + 1 - 2 = r - 1 := by omega
   rw [e]; omega
theorem rs1_0 {P D nd : Int} (hP : 8 <= P) : rs1 P D nd 0 0 := ⟨zi, zo, fun _ => rfl, fun h => absurd h zi, fun h => absurd h zi, fun _ => by decide, zi, fun h => absurd h zi⟩
structure rs2 (P nd : Int) (r0 r w : Nat) (n : Int) (dg : Nat -> Int) : Prop where
 a1 : 0 <= n
 a2 : n < 10 * P
 a3 : w + r0 = r
 a4 : (w : Int) <= nd
 a5 : dgOk dg nd
 a6 : w = 0 -> P <= n /\ (r0 = 1 -> n <= 9)
 a7 : 0 < w -> 49 <= dg 0 /\ (r0 = 1 -> dg 0 <= 55)
structure rs3 (P : Int) (k r0 : Nat) (w : Nat) (n : Int) (j : Nat) (dg : Nat -> Int) : Prop where
 a1 : 0 <= n
 a2 : n < 10 * P
 a3 : w <= 800
 a4 : dgOk dg w
 a5 : w = 0 -> P <= n /\ (r0 = 1 -> n <= 9)
 a6 : 0 < w -> 49 <= dg 0 /\ (r0 = 1 -> dg 0 <= 55)
 a7 : (j <= k /\ (2 : Int) ^ j ∣ n) \/ (n = 0 /\ j = k + 1)
theorem rs2_step {P nd : Int} {r0 r w : Nat} {n v c : Int} {dg : Nat -> Int} (h : rs2 P nd r0 r w n dg) (hP : 8 <= P) (hr0 : 1 <= r0) (hr : (r : Int) < nd) (hv : v = n / P + 48) (h1 : 48 <= c) (h2 : c <= 57) : rs2 P nd r0 (r + 1) (w + 1) (n % P * 10 + (c - 48)) (updD dg w v) := by
 obtain ⟨a1, a2, a3, a4, a5, a6, a7⟩ := h; obtain ⟨d1, d2, d3, d4, d5, d6⟩ := div_rng hP a1 a2; have hm := mod_rng (n := n) hP
 refine ⟨zo, zo, zo, zo, a5.upd _ zo zo, fun h => by omega, fun _ => ?_⟩
 rw [upd0]
 split
 · rename_i hw
   have := a6 hw.symm
   refine ⟨zo, fun h => ?_⟩
   have := this.2 h; omega
 · exact a7 zo
theorem rs3_step {P : Int} {k r0 w j : Nat} {n v : Int} {dg : Nat -> Int} (h : rs3 P k r0 w n j dg) (hPk : (2 : Int) ^ k = P) (hP : 8 <= P) (hn : 0 < n) (hw : w < 800) (hv : v = n / P + 48) : rs3 P k r0 (w + 1) (n % P * 10) (j + 1) (updD dg w v) /\ j <= k := by
 obtain ⟨a1, a2, a3, a4, a5, a6, a7⟩ := h; obtain ⟨d1, d2, d3, d4, d5, d6⟩ := div_rng hP a1 a2; have hm := mod_rng (n := n) hP
 have hj : j <= k /\ (2 : Int) ^ j ∣ n := by rcases a7 with h | h; exact h; omega
 refine ⟨⟨zo, zo, zo, ?_, fun h => by omega, fun _ => ?_, ?_⟩, hj.1⟩
 · have := a4.ext w rfl (v := v) zo zo
   exact this
 · rw [upd0]
   split
   · rename_i hw
     have := a5 hw.symm
     refine ⟨zo, fun h => ?_⟩
     have := this.2 h; omega
   · exact a6 zo
 · rcases Nat.lt_or_ge j k with h | h
   · refine .inl ⟨h, ?_⟩
     obtain ⟨q, hq⟩ := hj.2
     have : n % P = 2 ^ j * (q % 2 ^ (k - j)) := by
      have e : (2 : Int) ^ k = 2 ^ j * 2 ^ (k - j) := by rw [<- Int.pow_add, show j + (k - j) = k by omega]
      rw [<- hPk, e, hq, Int.mul_emod_mul_of_pos _ _ (Int.pow_pos zi)]
     rw [this, Int.pow_succ]; exact ⟨q % 2 ^ (k - j) * 5, by rw [show (10 : Int) = 2 * 5 from rfl]; simp only [Int.mul_assoc, Int.mul_comm, Int.mul_left_comm]⟩
   · have e : j = k := by omega
     subst e
     refine .inr ⟨?_, rfl⟩
     rw [hPk] at hj; rw [Int.emod_eq_zero_of_dvd hj.2]; rfl
theorem rs3_step' {P : Int} {k r0 w j : Nat} {n : Int} {dg : Nat -> Int} (h : rs3 P k r0 w n j dg) (hPk : (2 : Int) ^ k = P) (hP : 8 <= P) (hn : 0 < n) (hw : 800 <= w) : rs3 P k r0 w (n % P * 10) (j + 1) dg /\ j <= k := by
 obtain ⟨a1, a2, a3, a4, a5, a6, a7⟩ := h; have hm := mod_rng (n := n) hP
 have hj : j <= k /\ (2 : Int) ^ j ∣ n := by rcases a7 with h | h; exact h; omega
 refine ⟨⟨zo, zo, zo, a4, fun h => by omega, a6, ?_⟩, hj.1⟩
 rcases Nat.lt_or_ge j k with h | h
 · refine .inl ⟨h, ?_⟩
   obtain ⟨q, hq⟩ := hj.2
   have : n % P = 2 ^ j * (q % 2 ^ (k - j)) := by
    have e : (2 : Int) ^ k = 2 ^ j * 2 ^ (k - j) := by rw [<- Int.pow_add, show j + (k - j) = k by omega]
    rw [<- hPk, e, hq, Int.mul_emod_mul_of_pos _ _ (Int.pow_pos zi)]
   rw [this, Int.pow_succ]; exact ⟨q % 2 ^ (k - j) * 5, by rw [show (10 : Int) = 2 * 5 from rfl]; simp only [Int.mul_assoc, Int.mul_comm, Int.mul_left_comm]⟩
 · have e : j = k := by omega
   subst e
   refine .inr ⟨?_, rfl⟩
   rw [hPk] at hj; rw [Int.emod_eq_zero_of_dvd hj.2]; rfl
theorem rs_fin {P D D0 : Int} {kk r w j : Nat} {n y1 y2 : Int} {dg : Nat -> Int} {tr : Bool} (h : rs3 P kk r w n j dg) (hn : ¬ 0 < n) (hP : 8 <= P) (hr : 1 <= r) (hr40 : r <= 40) (h5 : 2 <= r -> p10 (r - 2) < P) (h6 : r = 1 -> P <= 9) (h7 : r = 1 -> P + 48 <= D0)
 (hy : 0 <= y1 /\ y1 <= (w : Int) /\ (y1 = 0 -> y2 = 0) /\ (0 < y1 -> y2 = D) /\ (0 < (w : Int) -> dg 0 ≠ 48 -> 0 < y1)) : RS.ok P D0 ⟨y1, r, tr, dg⟩ /\ y2 = D := by
 obtain ⟨a1, a2, a3, a4, a5, a6, a7⟩ := h
 have hw : 0 < w := by
  rcases Nat.eq_zero_or_pos w with e | e
  · have := a5 e; omega
  · exact e
 obtain ⟨b1, b2⟩ := a6 hw; have hy1 : 0 < y1 := hy.2.2.2.2 zo zo; exact ⟨⟨zj, zj, hr, hr40, h5, h6, fun i hi => a4 i (by dsimp only at hi; omega), b1, b2, h7⟩, hy.2.2.2.1 hy1⟩
theorem c173 (w : World) (g : Nat) (nd dp : Int) (ng tr : Bool) (dg : Nat -> Int) (hD : (DecA g nd dp ng tr dg).P w (fun k => k = g)) (h0 : 1 <= nd) (h8 : nd <= 800) (hp : -900 <= dp /\ dp <= 900) (hdg : dgOk dg nd) (hd0 : 49 <= dg 0) (k : Int) (h1 : 3 <= k) (h2 : k <= 27) : Calls Tryz.prog 173 [.pointer (some ⟨g, 0, none⟩), .int .u64 k].toArray w (RetD (fun _ : RS => .tu []) (RS.ok ((2 : Int) ^ k.toNat) (dg 0)) (fun x => DecA g x.nd (dp - ((x.r : Int) - 1)) ng x.tr x.dg) g w) := by
 obtain ⟨hP1, hP2, hP3⟩ := pow_rng h1 h2
 have hmin : min k.toNat 64 = k.toNat := by omega
 obtain ⟨P, hPe⟩ : ∃ P : Int, (2 : Int) ^ k.toNat = P := ⟨_, rfl⟩
 rw [hPe] at hP1 hP2 hP3; have hfd : ∀ n : Int, n.fdiv P = n / P := fun n => Int.fdiv_eq_ediv_of_nonneg n zo
 have hmk : IntKind.u64.wrap (IntKind.u64.wrap P - 1) = P - 1 := by simp only [wrapU64_eq]; omega
 have hand : ∀ n : Int, IntKind.u64.wrap ((BitVec.ofInt IntKind.u64.bits n &&& BitVec.ofInt IntKind.u64.bits (P - 1)).toNat : Int) = n % P := fun n => by rw [<- hPe]; exact mask_and k.toNat zo n
 simp only [go_sem] at hand
 refine calls_startD 1000 g 270 804 _ [.sc (.va (.pointer (some ⟨g, 0, none⟩))), .sc (.va (.int .u64 k))] Tryz.func173 rfl ⟨⟨rfl, rfl⟩, ⟨rfl, rfl⟩, trivial⟩ hD fun E hX hP hA hQ => ?_
 repeat' first
  | refine zA ?_ | apply zI <;> intro hdec | with_reducible constructor
  | (with_reducible show WC _ (.loop (.seq (.seq (.region 3 _ _) _) _)) _ _
     apply WC_loopG (ι := Nat × Int) (fun x => rs1 P (dg 0) nd x.1 x.2 /\ x.1 <= nd) [12, 13, 14, 15, 18, 19, 20, 21, 22, 23, 24, 25, 26, 27, 28, 29, 30, 31, 32, 33, 34, 6, 35, 36, 4, 37, 38, 39, 40, 41, 42, 43, 7, 44, 45, 46, 47, 48, 16, 17] (fun x => [(4, .sc (.va (.int .i64 x.1))), (6, .sc (.va (.int .u64 x.2)))]) (fun _ => []) (fun _ => [(0, DecA g nd dp ng tr dg)]) (fun x => 801 - x.1) (0, 0) ⟨rs1_0 hP1, zj⟩ [(0, 0)] hX
     exact zq10; exact zq5; exact zq11; exact zq5; rfl; rfl; rfl; exact zq4; rintro ⟨r, n⟩ ⟨q, hrn⟩ E' hX' hA' hQ' J hJ; refine zl ?_; intro hX hP hA hQ; dsimp only at q hrn hA; have q1 := q.a1; have q2 := q.a2; have q7 := q.a7; have hr40 := p10_le40 hP2 q.a5; have hdv := div_rng hP1 q1 q2
     have hq4 : 1 <= r -> 1 <= n := fun h => by have h4 := q.a4 h; have hp4 := p10_pos (r - 1); omega
     have hd1 := hdv.a1; have hd2 := hdv.a2; have hdr := hdg r
     refine vc_ok 900 _ _ _ ?_)
  | (with_reducible show WC _ (.loop (.seq (.seq (.region 8 _ _) _) _)) _ _
     apply WC_loopG (ι := Nat × Int) (fun x => rs1 P (dg 0) nd x.1 x.2 /\ 1 <= x.1) [29, 30, 31, 32, 33, 34, 6, 35, 36, 4] (fun x => [(4, .sc (.va (.int .i64 x.1))), (6, .sc (.va (.int .u64 x.2)))]) (fun _ => []) (fun _ => [(0, DecA g nd dp ng tr dg)]) (fun x => (10 * P - x.2).toNat) (r, n) ⟨q, zj⟩ [(0, 0)] hX
     exact zq10; exact zq5; exact zq11; exact zq5; rfl; rfl; rfl; exact zq4; rintro ⟨r2, n2⟩ ⟨q, hr2⟩ E' hX' hA' hQ' J hJ; refine zl ?_; intro hX hP hA hQ; dsimp only at q hr2 hA; have q1 := q.a1; have q2 := q.a2; have q7 := q.a7; have hr40 := p10_le40 hP2 q.a5; have hdv := div_rng hP1 q1 q2
     have hq4 : 1 <= n2 := by have h4 := q.a4 hr2; have hp4 := p10_pos (r2 - 1); omega
     refine vc_ok 900 _ _ _ ?_)
  | (with_reducible show WC _ (.loop (.seq (.seq (.region 15 _ _) _) _)) _ _
     apply WC_loopG (ι := Nat × Nat × Int × (Nat -> Int)) (fun x => rs2 P nd r2 x.1 x.2.1 x.2.2.1 x.2.2.2) [61, 62, 63, 64, 65, 66, 69, 70, 71, 72, 73, 74, 75, 9, 76, 77, 78, 10, 79, 80, 81, 6, 82, 83, 84, 85, 86, 87, 88, 89, 90, 91, 5, 92, 93, 94, 95, 96, 67, 68, 4] (fun x => [(4, .sc (.va (.int .i64 x.1))), (5, .sc (.va (.int .i64 x.2.1))), (6, .sc (.va (.int .u64 x.2.2.1)))]) (fun _ => []) (fun x => [(0, DecA g nd (dp - ((r2 : Int) - 1)) ng tr x.2.2.2)]) (fun x => nd.toNat + 1 - x.1) (r2, 0, n2, dg) ⟨q1, q2, zj, zj, hdg, fun _ => ⟨hdv.a5 (by assumption), q.a6⟩, fun h => absurd h (Nat.lt_irrefl 0)⟩ [(1, 0)] hX
     exact zq10; exact zq5; exact zq11; exact zq5; rfl; rfl; rfl; exact zq4; rintro ⟨r3, w3, n3, dg3⟩ q8 E' hX' hA' hQ' J hJ; refine zl ?_; intro hX hP hA hQ; dsimp only at q8 hA; have b1 := q8.a1; have b2 := q8.a2; have b3 := q8.a3; have b4 := q8.a4; have b5 := q8.a5; have hdv3 := div_rng hP1 b1 b2; have hd1 := hdv3.a1; have hd2 := hdv3.a2; have hm3 := mod_rng (n := n3) hP1; have hb5 := b5 r3
     have hr0 : 1 <= r2 := by rcases Nat.eq_zero_or_pos r2 with e | e; (have e2 := q.a3 e; exact absurd (hdv.a5 (by assumption)) zo); exact e
     refine vc_ok 900 _ _ _ ?_)
  | (with_reducible show WC _ (.loop (.seq (.seq (.region 15 _ _) _) _)) _ _
     apply WC_loopG (ι := Nat × Nat × Int × (Nat -> Int)) (fun x => rs2 P nd r x.1 x.2.1 x.2.2.1 x.2.2.2) [61, 62, 63, 64, 65, 66, 69, 70, 71, 72, 73, 74, 75, 9, 76, 77, 78, 10, 79, 80, 81, 6, 82, 83, 84, 85, 86, 87, 88, 89, 90, 91, 5, 92, 93, 94, 95, 96, 67, 68, 4] (fun x => [(4, .sc (.va (.int .i64 x.1))), (5, .sc (.va (.int .i64 x.2.1))), (6, .sc (.va (.int .u64 x.2.2.1)))]) (fun _ => []) (fun x => [(0, DecA g nd (dp - ((r : Int) - 1)) ng tr x.2.2.2)]) (fun x => nd.toNat + 1 - x.1) (r, 0, n, dg) ⟨q1, q2, zj, zj, hdg, fun _ => ⟨hdv.a5 (by assumption), q.a6⟩, fun h => absurd h (Nat.lt_irrefl 0)⟩ [(1, 0)] hX
     exact zq10; exact zq5; exact zq11; exact zq5; rfl; rfl; rfl; exact zq4; rintro ⟨r3, w3, n3, dg3⟩ q8 E' hX' hA' hQ' J hJ; refine zl ?_; intro hX hP hA hQ; dsimp only at q8 hA; have b1 := q8.a1; have b2 := q8.a2; have b3 := q8.a3; have b4 := q8.a4; have b5 := q8.a5; have hdv3 := div_rng hP1 b1 b2; have hd1 := hdv3.a1; have hd2 := hdv3.a2; have hm3 := mod_rng (n := n3) hP1; have hb5 := b5 r3
     have hr0 : 1 <= r := by rcases Nat.eq_zero_or_pos r with e | e; (have e2 := q.a3 e; exact absurd (hdv.a5 (by assumption)) zo); exact e
     refine vc_ok 900 _ _ _ ?_)
  | exact zG11 [(0, 0)] (hJ ((r + 1, n * 10 + (dg r - 48))) ⟨rs1_step q (hdv.a4 (by assumption)) zo h8 hP1 (hdg r zo).1 (hdg r zo).2 (fun h => by subst h; exact hd0) (fun h => by subst h; rfl), zj⟩ zj)
  | exact zG11 [(0, 0)] (hJ ((r2 + 1, n2 * 10)) ⟨rs1_step0 q (hdv.a4 (by assumption)) hr2 hP1 hP2, zj⟩ zj)
  | exact zG11 [(2, 0)] (hJ ((r3 + 1, w3 + 1, n3 % P * 10 + (dg3 r3 - 48), updD dg3 w3 (IntKind.u8.wrap (IntKind.u64.wrap (n3 / P + 48))))) (rs2_step q8 hP1 hr0 zo (by simp only [wrapU8_eq, wrapU64_eq]; omega) (b5 r3 zo).1 (b5 r3 zo).2) zj)
  | (with_reducible show WC _ (.loop (.seq (.seq (.region 23 _ _) _) _)) _ _
     apply WC_loopG (ι := Nat × Int × Nat × (Nat -> Int) × Bool) (fun x => rs3 P k.toNat r2 x.1 x.2.1 x.2.2.1 x.2.2.2.1) [97, 98, 99, 100, 101, 11, 102, 103, 104, 6, 105, 106, 107, 108, 109, 110, 111, 112, 113, 114, 115, 116, 5, 117, 118, 119, 120, 121, 122, 123] (fun x => [(5, .sc (.va (.int .i64 x.1))), (6, .sc (.va (.int .u64 x.2.1)))]) (fun _ => []) (fun x => [(0, DecA g nd (dp - ((r2 : Int) - 1)) ng x.2.2.2.2 x.2.2.2.1)]) (fun x => k.toNat + 2 - x.2.2.1) (w3, n3, 0, dg3, tr) ⟨b1, b2, zj, fun i hi => b5 i zo, q8.a6, q8.a7, .inl ⟨Nat.zero_le _, Int.one_dvd _⟩⟩ [(0, 0)] hX
     exact zq10; exact zq5; exact zq11; exact zq5; rfl; rfl; rfl; exact zq4; rintro ⟨w4, n4, j4, dg4, tr4⟩ p8 E' hX' hA' hQ' J hJ; refine zl ?_; intro hX hP hA hQ; dsimp only at p8 hA; have c1 := p8.a1; have c2 := p8.a2; have c3 := p8.a3; have hdv4 := div_rng hP1 c1 c2; have hd1 := hdv4.a1; have hd2 := hdv4.a2; have hm4 := mod_rng (n := n4) hP1
     refine vc_ok 900 _ _ _ ?_)
  | (with_reducible show WC _ (.loop (.seq (.seq (.region 23 _ _) _) _)) _ _
     apply WC_loopG (ι := Nat × Int × Nat × (Nat -> Int) × Bool) (fun x => rs3 P k.toNat r x.1 x.2.1 x.2.2.1 x.2.2.2.1) [97, 98, 99, 100, 101, 11, 102, 103, 104, 6, 105, 106, 107, 108, 109, 110, 111, 112, 113, 114, 115, 116, 5, 117, 118, 119, 120, 121, 122, 123] (fun x => [(5, .sc (.va (.int .i64 x.1))), (6, .sc (.va (.int .u64 x.2.1)))]) (fun _ => []) (fun x => [(0, DecA g nd (dp - ((r : Int) - 1)) ng x.2.2.2.2 x.2.2.2.1)]) (fun x => k.toNat + 2 - x.2.2.1) (w3, n3, 0, dg3, tr) ⟨b1, b2, zj, fun i hi => b5 i zo, q8.a6, q8.a7, .inl ⟨Nat.zero_le _, Int.one_dvd _⟩⟩ [(0, 0)] hX
     exact zq10; exact zq5; exact zq11; exact zq5; rfl; rfl; rfl; exact zq4; rintro ⟨w4, n4, j4, dg4, tr4⟩ p8 E' hX' hA' hQ' J hJ; refine zl ?_; intro hX hP hA hQ; dsimp only at p8 hA; have c1 := p8.a1; have c2 := p8.a2; have c3 := p8.a3; have hdv4 := div_rng hP1 c1 c2; have hd1 := hdv4.a1; have hd2 := hdv4.a2; have hm4 := mod_rng (n := n4) hP1
     refine vc_ok 900 _ _ _ ?_)
  | exact zG11 [(2, 0)] (hJ ((w4 + 1, n4 % P * 10, j4 + 1, updD dg4 w4 (IntKind.u8.wrap (IntKind.u64.wrap (n4 / P + 48))), tr4)) (rs3_step p8 hPe hP1 (by assumption) zo (v := IntKind.u8.wrap (IntKind.u64.wrap (n4 / P + 48))) (by simp only [wrapU8_eq, wrapU64_eq]; omega)).1 (by have hj4 := (rs3_step p8 hPe hP1 (by assumption) zo (v := IntKind.u8.wrap (IntKind.u64.wrap (n4 / P + 48))) (by simp only [wrapU8_eq, wrapU64_eq]; omega)).2; dsimp only; omega))
  | exact zG11 [(3, 0)] (hJ ((w4 + 1, n4 % P * 10, j4 + 1, updD dg4 w4 (IntKind.u8.wrap (IntKind.u64.wrap (n4 / P + 48))), tr4)) (rs3_step p8 hPe hP1 (by assumption) zo (v := IntKind.u8.wrap (IntKind.u64.wrap (n4 / P + 48))) (by simp only [wrapU8_eq, wrapU64_eq]; omega)).1 (by have hj4 := (rs3_step p8 hPe hP1 (by assumption) zo (v := IntKind.u8.wrap (IntKind.u64.wrap (n4 / P + 48))) (by simp only [wrapU8_eq, wrapU64_eq]; omega)).2; dsimp only; omega))
  | exact zG11 [(1, 0)] (hJ ((w4 + 1, n4 % P * 10, j4 + 1, updD dg4 w4 (IntKind.u8.wrap (IntKind.u64.wrap (n4 / P + 48))), tr4)) (rs3_step p8 hPe hP1 (by assumption) zo (v := IntKind.u8.wrap (IntKind.u64.wrap (n4 / P + 48))) (by simp only [wrapU8_eq, wrapU64_eq]; omega)).1 (by have hj4 := (rs3_step p8 hPe hP1 (by assumption) zo (v := IntKind.u8.wrap (IntKind.u64.wrap (n4 / P + 48))) (by simp only [wrapU8_eq, wrapU64_eq]; omega)).2; dsimp only; omega))
  | exact zG11 [(2, 0)] (hJ ((w4, n4 % P * 10, j4 + 1, dg4, true)) (rs3_step' p8 hPe hP1 (by assumption) zo).1 (by have hj4 := (rs3_step' p8 hPe hP1 (by assumption) zo).2; dsimp only; omega))
  | exact zG11 [(3, 0)] (hJ ((w4, n4 % P * 10, j4 + 1, dg4, true)) (rs3_step' p8 hPe hP1 (by assumption) zo).1 (by have hj4 := (rs3_step' p8 hPe hP1 (by assumption) zo).2; dsimp only; omega))
  | exact zG11 [(1, 0)] (hJ ((w4, n4 % P * 10, j4 + 1, dg4, true)) (rs3_step' p8 hPe hP1 (by assumption) zo).1 (by have hj4 := (rs3_step' p8 hPe hP1 (by assumption) zo).2; dsimp only; omega))
  | exact zG11 [(0, 0)] (hJ ((w4, n4 % P * 10, j4 + 1, dg4, tr4)) (rs3_step' p8 hPe hP1 (by assumption) zo).1 (by have hj4 := (rs3_step' p8 hPe hP1 (by assumption) zo).2; dsimp only; omega))
  | (refine WO_LS 850 (LS_callD (α := Int × Int) (f := 171) g 270 804 _ _ (fun _ => .tu []) (fun x => 0 <= x.1 /\ x.1 <= (w4 : Int) /\ (x.1 = 0 -> x.2 = 0) /\ (0 < x.1 -> x.2 = dp - ((r2 : Int) - 1)) /\ (0 < (w4 : Int) -> dg4 0 ≠ 48 -> 0 < x.1)) (fun x => DecA g x.1 x.2 ng tr4 dg4) hP rfl ?_ ?_ ?_ zw0 ?_) ?_; exact zq1; exact zq33; exact zq0; exact zq95; rintro ⟨y1, y2⟩ hy E2 h1 h2 h3; refine zz ?_; intro hX hP hA hQ) | (refine WO_LS 850 (LS_callD (α := Int × Int) (f := 171) g 270 804 _ _ (fun _ => .tu []) (fun x => 0 <= x.1 /\ x.1 <= (w4 : Int) /\ (x.1 = 0 -> x.2 = 0) /\ (0 < x.1 -> x.2 = dp - ((r : Int) - 1)) /\ (0 < (w4 : Int) -> dg4 0 ≠ 48 -> 0 < x.1)) (fun x => DecA g x.1 x.2 ng tr4 dg4) hP rfl ?_ ?_ ?_ zw0 ?_) ?_; exact zq1; exact zq33; exact zq0; exact zq95; rintro ⟨y1, y2⟩ hy E2 h1 h2 h3; refine zz ?_; intro hX hP hA hQ) | (refine zr16 ?_; intro _ _) | (refine zr17 ?_; intro _ _) | (refine zr18 ?_; intro _ _) | (refine zr19 ?_; intro _ _) | (refine zr14 ?_ ?_; intro _ _) | (refine zr10 ?_; intro _ _ E2 h1 h2 h3; refine zz ?_; intro hX hP hA hQ) | (refine zr11 ?_; intro _ _ E2 h1 h2 h3; refine zz ?_; intro hX hP hA hQ) | (refine zr12 ?_; intro _ _ E2 h1 h2 h3; refine zz ?_; intro hX hP hA hQ) | (refine zr13 ?_; intro _ _ E2 h1 h2 h3; refine zz ?_; intro hX hP hA hQ) | (refine zr9 ?_ ?_; intro _ _ E2 h1 h2 h3; refine zz ?_; intro hX hP hA hQ) | (refine zr15 ?_ ?_ ?_; intro _ _)
  | apply WX_fin hX rfl hQ (.inr rfl)
  | simp (maxSteps := 20000000) only [Tryz.f173, go_sem, zL, ↓reduceIte, reduceCtorEq, Nat.reduceAdd, Nat.reduceMul, Nat.reduceSub, Nat.reduceLeDiff, Nat.reduceEqDiff, Nat.reduceLT, Nat.reduceBEq, Int.reduceEq, hP, hX, addr_add, Nat.mul_one, Nat.zero_add, Nat.add_zero, hmin, hPe, hfd, hmk, hand, Int.one_mul, Int.toNat_natCast]
 all_goals try first
  | exact zr1 | (with_reducible show (_ : Int) <= _; omega) | (with_reducible show (_ : Int) < _; omega) | exact zr21 | (with_reducible show (_ : Nat) < _; omega) | (with_reducible show (_ : Nat) <= _; omega)
 all_goals try first
  | (exfalso; have hq5 := hq4 zo; omega)
  | (intro a w' r' own hs'
     obtain ⟨hok, hdp⟩ := rs_fin (D0 := dg 0) (tr := tr4) p8 (by assumption) hP1 hr2 hr40 q.a5 (fun h => by have h9 := q.a6 h; have h10 := hdv.a5 (by assumption); omega) (fun h => by have h9 := q.a8 h; have h10 := hdv.a5 (by assumption); omega) hy; exact retD_fin hs' zw0 ⟨y1, r2, tr4, dg4⟩ hok (fun r => tu0) (fun h => by have e : y2 = _ := hdp; rw [e] at h; exact h))
  | (intro a w' r' own hs'
     have hr1 : 1 <= r := by rcases Nat.eq_zero_or_pos r with e | e; (have e2 := q.a3 e; exact absurd (hdv.a5 (by assumption)) zo); exact e
     obtain ⟨hok, hdp⟩ := rs_fin (D0 := dg 0) (tr := tr4) p8 (by assumption) hP1 hr1 hr40 q.a5 (fun h => by have h9 := q.a6 h; have h10 := hdv.a5 (by assumption); omega) (fun h => by have h9 := q.a8 h; have h10 := hdv.a5 (by assumption); omega) hy; exact retD_fin hs' zw0 ⟨y1, r, tr4, dg4⟩ hok (fun r => tu0) (fun h => by have e : y2 = _ := hdp; rw [e] at h; exact h))
