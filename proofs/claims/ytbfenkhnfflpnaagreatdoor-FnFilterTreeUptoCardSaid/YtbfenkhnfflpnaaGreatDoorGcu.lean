/- Lemmas for FnFilterTree; each condition stands in its statement. -/
import Derived.Test.YtbfenkhnfflpnaaGreatDoorGct
namespace Go.Proofs.YtbfenkhnfflpnaaGreatDoor.Sx
open Go Go.RowKit
set_option maxRecDepth 100000
set_option maxHeartbeats 40000000
set_option linter.all false
section
attribute [local irreducible] leT leH WO WX WC WD LS WS
theorem retU {v : Int} {φ : Int -> Prop} {w : World} {e : Ending} {w' : World} (h : RetS (.sc (.va (.int .i64 v))) w e w') (hv : φ v) : Ret0 (fun x : Int => .sc (.va (.int .i64 x))) φ w e w' := by
 obtain ⟨h1, h2⟩ := h; exact ⟨v, hv, h1, h2⟩
theorem c128u (x : Int) (h1 : -1100 <= x) (h2 : x <= 1000) (w : World) : Calls Tryz.prog 128 [.int .i64 x].toArray w (RI (-332) 302 w) :=
 (c128 x zo zo w).mono fun e w' h => retU h (by unfold log10; omega)
theorem c161u (x : Int) (h1 : -1100 <= x) (h2 : x <= 1000) (w : World) : Calls Tryz.prog 161 [.int .i64 x].toArray w (RI (-332) 302 w) :=
 (c161 x zo zo w).mono fun e w' h => retU h (by unfold skew; omega)
theorem c163u (x : Int) (h1 : -400 <= x) (h2 : x <= 400) (w : World) : Calls Tryz.prog 163 [.int .i64 x].toArray w (RI (-2000) 2000 w) :=
 (c163 x zo zo w).mono fun e w' h => retU h (by unfold log2; omega)
theorem c162u (w : World) (F : Nat -> Prop) (g : Nat) (e p lp : Int) (hG : Gl w F) (hF : ¬ F g) (hg : w.heap[g]? = some (.cells (psC 0 0 0).toArray 308 (0, 0))) (h1 : -348 <= p) (h2 : p <= 347) (h3 : -100000 <= e) (h4 : e <= 100000) (h5 : -100000 <= lp) (h6 : lp <= 100000) :
 Calls Tryz.prog 162 [.pointer (some ⟨g, 0, none⟩), .int .i64 e, .int .i64 p, .int .i64 lp].toArray w (RetN (fun _ : Int × Int × Int => .tu []) (fun _ => True) (fun _ => Asn.emp) g 308 (fun x => psC x.1 x.2.1 x.2.2) (fun _ => False) w) :=
 (c162 w F g e p lp hG hF hg h1 h2 h3 h4 h5 h6).mono fun e w' h => by
   obtain ⟨x, _, h2, h3⟩ := h; exact ⟨(x.1, x.2, _), trivial, h2, h3⟩
theorem c128v (x : Int) (h1 : 0 <= x) (h2 : x <= 64) (w : World) : Calls Tryz.prog 128 [.int .i64 x].toArray w (RI 0 19 w) :=
 (c128 x zo zo w).mono fun e w' h => retU h (by unfold log10; omega)
theorem el274 : elT Tryz.prog 274 = none := zk
attribute [go_sem] el274
theorem ar274 : arT Tryz.prog 274 = some (20, 1) := zk
theorem c90u (w : World) (F : Nat -> Prop) (hG : Gy w F) (d : Int) (hd : U64 d) : Calls Tryz.prog 90 [.int .u64 d].toArray w (RI 0 20 w) := by
 refine calls_start 1000 Tryz.func90 rfl fun E hX hP hA hQ => ?_
 repeat' first
  | refine zA ?_ | apply zI <;> intro hdec | with_reducible constructor
  | (refine zc0 (α := Int) 125 (fun x : Int => .sc (.va (.int .i64 x))) (fun n => 0 <= n /\ n <= 64 /\ lenOk n d) ?_ ?_
     · (intro a w r own hSim; simp only [go_sem]; with_reducible exact c125 _ hd _)
     intro b ⟨hb0, hb1, _⟩)
  | (refine zc0 (α := Int) 128 (fun x : Int => .sc (.va (.int .i64 x))) (fun x => 0 <= x /\ x <= 19) ?_ ?_
     · (intro a w r own hSim; simp only [go_sem]; with_reducible exact c128v _ hb0 hb1 _)
     intro nd ⟨hn0, hn1⟩)
  | (refine zr109 ?_; intro b1 hb1)
  | (refine WO_LE 850 (LS_aix 20 1 hP ar274 ?_ ?_ ?_ ?_) ?_
     exact zq0; exact zq0
     rotate_left 2
     intro _ _)
  | (refine WO_LE 850 (LS_rc (⟨3, nd.toNat, none⟩) [.int .u64 (10 ^ nd.toNat)] false hX ?_ ?_ ?_ ?_ (fun _ => rfl)) ?_; exact zq0; exact one_cell (hG.gl.u10.2 _ zo); exact zq8; exact sz224; intro _ _) | refine zs18 ?_
 all_goals try first
  | omega | (unfold I64; omega) | (intro a w' r own hs'; exact ⟨_, by constructor <;> omega, ⟨_, rfl, fun r => .inr rfl⟩, hs'.frm⟩)
theorem shrI {m s : Int} (hm : U64 m) (hs : 1 <= s) : I64 (m.fdiv (2 ^ min s.toNat 64)) := by
 obtain ⟨k, hk⟩ : ∃ k, min s.toNat 64 = k + 1 := ⟨min s.toNat 64 - 1, zo⟩
 rw [hk, Int.fdiv_eq_ediv_of_nonneg _ (by exact Int.le_of_lt (Int.pow_pos zi)), Int.pow_succ, Int.mul_comm, <- Int.ediv_ediv_of_nonneg zi]
 have h1 : m / 2 <= 9223372036854775807 := by unfold U64 at hm; omega
 have h0 : 0 <= m / 2 := by unfold U64 at hm; omega
 have hp : (0 : Int) < 2 ^ k := Int.pow_pos zi; have h2 : 0 <= m / 2 / 2 ^ k := Int.ediv_nonneg h0 (Int.le_of_lt hp); have h3 : m / 2 / 2 ^ k <= m / 2 := Int.ediv_le_self _ h0
 unfold I64
 omega
theorem andneg (x : Int) : I64 (0 - IntKind.i64.wrap (BitVec.ofInt 64 x &&& BitVec.ofInt 64 1).toNat) := by
 have := and64i x 1 1 zi zi
 unfold I64
 omega
theorem c133 (w : World) (F : Nat -> Prop) (hG : Gl w F) (m e : Int) (hm : U64 m) (h1 : -1137 <= e) (h2 : e <= 960) : Calls Tryz.prog 133 [.int .u64 m, .int .i64 e].toArray w (Ret0 (fun x : Int × Int => .tu [.sc (.va (.int .u64 x.1)), .sc (.va (.int .i64 x.2))]) (fun x => U64 x.1 /\ -400 <= x.2 /\ x.2 <= 400) w) := by
 refine calls_start 1000 Tryz.func133 rfl fun E hX hP hA hQ => ?_
 repeat' first
  | refine zB ?_ | apply zI <;> intro hdec | with_reducible constructor
  | (refine zc0 (α := Int) 128 (fun x : Int => .sc (.va (.int .i64 x))) (fun x => -332 <= x /\ x <= 302) ?_ ?_
     · (intro a w r own hSim; simp only [go_sem]; with_reducible exact c128u _ zo zo _)
     intro lg ⟨hl1, hl2⟩)
  | (refine zc0 (α := Int) 161 (fun x : Int => .sc (.va (.int .i64 x))) (fun x => -332 <= x /\ x <= 302) ?_ ?_
     · (intro a w r own hSim; simp only [go_sem]; with_reducible exact c161u _ zo zo _)
     intro lg ⟨hl1, hl2⟩)
  | (refine zc0 (α := Int) 163 (fun x : Int => .sc (.va (.int .i64 x))) (fun x => -2000 <= x /\ x <= 2000) ?_ ?_
     · (intro a w r own hSim; simp only [go_sem]; with_reducible exact c163u _ zo zo _)
     intro lp ⟨hp1, hp2⟩)
  | (refine WO_LS 850 (LS_callM (α := Int × Int × Int) (f := 162) (cs := [.va (.int .u64 0), .va (.int .u64 0), .va (.int .i64 0)]) 0 308 [] (fun _ => .tu []) (fun _ => True) (fun _ => Asn.emp) (fun x => psC x.1 x.2.1 x.2.2) hP ?_ ?_ ?_ ?_ ?_ ?_ ?_) ?_
     rfl; exact zq1; exact zq33; exact zq0; exact zq15; exact zq14
     · (intro a w r own hSim; rw [hX] at hSim; simp only [go_sem]; have hb := hSim.blk (n := 0) (t := 308) (cs := psC 0 0 0) zm; (with_reducible refine (c162u w F (r 0) _ _ _ (hG.of hSim (fun _ _ h => h)) (hG.fresh hSim (fun _ _ h => h) zm) hb zo zo zo zo zo zo).mono fun e w' hr => ?_); exact RetN.weak hr fun k hk => hk.elim)
     rintro ⟨a1, a2, a3⟩ _ E2 h1 h2 h3; refine zz ?_; intro hX hP hA hQ)
  | (refine zc0 (α := Int) 164 (fun x : Int => .sc (.va (.int .u64 x))) (U64) ?_ ?_
     · (intro a w r own hSim; simp only [go_sem]; rw [hX] at hSim; have hbk := hSim.blk (n := 0) (t := 308) (cs := psC a1 a2 a3) zm; with_reducible exact c164 _ _ _ _ _ _ (by first | assumption | exact wrapU64_rng _) hbk)
     intro u hu)
  | (refine zc0 (α := Int) 165 (fun x : Int => .sc (.va (.int .u64 x))) (U64) ?_ ?_
     · (intro a w r own hSim; simp only [go_sem]; with_reducible exact c165 _ _ (by assumption) _)
     intro v hv)
  | (refine zc0 (α := Int) 166 (fun x : Int => .sc (.va (.int .u64 x))) (U64) ?_ ?_
     · (intro a w r own hSim; simp only [go_sem]; with_reducible exact c166 _ (by assumption) _)
     intro v hv)
  | (refine zc0 (α := Int) 167 (fun x : Int => .sc (.va (.int .u64 x))) (U64) ?_ ?_
     · (intro a w r own hSim; simp only [go_sem]; with_reducible exact c167 _ (by assumption) _)
     intro v hv)
  | (refine zc0 (α := Int) 168 (fun x : Int => .sc (.va (.int .u64 x))) (U64) ?_ ?_
     · (intro a w r own hSim; simp only [go_sem]; with_reducible exact c168 _ (by assumption) _)
     intro v hv)
  | refine zs20 ?_
 all_goals try first
  | omega
  | exact andneg _
  | exact shrI hm zo
  | (unfold I64; omega) | (intro a w' r own hs'; exact ⟨(_, _), ⟨by first | assumption | exact wrapU64_rng _ | (unfold U64 at *; omega), by constructor <;> (dsimp only; omega)⟩, ⟨_, rfl, fun r => tu2v _ _⟩, hs'.frm⟩)
