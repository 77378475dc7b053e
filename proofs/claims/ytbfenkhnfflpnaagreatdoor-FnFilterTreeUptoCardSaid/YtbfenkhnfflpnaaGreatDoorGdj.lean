/- Lemmas for FnFilterTree; each condition stands in its statement. -/
import Derived.Test.YtbfenkhnfflpnaaGreatDoorGdh
namespace Go.Proofs.YtbfenkhnfflpnaaGreatDoor.Sx
open Go Go.RowKit
set_option maxRecDepth 100000
set_option maxHeartbeats 40000000
set_option linter.all false
section
attribute [local irreducible] leT leH WO WX WC WD LS WS WQ
theorem bt_mk (x : UInt8) (xs : List UInt8) : bt ⟨⟨x :: xs⟩⟩ 0 = x.toNat := (dif_pos (show Int.toNat 0 < (⟨⟨x :: xs⟩⟩ : ByteArray).size from Nat.succ_pos _)).trans rfl
theorem bt_mk1 (x y : UInt8) (xs : List UInt8) : bt ⟨⟨x :: y :: xs⟩⟩ 1 = y.toNat := (dif_pos (show Int.toNat 1 < (⟨⟨x :: y :: xs⟩⟩ : ByteArray).size from Nat.succ_lt_succ (Nat.succ_pos _))).trans rfl
theorem hp1 (s : ByteArray) (b : UInt8) (h0 : 0 < s.size) : Lib.hasPrefix s.data.toList [b] = decide (bt s 0 = b.toNat) := by
 obtain ⟨⟨l⟩⟩ := s
 cases l with
 | nil => exact absurd h0 zi
 | cons x xs =>
   rw [bt_mk]; simp only [Lib.hasPrefix, List.isPrefixOf, Bool.and_true]; rw [Bool.eq_iff_iff, beq_iff_eq, decide_eq_true_eq]; exact ⟨fun h => by rw [h], fun h => (UInt8.toNat.inj (Int.ofNat.inj h)).symm⟩
theorem hp2 (s : ByteArray) (b c : UInt8) (h : 1 < s.size -> bt s 1 ≠ c.toNat) : Lib.hasPrefix s.data.toList [b, c] = false := by
 obtain ⟨⟨l⟩⟩ := s
 match l, h with
 | [], _ => rfl
 | [x], _ => simp [Lib.hasPrefix, List.isPrefixOf]
 | x :: y :: xs, h =>
   have h1 := h (Nat.succ_lt_succ (Nat.succ_pos _)); rw [bt_mk1] at h1
   have h2 : (c == y) = false := by
    rw [beq_eq_false_iff_ne]; intro e; exact h1 (by rw [e])
   simp only [Lib.hasPrefix, List.isPrefixOf, h2, Bool.false_and, Bool.and_false]
theorem tp0 (s : ByteArray) (b : UInt8) (h0 : 0 < s.size) (h : bt s 0 ≠ b.toNat) : Lib.trimPrefix s.data.toList [b] = s.data.toList := by
 rw [Lib.trimPrefix, hp1 s b h0, decide_eq_false h]; rfl
theorem tp1 (s : ByteArray) (b : UInt8) (h0 : 0 < s.size) (h : bt s 0 = b.toNat) : Lib.trimPrefix s.data.toList [b] = (s.extract 1 s.size).data.toList := by
 rw [Lib.trimPrefix, hp1 s b h0, decide_eq_true h]
 simp
 exact (List.take_of_length_le zp).symm
theorem catM (s : ByteArray) (h0 : 0 < s.size) (h : bt s 0 = 45) : (⟨#[45]⟩ : ByteArray) ++ s.extract 1 s.size = s := by
 have h1 : s.extract 0 1 = ⟨#[45]⟩ := (ext1 (s := s) (i := 0) (b := 45) h0).2 h; rw [<- h1, <- ByteArray.extract_eq_extract_append_extract 1 (Nat.zero_le _) h0]; exact ByteArray.extract_zero_size
structure TN (s u : ByteArray) (ng : Bool) : Prop where
 hs : s.size <= 2147483647
 h0 : 0 < s.size
 us : u.size <= 2147483647
 u0 : 0 < u.size
 p95 : Lib.hasPrefix s.data.toList [95] = false
 p45 : Lib.hasPrefix s.data.toList [45] = ng
 t43 : Lib.trimPrefix s.data.toList [43] = s.data.toList
 t45 : Lib.trimPrefix s.data.toList [45] = u.data.toList
 u95 : ∀ i : Nat, i < u.size -> bt u i ≠ 95
 ux : Lib.hasPrefix u.data.toList [48, 120] = false
 uo : Lib.hasPrefix u.data.toList [48, 111] = false
 ub : Lib.hasPrefix u.data.toList [48, 98] = false
 cat : (if ng then ⟨#[45]⟩ ++ u else u) = s
theorem NumS.s95 {s : ByteArray} {j q : Nat} (h : NumS s j q) (i : Nat) (hj : j <= i) (hi : i < s.size) : bt s i < 58 /\ 46 <= bt s i := by
 rcases h.dg i hj hi with h | h <;> omega
theorem TN.of0 {s : ByteArray} {q : Nat} (hs : s.size <= 2147483647) (h : NumS s 0 q) : TN s s false := by
 have e1 := h.h1; have e2 := h.h3; have hb : ∀ i : Nat, i < s.size -> bt s i < 58 /\ 46 <= bt s i := fun i => h.s95 i (Nat.zero_le _); have hb0 := hb 0 zo; rw [show ((0 : Nat) : Int) = 0 from rfl] at hb0; have hd0 := h.dg 0 (Nat.le_refl _) zo; rw [show ((0 : Nat) : Int) = 0 from rfl] at hd0; have hb1 : 1 < s.size -> bt s 1 < 58 := fun h => (hb 1 h).1
 refine ⟨hs, zo, hs, zo, ?_, ?_, tp0 _ _ zo ?_, tp0 _ _ zo ?_, fun i hi => ?_, hp2 _ _ _ fun h => ?_, hp2 _ _ _ fun h => ?_, hp2 _ _ _ fun h => ?_, rfl⟩
 · rw [hp1 _ _ zo]; exact decide_eq_false (by show bt s 0 ≠ 95; omega)
 · rw [hp1 _ _ zo]; exact decide_eq_false (by show bt s 0 ≠ 45; omega)
 · show bt s 0 ≠ 43; omega
 · show bt s 0 ≠ 45; omega
 · have := hb i hi; omega
 all_goals (have := hb1 h; first | (show bt s 1 ≠ 120; omega) | (show bt s 1 ≠ 111; omega) | (show bt s 1 ≠ 98; omega))
theorem TN.of1 {s : ByteArray} {q : Nat} (hs : s.size <= 2147483647) (h45 : bt s 0 = 45) (h : NumS s 1 q) : TN s (s.extract 1 s.size) true := by
 have e1 := h.h1; have e2 := h.h3
 have hsz : (s.extract 1 s.size).size = s.size - 1 := by rw [ext_size]; omega
 have hb : ∀ i : Nat, i < (s.extract 1 s.size).size -> bt (s.extract 1 s.size) i < 58 := fun i hi => by
  rw [bt_ext _ _ _ _ zo (Nat.le_refl _)]; exact (h.s95 (1 + i) zo zo).1
 refine ⟨hs, zo, zo, zo, ?_, ?_, tp0 _ _ zo ?_, tp1 _ _ zo h45, fun i hi => ?_, hp2 _ _ _ fun h => ?_, hp2 _ _ _ fun h => ?_, hp2 _ _ _ fun h => ?_, catM s zo h45⟩
 · rw [hp1 _ _ zo]; exact decide_eq_false (by show bt s 0 ≠ 95; omega)
 · rw [hp1 _ _ zo]; exact decide_eq_true h45
 · show bt s 0 ≠ 43; omega
 · have := hb i hi; omega
 all_goals (have := hb 1 h; rw [show ((1 : Nat) : Int) = 1 from rfl] at this; first | (show bt _ 1 ≠ 120; omega) | (show bt _ 1 ≠ 111; omega) | (show bt _ 1 ≠ 98; omega))
theorem c179b (s p : ByteArray) (b : Bool) (h : Lib.hasPrefix s.data.toList p.data.toList = b) (w : World) : Calls Tryz.prog 179 [.string s, .string p].toArray w (RetS (.sc (.va (.bool b))) w) := h ▸ c179 s p w
theorem hp48 (s : ByteArray) (h : 0 < s.size) : Lib.hasPrefix s.data.toList [48] = decide (bt s 0 = 48) := hp1 s 48 h
theorem c182b (s p r : ByteArray) (h : Lib.trimPrefix s.data.toList p.data.toList = r.data.toList) (w : World) : Calls Tryz.prog 182 [.string s, .string p].toArray w (RetS (.sc (.va (.string r))) w) := by
 have h1 := c182 s p w; rw [h] at h1; exact h1
theorem ret1_none {α : Type} {P : Program} {w0 : World} {rt : List (Nat × Nat)} {S : St} {A : Facts} {a : Act} {w : World} {r : Nat -> Nat} {own : Nat -> Option Ent} (hs : Sim ⟨P, w0, fun _ => False, [], rt⟩ S A a w r own) {res : α -> SV} {φ : α -> Prop} {B : α -> Asn}
 (x : α) (hx : φ x) {u : Value} (hu : ∀ r, (res x).ok r u) (hB : (B x).P w (fun _ => False)) : Ret1 res φ B w0 (.returned u) w :=
 ⟨x, hx, ⟨u, rfl, hu⟩, hs.frm, fun _ => False, fun k hk => hk.elim, hB⟩
abbrev NumA (y : ByteArray) (v : Value) (s : ByteArray) (g : Nat) : Asn := Blk g 239 [.string y, v, .string s]
def ToR : Value ⊕ (Nat × Nat) -> SV
 | .inl e => .tu [.sc (.va (.pointer none)), .sc (.va e)]
 | .inr x => .tu [.sc (.va (.pointer (some ⟨x.1, 0, none⟩))), .sc (.va .nilIface)]
def ToA (s : ByteArray) : Value ⊕ (Nat × Nat) -> Asn
 | .inl _ => .emp
 | .inr x => NumA ⟨#[102, 108, 111, 97, 116]⟩ (.iface 68 (.float .f64 x.2)) s x.1
def ToP : Value ⊕ (Nat × Nat) -> Prop
 | .inl e => ∃ g, e = .iface 216 (.pointer (some ⟨g, 0, none⟩))
 | .inr _ => True
theorem c138in (w : World) (F : Nat -> Prop) (hG : Gl w F) (s u : ByteArray) (hW : TN s u true) (hno : ∀ i : Nat, i < s.size -> bt s i ≠ 46) (hz : bt u 0 = 48 -> u.size <= 1) (v : Int) (hv : Lib.parseIntB 64 s.data.toList = .ok v) : Calls Tryz.prog 138 [.string s].toArray w (Ret1 (fun g : Nat => .tu [.sc (.va (.pointer (some ⟨g, 0, none⟩))), .sc (.va .nilIface)]) (fun _ => True) (NumA ⟨#[100, 101, 99, 105, 109, 97, 108]⟩ (.iface 2 (.int .i64 v)) s) w) := by
 have hsp := hW.h0; have hcat := hW.cat; simp only [↓reduceIte] at hcat
 refine calls_start 1000 Tryz.func138 rfl fun E hX hP hA hQ => ?_
 repeat' first
  | refine zB ?_ | apply zI <;> intro hdec | with_reducible constructor
  | (refine zcS 179 (.sc (.va (.bool false))) ?_ ?_
     · (intro a w r own hSim; simp only [go_sem]; with_reducible exact c179b s ⟨#[95]⟩ false hW.p95 _))
  | (refine zcS 179 (.sc (.va (.bool true))) ?_ ?_
     · (intro a w r own hSim; simp only [go_sem]; with_reducible exact c179b s ⟨#[45]⟩ true hW.p45 _))
  | (refine zcS 179 (.sc (.va (.bool false))) ?_ ?_; exact zq73) | (refine zcS 179 (.sc (.va (.bool false))) ?_ ?_; exact zq74) | (refine zcS 179 (.sc (.va (.bool false))) ?_ ?_; exact zq75) | refine zr60 ?_
  | (refine zcS 182 (.sc (.va (.string s))) ?_ ?_
     · (intro a w r own hSim; simp only [go_sem]; with_reducible exact c182b s ⟨#[43]⟩ s hW.t43 _))
  | (refine zcS 182 (.sc (.va (.string u))) ?_ ?_
     · (intro a w r own hSim; simp only [go_sem]; with_reducible exact c182b s ⟨#[45]⟩ u hW.t45 _))
  | (refine zcS 181 (.sc (.va (.string u))) ?_ ?_; exact zq77)
  | (refine zcS 180 (.sc (.va (.int .i64 0))) ?_ ?_
     · (intro a w r own hSim; simp only [go_sem]; with_reducible exact c180_0 s hW.hs hno _))
  | (refine zcS 183 (.tu [.sc (.va (.int .i64 v)), .sc (.va .nilIface)]) ?_ ?_
     · (intro a w r own hSim; simp only [go_sem]; with_reducible exact c183 s hW.hs v hv _))
  | refine zs31 ?_
 all_goals try first
  | (exfalso; omega) | omega | exact zr61
  | (intro a w' r own hs'
     have h2 := hs'.conc (n := 0) (t := 239) (vals := [.string ⟨#[100, 101, 99, 105, 109, 97, 108]⟩, .iface 2 (.int .i64 v), .string s]) zp; exact ret1_fin1 h2 (r 0) trivial (fun r => tu2v _ _) zm)
theorem c138ip (w : World) (F : Nat -> Prop) (hG : Gl w F) (s u : ByteArray) (hW : TN s u false) (hno : ∀ i : Nat, i < u.size -> bt u i ≠ 46) (hz : bt u 0 = 48 -> u.size <= 1) (v : Nat) (hv : Lib.parseUintB 64 u.data.toList = .ok v) : Calls Tryz.prog 138 [.string s].toArray w (Ret1 (fun g : Nat => .tu [.sc (.va (.pointer (some ⟨g, 0, none⟩))), .sc (.va .nilIface)]) (fun _ => True) (NumA ⟨#[100, 101, 99, 105, 109, 97, 108]⟩ (.iface 224 (.int .u64 v)) u) w) := by
 have hsp := hW.h0; have hcat := hW.cat; simp only [Bool.false_eq_true, ↓reduceIte] at hcat; obtain rfl := hcat
 refine calls_start 1000 Tryz.func138 rfl fun E hX hP hA hQ => ?_
 repeat' first
  | refine zB ?_ | apply zI <;> intro hdec | with_reducible constructor
  | (refine zcS 179 (.sc (.va (.bool false))) ?_ ?_
     · (intro a w r own hSim; simp only [go_sem]; with_reducible exact c179b u ⟨#[95]⟩ false hW.p95 _))
  | (refine zcS 179 (.sc (.va (.bool false))) ?_ ?_
     · (intro a w r own hSim; simp only [go_sem]; with_reducible exact c179b u ⟨#[45]⟩ false hW.p45 _))
  | (refine zcS 179 (.sc (.va (.bool false))) ?_ ?_; exact zq73) | (refine zcS 179 (.sc (.va (.bool false))) ?_ ?_; exact zq74) | (refine zcS 179 (.sc (.va (.bool false))) ?_ ?_; exact zq75) | refine zr60 ?_
  | (refine zcS 182 (.sc (.va (.string u))) ?_ ?_
     · (intro a w r own hSim; simp only [go_sem]; with_reducible exact c182b u ⟨#[43]⟩ u hW.t43 _))
  | (refine zcS 182 (.sc (.va (.string u))) ?_ ?_
     · (intro a w r own hSim; simp only [go_sem]; with_reducible exact c182b u ⟨#[45]⟩ u hW.t45 _))
  | (refine zcS 181 (.sc (.va (.string u))) ?_ ?_; exact zq77)
  | (refine zcS 180 (.sc (.va (.int .i64 0))) ?_ ?_
     · (intro a w r own hSim; simp only [go_sem]; with_reducible exact c180_0 u hW.hs hno _))
  | (refine zcS 184 (.tu [.sc (.va (.int .u64 v)), .sc (.va .nilIface)]) ?_ ?_
     · (intro a w r own hSim; simp only [go_sem]; with_reducible exact c184 u hW.us v hv _))
  | refine zs0 ?_
 all_goals try first
  | (exfalso; omega) | omega | exact zr61
  | (intro a w' r own hs'
     have h2 := hs'.conc (n := 0) (t := 239) (vals := [.string ⟨#[100, 101, 99, 105, 109, 97, 108]⟩, .iface 224 (.int .u64 v), .string u]) zp; exact ret1_fin1 h2 (r 0) trivial (fun r => tu2v _ _) zm)
theorem c138fn (w : World) (F : Nat -> Prop) (hG : Gl w F) (s u : ByteArray) (hW : TN s u true) (hF : FW s) (q : Nat) (hq : q < s.size) (hq1 : bt s q = 46) (hno : ∀ i : Nat, i < s.size -> bt s i = 46 -> i = q) : Calls Tryz.prog 138 [.string s].toArray w (Ret1 ToR ToP (ToA s) w) := by
 have hsp := hW.h0; have hcat := hW.cat; simp only [↓reduceIte] at hcat
 refine calls_start 1000 Tryz.func138 rfl fun E hX hP hA hQ => ?_
 repeat' first
  | refine zB ?_ | apply zI <;> intro hdec | with_reducible constructor
  | (refine zcS 179 (.sc (.va (.bool false))) ?_ ?_
     · (intro a w r own hSim; simp only [go_sem]; with_reducible exact c179b s ⟨#[95]⟩ false hW.p95 _))
  | (refine zcS 179 (.sc (.va (.bool true))) ?_ ?_
     · (intro a w r own hSim; simp only [go_sem]; with_reducible exact c179b s ⟨#[45]⟩ true hW.p45 _))
  | (refine zcS 179 (.sc (.va (.bool false))) ?_ ?_; exact zq73) | (refine zcS 179 (.sc (.va (.bool false))) ?_ ?_; exact zq74) | (refine zcS 179 (.sc (.va (.bool false))) ?_ ?_; exact zq75) | refine zr60 ?_
  | (refine zcS 182 (.sc (.va (.string s))) ?_ ?_
     · (intro a w r own hSim; simp only [go_sem]; with_reducible exact c182b s ⟨#[43]⟩ s hW.t43 _))
  | (refine zcS 182 (.sc (.va (.string u))) ?_ ?_
     · (intro a w r own hSim; simp only [go_sem]; with_reducible exact c182b s ⟨#[45]⟩ u hW.t45 _))
  | (refine zcS 181 (.sc (.va (.string u))) ?_ ?_; exact zq77)
  | (refine zcS 180 (.sc (.va (.int .i64 1))) ?_ ?_
     · (intro a w r own hSim; simp only [go_sem]; with_reducible exact c180_1 s hW.hs q hq hq1 hno _))
  | (apply WO_call0 (α := Nat × Value) (f := 22) 900 (fun x : Nat × Value => .tu [.sc (.va (.float .f64 x.1)), .sc (.va x.2)]) (fun x => errP x.2) hP
     rfl; exact zq1; exact zq35; exact zq0
     · (intro a w r own hSim; simp only [go_sem]; rw [hX] at hSim; have hGs := (hG.of hSim (fun k hk h => h)); with_reducible exact c22 _ F hGs s hW.hs hF)
     rintro ⟨f1, e1⟩ he1; dsimp only at he1
     rcases he1 with rfl | ⟨ge, rfl⟩)
  | refine zs31 ?_
 all_goals try first
  | (exfalso; omega) | omega | exact zr61
  | (intro a w' r own hs'
     exact ret1_none (B := ToA s) hs' (.inl (.iface 216 (.pointer (some ⟨ge, 0, none⟩)))) ⟨ge, rfl⟩ (fun r => tu2v _ _) (fun _ h => h))
  | (intro a w' r own hs'
     have h2 := hs'.conc (n := 0) (t := 239) (vals := [.string ⟨#[102, 108, 111, 97, 116]⟩, .iface 68 (.float .f64 f1), .string s]) zp; exact ret1_fin1 h2 (.inr (r 0, f1)) trivial (fun r => tu2v _ _) zm)
theorem c138fp (w : World) (F : Nat -> Prop) (hG : Gl w F) (s u : ByteArray) (hW : TN s u false) (hF : FW u) (q : Nat) (hq : q < u.size) (hq1 : bt u q = 46) (hno : ∀ i : Nat, i < u.size -> bt u i = 46 -> i = q) : Calls Tryz.prog 138 [.string s].toArray w (Ret1 ToR ToP (ToA u) w) := by
 have hsp := hW.h0; have hcat := hW.cat; simp only [Bool.false_eq_true, ↓reduceIte] at hcat; obtain rfl := hcat
 refine calls_start 1000 Tryz.func138 rfl fun E hX hP hA hQ => ?_
 repeat' first
  | refine zB ?_ | apply zI <;> intro hdec | with_reducible constructor
  | (refine zcS 179 (.sc (.va (.bool false))) ?_ ?_
     · (intro a w r own hSim; simp only [go_sem]; with_reducible exact c179b u ⟨#[95]⟩ false hW.p95 _))
  | (refine zcS 179 (.sc (.va (.bool false))) ?_ ?_
     · (intro a w r own hSim; simp only [go_sem]; with_reducible exact c179b u ⟨#[45]⟩ false hW.p45 _))
  | (refine zcS 179 (.sc (.va (.bool false))) ?_ ?_; exact zq73) | (refine zcS 179 (.sc (.va (.bool false))) ?_ ?_; exact zq74) | (refine zcS 179 (.sc (.va (.bool false))) ?_ ?_; exact zq75) | refine zr60 ?_
  | (refine zcS 182 (.sc (.va (.string u))) ?_ ?_
     · (intro a w r own hSim; simp only [go_sem]; with_reducible exact c182b u ⟨#[43]⟩ u hW.t43 _))
  | (refine zcS 182 (.sc (.va (.string u))) ?_ ?_
     · (intro a w r own hSim; simp only [go_sem]; with_reducible exact c182b u ⟨#[45]⟩ u hW.t45 _))
  | (refine zcS 181 (.sc (.va (.string u))) ?_ ?_; exact zq77)
  | (refine zcS 180 (.sc (.va (.int .i64 1))) ?_ ?_
     · (intro a w r own hSim; simp only [go_sem]; with_reducible exact c180_1 u hW.hs q hq hq1 hno _))
  | (apply WO_call0 (α := Nat × Value) (f := 22) 900 (fun x : Nat × Value => .tu [.sc (.va (.float .f64 x.1)), .sc (.va x.2)]) (fun x => errP x.2) hP
     rfl; exact zq1; exact zq35; exact zq0
     · (intro a w r own hSim; simp only [go_sem]; rw [hX] at hSim; have hGs := (hG.of hSim (fun k hk h => h)); with_reducible exact c22 _ F hGs u hW.hs hF)
     rintro ⟨f1, e1⟩ he1; dsimp only at he1
     rcases he1 with rfl | ⟨ge, rfl⟩)
  | refine zs0 ?_
 all_goals try first
  | (exfalso; omega) | omega | exact zr61
  | (intro a w' r own hs'
     exact ret1_none (B := ToA u) hs' (.inl (.iface 216 (.pointer (some ⟨ge, 0, none⟩)))) ⟨ge, rfl⟩ (fun r => tu2v _ _) (fun _ h => h))
  | (intro a w' r own hs'
     have h2 := hs'.conc (n := 0) (t := 239) (vals := [.string ⟨#[102, 108, 111, 97, 116]⟩, .iface 68 (.float .f64 f1), .string u]) zp; exact ret1_fin1 h2 (.inr (r 0, f1)) trivial (fun r => tu2v _ _) zm)
theorem c96n (w : World) (F : Nat -> Prop) (hG : Gl w F) (s : ByteArray) (u : ByteArray) (hW : TN s u true) (hno : ∀ i : Nat, i < s.size -> bt s i ≠ 46) (hz : bt u 0 = 48 -> u.size <= 1) (v : Int) (hv : Lib.parseIntB 64 s.data.toList = .ok v) : Calls Tryz.prog 96 [.string s].toArray w (Ret1 (fun g : Nat => .sc (.va (.pointer (some ⟨g, 0, none⟩)))) (fun _ => True) (NumA ⟨#[100, 101, 99, 105, 109, 97, 108]⟩ (.iface 2 (.int .i64 v)) s) w) := by
 refine calls_start 1000 Tryz.func96 rfl fun E hX hP hA hQ => ?_
 repeat' first
  | refine zA ?_ | apply zI <;> intro hdec | with_reducible constructor
  | (refine WO_LS 850 (LS_call1 (α := Nat) (f := 138) (fun g : Nat => .tu [.sc (.va (.pointer (some ⟨g, 0, none⟩))), .sc (.va .nilIface)]) (fun _ => True) (NumA ⟨#[100, 101, 99, 105, 109, 97, 108]⟩ (.iface 2 (.int .i64 v)) s) hP ?_ ?_ ?_ ?_ ?_) ?_
     rfl; exact zq1; exact zq35; exact zq0
     · (intro a w r own hSim; rw [hX] at hSim; simp only [go_sem]; have hGs := (hG.of hSim (fun k hk h => h)); with_reducible exact c138in _ F hGs s u hW hno hz v hv)
     rintro g1 _ E2 h1 h2 h3; refine zz ?_; intro hX hP hA hQ)
  | refine zs0 ?_
 all_goals try first
  | (intro a w' r own hs'; exact ret1_fin1 hs' g1 trivial (fun r => .inr rfl) zw0)
theorem c96p (w : World) (F : Nat -> Prop) (hG : Gl w F) (s : ByteArray) (hW : TN s s false) (hno : ∀ i : Nat, i < s.size -> bt s i ≠ 46) (hz : bt s 0 = 48 -> s.size <= 1) (v : Nat) (hv : Lib.parseUintB 64 s.data.toList = .ok v) : Calls Tryz.prog 96 [.string s].toArray w (Ret1 (fun g : Nat => .sc (.va (.pointer (some ⟨g, 0, none⟩)))) (fun _ => True) (NumA ⟨#[100, 101, 99, 105, 109, 97, 108]⟩ (.iface 224 (.int .u64 v)) s) w) := by
 refine calls_start 1000 Tryz.func96 rfl fun E hX hP hA hQ => ?_
 repeat' first
  | refine zA ?_ | apply zI <;> intro hdec | with_reducible constructor
  | (refine WO_LS 850 (LS_call1 (α := Nat) (f := 138) (fun g : Nat => .tu [.sc (.va (.pointer (some ⟨g, 0, none⟩))), .sc (.va .nilIface)]) (fun _ => True) (NumA ⟨#[100, 101, 99, 105, 109, 97, 108]⟩ (.iface 224 (.int .u64 v)) s) hP ?_ ?_ ?_ ?_ ?_) ?_
     rfl; exact zq1; exact zq35; exact zq0
     · (intro a w r own hSim; rw [hX] at hSim; simp only [go_sem]; have hGs := (hG.of hSim (fun k hk h => h)); with_reducible exact c138ip _ F hGs s s hW hno hz v hv)
     rintro g1 _ E2 h1 h2 h3; refine zz ?_; intro hX hP hA hQ)
  | refine zs0 ?_
 all_goals try first
  | (intro a w' r own hs'; exact ret1_fin1 hs' g1 trivial (fun r => .inr rfl) zw0)
def TfR : Value ⊕ (Nat × Nat) -> SV
 | .inl _ => .sc (.va (.pointer none))
 | .inr x => .sc (.va (.pointer (some ⟨x.1, 0, none⟩)))
theorem toR_lt (x : Value ⊕ (Nat × Nat)) : (ToR x).lt 0 := by
 cases x <;> exact tu2lt _ _
theorem c138f (w : World) (F : Nat -> Prop) (hG : Gl w F) (s u : ByteArray) (ng : Bool) (hW : TN s u ng) (hF : FW s) (q : Nat) (hq : q < s.size) (hq1 : bt s q = 46) (hno : ∀ i : Nat, i < s.size -> bt s i = 46 -> i = q) :
 Calls Tryz.prog 138 [.string s].toArray w (Ret1 ToR ToP (ToA s) w) := by
 cases ng with
 | true => exact c138fn w F hG s u hW hF q hq hq1 hno
 | false =>
   have h := hW.cat; obtain rfl : u = s := h; exact c138fp w F hG u u hW hF q hq hq1 hno
theorem c96f (w : World) (F : Nat -> Prop) (hG : Gl w F) (s : ByteArray) (u : ByteArray) (ng : Bool) (hW : TN s u ng) (hF : FW s) (q : Nat) (hq : q < s.size) (hq1 : bt s q = 46) (hno : ∀ i : Nat, i < s.size -> bt s i = 46 -> i = q) : Calls Tryz.prog 96 [.string s].toArray w (Ret1 TfR (fun _ => True) (ToA s) w) := by
 refine calls_start 1000 Tryz.func96 rfl fun E hX hP hA hQ => ?_
 repeat' first
  | refine zA ?_ | apply zI <;> intro hdec | with_reducible constructor
  | (refine WO_LS 850 (LS_call1 (α := Value ⊕ (Nat × Nat)) (f := 138) (ToR) (ToP) (ToA s) hP ?_ ?_ ?_ ?_ ?_) ?_
     rfl; exact zq1; exact fun _ => toR_lt _; exact zq0
     · (intro a w r own hSim; rw [hX] at hSim; simp only [go_sem]; have hGs := (hG.of hSim (fun k hk h => h)); with_reducible exact c138f _ F hGs s u ng hW hF q hq hq1 hno)
     rintro x1 he1 E2 h1 h2 h3; refine zz ?_; intro hX hP hA hQ
     rcases x1 with e1 | ⟨g1, f1⟩
     obtain ⟨ge, rfl⟩ := he1
     all_goals simp only [ToR]
     rotate_left 1
     rotate_left 1
     skip)
  | refine zs0 ?_
 all_goals try first
  | (intro a w' r own hs'; exact ret1_none (B := ToA s) (res := TfR) hs' (.inl .nilIface) trivial (fun r => show (SV.sc (.va (.pointer none))).ok r _ from .inr rfl) (fun _ h => h)) | (intro a w' r own hs'; exact ret1_fin1 (B := ToA s) hs' (.inr (g1, f1)) trivial (fun r => .inr rfl) zw0)
theorem dec_snoc (a : Nat) (c : UInt8) (ha : 1 <= a) (h1 : 48 <= c.toNat) (h2 : c.toNat <= 57) : Lib.decDigits (a * 10 + (c.toNat - 48)) = Lib.decDigits a ++ [c] := by
 rw [Lib.decDigits, dif_neg zo]
 have e1 : (a * 10 + (c.toNat - 48)) / 10 = a := by omega
 have e2 : 48 + (a * 10 + (c.toNat - 48)) % 10 = c.toNat := by omega
 rw [e1, e2, UInt8.ofNat_toNat]
theorem pum : ∀ (l : List UInt8) (acc k : Nat), (∀ c ∈ l, 48 <= c.toNat /\ c.toNat <= 57) -> 1 <= acc -> acc < 10 ^ k -> k + l.length <= 18 -> ∃ n, Lib.parseUintM (2 ^ 64 - 1) acc l = .ok n /\ Lib.decDigits n = Lib.decDigits acc ++ l /\ n < 10 ^ 18
 | [], acc, k, _, h1, h2, h3 => ⟨acc, rfl, zp, Nat.lt_of_lt_of_le h2 (Nat.pow_le_pow_right zi (by simpa using h3))⟩
 | c :: r, acc, k, hd, h1, h2, h3 => by
   obtain ⟨d1, d2⟩ := hd c zm; rw [List.length_cons] at h3; have hk : (10 : Nat) ^ k <= 10 ^ 17 := Nat.pow_le_pow_right zi zo; have e1 : (10 : Nat) ^ 17 = 100000000000000000 := rfl; have e2 : (2 : Nat) ^ 64 - 1 = 18446744073709551615 := rfl; have e3 : (10 : Nat) ^ (k + 1) = 10 ^ k * 10 := Nat.pow_succ ..; obtain ⟨n, f1, f2, f3⟩ := pum r (acc * 10 + (c.toNat - 48)) (k + 1) (fun x hx => hd x (List.mem_cons_of_mem _ hx)) zo zo zo
   refine ⟨n, ?_, ?_, f3⟩
   · rw [Lib.parseUintM, if_pos ⟨d1, d2⟩, if_neg zo, if_neg zo]
     exact f1
   · rw [f2, dec_snoc acc c h1 d1 d2, List.append_assoc]; rfl
theorem pub (l : List UInt8) (hd : ∀ c ∈ l, 48 <= c.toNat /\ c.toNat <= 57) (h0 : 1 <= l.length) (h18 : l.length <= 18) (hz : l.head? = some 48 -> l.length = 1) : ∃ n, Lib.parseUintB 64 l = .ok n /\ Lib.decDigits n = l /\ n < 10 ^ 18 := by
 match l, h0 with
 | c :: r, _ =>
   obtain ⟨d1, d2⟩ := hd c zm; have e2 : (2 : Nat) ^ 64 - 1 = 18446744073709551615 := rfl
   have hone : Lib.decDigits (c.toNat - 48) = [c] := by
    rw [Lib.decDigits_one zo]
    have : 48 + (c.toNat - 48) = c.toNat := by omega
    rw [this, UInt8.ofNat_toNat]
   have hst : Lib.parseUintB 64 (c :: r) = Lib.parseUintM (2 ^ 64 - 1) (c.toNat - 48) r := by
    rw [Lib.parseUintB, if_neg zp, Lib.parseUintM, if_pos ⟨d1, d2⟩, if_neg zo, if_neg zo]; rw [Nat.zero_mul, Nat.zero_add]
   rw [hst]
   by_cases hr : r = []
   · subst hr
     exact ⟨_, rfl, hone, by have : (10 : Nat) ^ 18 = 1000000000000000000 := rfl; omega⟩
   · have hc : c ≠ 48 := fun e => hr (by
      have := hz (by rw [e]; rfl); exact List.eq_nil_of_length_eq_zero (by simpa using this))
     have hc2 : c.toNat ≠ 48 := fun e => hc (UInt8.toNat.inj e)
     have h18' : r.length + 1 <= 18 := by simpa using h18
     obtain ⟨n, f1, f2, f3⟩ := pum r (c.toNat - 48) 1 (fun x hx => hd x (List.mem_cons_of_mem _ hx)) zo zo zo; exact ⟨n, f1, by rw [f2, hone]; rfl, f3⟩
def IntV (v : Value) (z : ByteArray) : Prop := (∃ n : Int, v = .iface 2 (.int .i64 n) /\ I64 n /\ z = ⟨(Lib.itoa n).toArray⟩) \/ (∃ n : Nat, v = .iface 224 (.int .u64 n) /\ n < 1000000000000000000 /\ z = ⟨(Lib.decDigits n).toArray⟩)
theorem bt_list (s : ByteArray) (i : Nat) (c : UInt8) (h : s.data.toList[i]? = some c) : i < s.size /\ bt s i = c.toNat := by
 obtain ⟨h1, h2⟩ := List.getElem?_eq_some_iff.1 h
 have h3 : i < s.size := by simpa using h1
 refine ⟨h3, ?_⟩
 have e1 : ((i : Nat) : Int).toNat = i := Int.toNat_natCast i; simp only [bt, e1, dif_pos h3]; rw [<- h2]; rfl
theorem ba_ext {s : ByteArray} {l : List UInt8} (h : s.data.toList = l) : s = ⟨l.toArray⟩ := by
 rw [<- h]
theorem NumS.pub {s u : ByteArray} {j : Nat} (h : NumS s j s.size) (hu : u = s.extract j s.size) (hj : j <= s.size) : ∃ n, Lib.parseUintB 64 u.data.toList = .ok n /\ Lib.decDigits n = u.data.toList /\ n < 10 ^ 18 := by
 have e1 := h.h1; have e2 := h.h2
 have hsz : u.size = s.size - j := by rw [hu, ext_size]; omega
 have hb : ∀ i : Nat, i < u.size -> bt u i = bt s (j + i : Nat) := fun i hi => by rw [hu, bt_ext _ _ _ _ zo (Nat.le_refl _)]
 refine Sx.pub _ (fun c hc => ?_) (by simp only [Array.length_toList]; show 1 <= u.size; omega) (by simp only [Array.length_toList]; show u.size <= 18; omega) fun hz => ?_
 · obtain ⟨i, hi⟩ := List.mem_iff_getElem?.1 hc
   obtain ⟨h1, h2⟩ := bt_list u i c hi; rw [hb i h1] at h2
   rcases h.dg (j + i) zo zo with hd | hd
   omega; omega
 · have h0 : u.data.toList[0]? = some 48 := by rw [<- List.head?_eq_getElem?]; exact hz
   obtain ⟨h1, h2⟩ := bt_list u 0 48 h0; rw [hb 0 h1] at h2; have := h.h5 h2; simp only [Array.length_toList]
   show u.size = 1
   omega
theorem catL {s u : ByteArray} (hc : (⟨#[45]⟩ : ByteArray) ++ u = s) : s.data.toList = 45 :: u.data.toList := by rw [<- hc]; simp
theorem pib {s u : ByteArray} (hc : (⟨#[45]⟩ : ByteArray) ++ u = s) {n : Nat} (h : Lib.parseUintB 64 u.data.toList = .ok n) (hn : n < 10 ^ 18) : Lib.parseIntB 64 s.data.toList = .ok (-(n : Int)) := by
 have hl : s.data.toList = 45 :: u.data.toList := by rw [<- hc]; simp
 have e1 : (10 : Nat) ^ 18 = 1000000000000000000 := rfl; have e2 : (2 : Nat) ^ (64 - 1) = 9223372036854775808 := rfl; rw [hl, Lib.parseIntB]; simp only [show (45 : UInt8).toNat = 45 from rfl, or_true, ↓reduceIte, h]; rw [if_neg zo, if_neg zo]
theorem signedF_p {s : ByteArray} (h43 : bt s 0 ≠ 43) (h45 : bt s 0 ≠ 45) : signedF s = s := by
 unfold signedF
 rw [if_neg]; rintro (h | h); exact h43 h; exact h45 (by rw [h]; decide)
theorem c96i (s : ByteArray) (hs : s.size <= 2147483647) (hR : numR s 3) (h43 : bt s 0 ≠ 43) : ∃ v, IntV v (signedF s) /\ ∀ (w : World) (F : Nat -> Prop), Gl w F -> Calls Tryz.prog 96 [.string s].toArray w (Ret1 (fun g : Nat => .sc (.va (.pointer (some ⟨g, 0, none⟩)))) (fun _ => True) (NumA ⟨#[100, 101, 99, 105, 109, 97, 108]⟩ v s) w) := by
 rcases hR with h | ⟨t, hT, p, hp⟩
 · omega
 have hpe : p = t.size := by
  rcases hp with ⟨_, _, _, _, _, ⟨_, h⟩ | ⟨h, _⟩⟩
  exact h; omega
 rcases hT with rfl | ⟨h0, h45 | h, rfl⟩
 · have hN := numS_of (j := 0) (.inl ⟨rfl, rfl⟩) hp
   rw [Nat.add_zero, hpe] at hN; have e1 := hN.h1; have hd := hN.dg 0 (Nat.le_refl _) zo; rw [show ((0 : Nat) : Int) = 0 from rfl] at hd; obtain ⟨n, f1, f2, f3⟩ := hN.pub (u := t) (by rw [ByteArray.extract_zero_size]) (Nat.zero_le _); have e10 : (10 : Nat) ^ 18 = 1000000000000000000 := rfl
   refine ⟨.iface 224 (.int .u64 n), .inr ⟨n, rfl, zo, ?_⟩, fun w F hG => c96p w F hG t (TN.of0 hs hN) (fun i hi => ?_) (fun h => ?_) n f1⟩
   · rw [signedF_p h43 zo]
     exact ba_ext f2.symm
   · rcases hN.dg i (Nat.zero_le _) hi with h | h
     omega; omega
   · have := hN.h5 h; omega
 · have hN := numS_of (j := 1) (.inr ⟨rfl, h0, rfl⟩) hp
   have hsz : (s.extract 1 s.size).size = s.size - 1 := by rw [ext_size]; omega
   rw [hpe, hsz, show s.size - 1 + 1 = s.size by omega] at hN; have e1 := hN.h1; obtain ⟨n, f1, f2, f3⟩ := hN.pub (u := s.extract 1 s.size) rfl zo; have e10 : (10 : Nat) ^ 18 = 1000000000000000000 := rfl; have hc := catM s h0 h45
   refine ⟨.iface 2 (.int .i64 (-(n : Int))), .inl ⟨-(n : Int), rfl, ⟨zo, zo⟩, ?_⟩, fun w F hG => c96n w F hG s _ (TN.of1 hs h45 hN) (fun i hi => ?_) (fun h => ?_) _ (pib hc f1 f3)⟩
   · have hl := catL hc
     by_cases hn : n = 0
     · subst hn
       have f4 : (s.extract 1 s.size).data.toList = [48] := by rw [<- f2]; exact Lib.decDigits_one zi
       have hs0 : s = ⟨#[45, 48]⟩ := by
        rw [f4] at hl; exact ba_ext hl
       rw [signedF, if_pos (.inr hs0)]; rw [show Lib.itoa (-((0 : Nat) : Int)) = Lib.decDigits 0 from rfl, f2]
     · rw [Lib.itoa_neg n zo, f2, <- hl, signedF, if_neg]
       rintro (h | h); omega
       · have : s.extract 1 s.size = ⟨#[48]⟩ := by rw [h]; rfl
         rw [this] at f2; have f5 : Lib.decDigits n = [48] := f2
         by_cases h10 : n < 10
         · rw [Lib.decDigits_one h10] at f5
           have h6 : UInt8.ofNat (48 + n) = 48 := by simpa using f5
           have h7 := congrArg UInt8.toNat h6; rw [UInt8.toNat_ofNat', show (48 : UInt8).toNat = 48 from rfl] at h7; omega
         · have h6 := congrArg List.length f5
           rw [Lib.decDigits_length, Lib.nDigits_big h10, List.length_singleton] at h6
           have : 1 <= Lib.nDigits (n / 10) := by rw [Lib.nDigits]; split <;> omega
           omega
   · rcases Nat.eq_zero_or_pos i with rfl | hi0
     · rw [show ((0 : Nat) : Int) = 0 from rfl]; omega
     · rcases hN.dg i zo hi with h | h
       omega; omega
   · have hb : bt (s.extract 1 s.size) 0 = bt s (1 + 0 : Nat) := bt_ext _ _ _ 0 zo (Nat.le_refl _)
     rw [hb] at h; have := hN.h5 h; omega
 · exact absurd h h43
theorem c96x (s : ByteArray) (hs : s.size <= 2147483647) (hR : numR s 4) (h43 : bt s 0 ≠ 43) (w : World) (F : Nat -> Prop) (hG : Gl w F) : Calls Tryz.prog 96 [.string s].toArray w (Ret1 TfR (fun _ => True) (ToA s) w) := by
 have hF := FW_num zi hR h43
 rcases hR with h | ⟨t, hT, p, hp⟩
 · omega
 have hpe : p < t.size /\ bt t p = 46 := by
  rcases hp with ⟨_, _, _, _, _, ⟨h, _⟩ | ⟨_, h1, h2, _⟩⟩
  omega; exact ⟨h1, h2⟩
 rcases hT with rfl | ⟨h0, h45 | h, rfl⟩
 · have hN := numS_of (j := 0) (.inl ⟨rfl, rfl⟩) hp
   exact c96f w F hG t t false (TN.of0 hs hN) hF p hpe.1 hpe.2 fun i hi h => by
    rcases hN.dg i (Nat.zero_le _) hi with h | h
    omega; omega
 · have hN := numS_of (j := 1) (.inr ⟨rfl, h0, rfl⟩) hp
   have hsz : (s.extract 1 s.size).size = s.size - 1 := by rw [ext_size]; omega
   have hb : bt (s.extract 1 s.size) p = bt s (1 + p : Nat) := bt_ext _ _ _ p zo (Nat.le_refl _)
   refine c96f w F hG s _ true (TN.of1 hs h45 hN) hF (1 + p) zo (by rw [<- hb]; exact hpe.2) fun i hi h => ?_
   rcases Nat.eq_zero_or_pos i with rfl | hi0
   · rw [show ((0 : Nat) : Int) = 0 from rfl] at h; omega
   · rcases hN.dg i zo hi with h | h
     omega; omega
 · exact absurd h h43
abbrev ptr (g : Nat) : Value := .pointer (some ⟨g, 0, none⟩)
def kpT (k : Int) : Nat :=
 if k = 2 then 118 else if k = 3 then 133 else if k = 4 then 122 else if k = 5 then 125 else if k = 6 then 136 else if k = 7 then 139 else if k = 8 then 128 else if k = 10 then 141 else
 if k = 17 then 168 else if k = 16 then 165 else if k = 19 then 147 else if k = 13 then 157 else if k = 14 then 93 else 153
def ksT (k : Int) : Nat :=
 if k = 2 then 121 else if k = 3 then 135 else if k = 4 then 124 else if k = 5 then 127 else if k = 6 then 138 else if k = 7 then 140 else if k = 8 then 130 else if k = 10 then 143 else
 if k = 17 then 169 else if k = 16 then 167 else if k = 19 then 149 else if k = 13 then 164 else if k = 14 then 99 else 156
abbrev baseC : List Value := [.string ⟨#[]⟩, .pointer none, .int .i64 0]
abbrev tokC (ty : Int) (t : ByteArray) (p : Nat) : List Value := [.int .i64 ty, .int .i64 0, .int .i64 0, .string t, .string t, .string ⟨#[]⟩, ptr p, .pointer none, .pointer none]
abbrev posC (c : Int) : List Value := [.int .i64 1, .int .i64 c, .int .i64 c, .int .i64 0, .int .i64 0]
abbrev Hp (w : World) (g t : Nat) (cs : List Value) : Prop := w.heap[g]? = some (.cells cs.toArray t (0, 0))
def SlC (w : World) (F : Nat -> Prop) (e : Nat) (v : Value) (xs : List Value) : Prop := w.ownsRow 0 e 1 v xs.length xs /\ ∀ k, v.ownBlock = some k -> F k
theorem ownsRow_ext {w w' : World} {b e size n : Nat} {v : Value} {xs : List Value} (h : w.ownsRow b e size v n xs) (hw : ∀ k, v.ownBlock = some k -> w'.heap[k]? = w.heap[k]?) : w'.ownsRow b e size v n xs := by
 obtain ⟨h1, h2⟩ := h
 refine ⟨h1, ?_⟩
 rcases h2 with h2 | ⟨g, cap, cur, rfl, hb, hg, rest⟩
 exact .inl h2; exact .inr ⟨g, cap, cur, rfl, hb, by rw [hw g rfl]; exact hg, rest⟩
theorem SlC.ext {w w' : World} {F F' : Nat -> Prop} {e : Nat} {v : Value} {xs : List Value} (h : SlC w F e v xs) (hF : ∀ k, F k -> F' k) (hw : ∀ k, F k -> w'.heap[k]? = w.heap[k]?) : SlC w' F' e v xs :=
 ⟨ownsRow_ext h.1 fun k hk => hw k (h.2 k hk), fun k hk => hF k (h.2 k hk)⟩
inductive Shp (w : World) (F : Nat -> Prop) (b tk : Nat) (v : ByteArray) (fl : Bool) : Int -> List Value -> List Value -> Prop
 | null : Shp w F b tk v fl 2 [] [ptr b, ptr tk]
 | bool (x : Bool) : v = ⟨(Lib.formatBool x).toArray⟩ -> Shp w F b tk v fl 3 [] [ptr b, ptr tk, .bool x]
 | int (x : Value) : IntV x v -> Shp w F b tk v fl 4 [] [ptr b, ptr tk, x]
 | float (x : Nat) : Shp w F b tk v fl 5 [] [ptr b, ptr tk, .int .i64 0, .float .f64 x]
 | inf (x : Nat) : (v = ⟨#[43, 73, 110, 102]⟩ /\ x = 9218868437227405312) \/ (v = ⟨#[45, 73, 110, 102]⟩ /\ x = 18442240474082181120) -> Shp w F b tk v fl 6 [] [ptr b, ptr tk, .float .f64 x]
 | nan : v = ⟨#[78, 97, 78]⟩ -> Shp w F b tk v fl 7 [] [ptr b, ptr tk]
 | str : Shp w F b tk v fl 8 [] [ptr b, ptr tk, .string v]
 | lit (g : Nat) : Shp w F b tk v fl 10 [.iface 128 (ptr g)] [ptr b, ptr tk, ptr g]
 | alias (x : Value) : Shp w F b tk v fl 17 [x] [ptr b, ptr tk, x]
 | anchor (x y : Value) : Shp w F b tk v fl 16 [x, y] [ptr b, ptr tk, x, y]
 | tag (x : Value) : Shp w F b tk v fl 19 [x] [ptr b, .pointer none, ptr tk, x]
 | pair (x y : Value) : Shp w F b tk v fl 13 [x, y] [ptr b, ptr tk, .pointer none, x, y, .pointer none, .bool fl]
 | seq (vs : List Value) (s1 s2 : Value) : SlC w F 54 s1 vs -> SlC w F 88 s2 (List.replicate vs.length (.pointer none)) -> Shp w F b tk v fl 14 vs [ptr b, ptr tk, .pointer none, .bool fl, s1, s2, .slice none 0 0, .pointer none]
 | map (ps : List Nat) (s1 : Value) : SlC w F 157 s1 (ps.map ptr) -> Shp w F b tk v fl 11 (ps.map fun p => .iface 157 (ptr p)) [ptr b, ptr tk, .pointer none, .bool fl, s1, .pointer none]
theorem Shp.ext {w w' : World} {F F' : Nat -> Prop} {b tk : Nat} {v : ByteArray} {fl : Bool} {k : Int} {vs cs : List Value} (h : Shp w F b tk v fl k vs cs) (hF : ∀ k, F k -> F' k) (hw : ∀ k, F k -> w'.heap[k]? = w.heap[k]?) : Shp w' F' b tk v fl k vs cs := by
 cases h with
 | null => exact .null
 | bool x h => exact .bool x h
 | int x h => exact .int x h
 | float x => exact .float x
 | inf x h => exact .inf x h
 | nan h => exact .nan h
 | str => exact .str
 | lit g => exact .lit g
 | alias x => exact .alias x
 | anchor x y => exact .anchor x y
 | tag x => exact .tag x
 | pair x y => exact .pair x y
 | seq _ s1 s2 h1 h2 => exact .seq _ s1 s2 (h1.ext hF hw) (h2.ext hF hw)
 | map ps s1 h1 => exact .map ps s1 (h1.ext hF hw)
mutual
def AT (w : World) (F : Nat -> Prop) : N -> Value -> Prop
 | .mk k ty v t fl c kids, x => ∃ g b tk p vs cs, x = .iface (kpT k) (ptr g) /\ F g /\ F b /\ F tk /\ F p /\ Hp w b 230 baseC /\ Hp w tk 87 (tokC ty t p) /\ Hp w p 172 (posC c) /\ Hp w g (ksT k) cs /\ Shp w F b tk v fl k vs cs /\ ATs w F kids vs
def ATs (w : World) (F : Nat -> Prop) : List N -> List Value -> Prop
 | [], vs => vs = []
 | n :: l, vs => ∃ x us, vs = x :: us /\ AT w F n x /\ ATs w F l us
end
mutual
theorem AT.ext {w w' : World} {F F' : Nat -> Prop} (hF : ∀ k, F k -> F' k) (hw : ∀ k, F k -> w'.heap[k]? = w.heap[k]?) : ∀ {n : N} {x : Value}, AT w F n x -> AT w' F' n x
 | .mk k ty v t fl c kids, x, h => by
   rw [AT] at h ⊢; obtain ⟨g, b, tk, p, vs, cs, h1, h2, h3, h4, h5, h6, h7, h8, h9, h10, h11⟩ := h; exact ⟨g, b, tk, p, vs, cs, h1, hF _ h2, hF _ h3, hF _ h4, hF _ h5, by rw [Hp, hw _ h3]; exact h6, by rw [Hp, hw _ h4]; exact h7, by rw [Hp, hw _ h5]; exact h8, by rw [Hp, hw _ h2]; exact h9, h10.ext hF hw, ATs.ext hF hw h11⟩
theorem ATs.ext {w w' : World} {F F' : Nat -> Prop} (hF : ∀ k, F k -> F' k) (hw : ∀ k, F k -> w'.heap[k]? = w.heap[k]?) : ∀ {l : List N} {vs : List Value}, ATs w F l vs -> ATs w' F' l vs
 | [], vs, h => h
 | n :: l, vs, h => by
   rw [ATs] at h ⊢; obtain ⟨x, us, h1, h2, h3⟩ := h; exact ⟨x, us, h1, AT.ext hF hw h2, ATs.ext hF hw h3⟩
end
def AT0 (w : World) (F : Nat -> Prop) (tk : Nat) (n : N) (x : Value) : Prop :=
 ∃ g b vs cs, x = .iface (kpT n.k) (ptr g) /\ F g /\ F b /\ Hp w b 230 baseC /\ Hp w g (ksT n.k) cs /\ Shp w F b tk n.v n.fl n.k vs cs /\ ATs w F n.kids vs
theorem AT0.ext {w w' : World} {F F' : Nat -> Prop} {tk : Nat} {n : N} {x : Value} (hF : ∀ k, F k -> F' k) (hw : ∀ k, F k -> w'.heap[k]? = w.heap[k]?) (h : AT0 w F tk n x) : AT0 w' F' tk n x := by
 obtain ⟨g, b, vs, cs, h1, h2, h3, h4, h5, h6, h7⟩ := h; exact ⟨g, b, vs, cs, h1, hF _ h2, hF _ h3, by rw [Hp, hw _ h3]; exact h4, by rw [Hp, hw _ h2]; exact h5, h6.ext hF hw, h7.ext hF hw⟩
theorem AT0.at {w : World} {F : Nat -> Prop} {tk p : Nat} {n : N} {x : Value} (h : AT0 w F tk n x) (h1 : F tk) (h2 : F p) (h3 : Hp w tk 87 (tokC n.ty n.t p)) (h4 : Hp w p 172 (posC n.c)) : AT w F n x := by
 obtain ⟨g, b, vs, cs, e1, e2, e3, e4, e5, e6, e7⟩ := h
 cases n with
 | mk k ty v t fl c kids =>
   rw [AT]; exact ⟨g, b, tk, p, vs, cs, e1, e2, e3, h1, h2, e4, h3, h4, e5, e6, e7⟩
def AstA (n : N) (x : Value) : Asn := ⟨fun w F => AT w F n x, fun hw h => AT.ext (fun _ h => h) hw h⟩
def AstsA (l : List N) (vs : List Value) : Asn := ⟨fun w F => ATs w F l vs, fun hw h => ATs.ext (fun _ h => h) hw h⟩
def Ast0A (tk : Nat) (n : N) (x : Value) : Asn := ⟨fun w F => AT0 w F tk n x, fun hw h => AT0.ext (fun _ h => h) hw h⟩
theorem ATs.snoc {w : World} {F : Nat -> Prop} : ∀ {l : List N} {vs : List Value} {n : N} {x : Value}, ATs w F l vs -> AT w F n x -> ATs w F (l ++ [n]) (vs ++ [x])
 | [], vs, n, x, h, h2 => by
   rw [ATs] at h; subst h; rw [List.nil_append, List.nil_append, ATs]; exact ⟨x, [], rfl, h2, rfl⟩
 | m :: l, vs, n, x, h, h2 => by
   rw [ATs] at h; obtain ⟨y, us, rfl, h3, h4⟩ := h; rw [List.cons_append, List.cons_append, ATs]; exact ⟨y, us ++ [x], rfl, h3, h4.snoc h2⟩
theorem ATs.len {w : World} {F : Nat -> Prop} : ∀ {l : List N} {vs : List Value}, ATs w F l vs -> vs.length = l.length
 | [], vs, h => by rw [ATs] at h; subst h; rfl
 | n :: l, vs, h => by
   rw [ATs] at h; obtain ⟨x, us, rfl, _, h⟩ := h; rw [List.length_cons, List.length_cons, h.len]
theorem ATs.get {w : World} {F : Nat -> Prop} : ∀ {l : List N} {vs : List Value} {i : Nat} {n : N} {x : Value}, ATs w F l vs -> l[i]? = some n -> vs[i]? = some x -> AT w F n x
 | [], vs, i, n, x, h, h1, h2 => by simp at h1
 | m :: l, vs, 0, n, x, h, h1, h2 => by
   rw [ATs] at h; obtain ⟨y, us, rfl, h3, _⟩ := h; simp only [List.getElem?_cons_zero, Option.some.injEq] at h1 h2; subst h1 h2; exact h3
 | m :: l, vs, i + 1, n, x, h, h1, h2 => by
   rw [ATs] at h; obtain ⟨y, us, rfl, _, h3⟩ := h; simp only [List.getElem?_cons_succ] at h1 h2; exact h3.get h1 h2
inductive D where
 | mk (x : Value) (kids : List D)
def D.x : D -> Value | .mk x _ => x
def D.kids : D -> List D | .mk _ l => l
mutual
def ATd (w : World) (F : Nat -> Prop) : N -> D -> Prop
 | .mk k ty v t fl c kids, .mk x ds => ∃ g b tk p cs, x = .iface (kpT k) (ptr g) /\ F g /\ F b /\ F tk /\ F p /\ Hp w b 230 baseC /\ Hp w tk 87 (tokC ty t p) /\ Hp w p 172 (posC c) /\ Hp w g (ksT k) cs /\ Shp w F b tk v fl k (ds.map D.x) cs /\ ATds w F kids ds
def ATds (w : World) (F : Nat -> Prop) : List N -> List D -> Prop
 | [], ds => ds = []
 | n :: l, ds => ∃ d es, ds = d :: es /\ ATd w F n d /\ ATds w F l es
end
mutual
theorem ATd.ext {w w' : World} {F F' : Nat -> Prop} (hF : ∀ k, F k -> F' k) (hw : ∀ k, F k -> w'.heap[k]? = w.heap[k]?) : ∀ {n : N} {d : D}, ATd w F n d -> ATd w' F' n d
 | .mk k ty v t fl c kids, .mk x ds, h => by
   rw [ATd] at h ⊢; obtain ⟨g, b, tk, p, cs, h1, h2, h3, h4, h5, h6, h7, h8, h9, h10, h11⟩ := h; exact ⟨g, b, tk, p, cs, h1, hF _ h2, hF _ h3, hF _ h4, hF _ h5, by rw [Hp, hw _ h3]; exact h6, by rw [Hp, hw _ h4]; exact h7, by rw [Hp, hw _ h5]; exact h8, by rw [Hp, hw _ h2]; exact h9, h10.ext hF hw, ATds.ext hF hw h11⟩
theorem ATds.ext {w w' : World} {F F' : Nat -> Prop} (hF : ∀ k, F k -> F' k) (hw : ∀ k, F k -> w'.heap[k]? = w.heap[k]?) : ∀ {l : List N} {ds : List D}, ATds w F l ds -> ATds w' F' l ds
 | [], ds, h => by rw [ATds] at h ⊢; exact h
 | n :: l, ds, h => by
   rw [ATds] at h ⊢; obtain ⟨d, es, h1, h2, h3⟩ := h; exact ⟨d, es, h1, ATd.ext hF hw h2, ATds.ext hF hw h3⟩
end
mutual
theorem AT.toD {w : World} {F : Nat -> Prop} : ∀ {n : N} {x : Value}, AT w F n x -> ∃ d : D, d.x = x /\ ATd w F n d
 | .mk k ty v t fl c kids, x, h => by
   rw [AT] at h; obtain ⟨g, b, tk, p, vs, cs, h1, h2, h3, h4, h5, h6, h7, h8, h9, h10, h11⟩ := h; obtain ⟨ds, rfl, h12⟩ := ATs.toD h11
   refine ⟨.mk x ds, rfl, ?_⟩
   rw [ATd]; exact ⟨g, b, tk, p, cs, h1, h2, h3, h4, h5, h6, h7, h8, h9, h10, h12⟩
theorem ATs.toD {w : World} {F : Nat -> Prop} : ∀ {l : List N} {vs : List Value}, ATs w F l vs -> ∃ ds : List D, ds.map D.x = vs /\ ATds w F l ds
 | [], vs, h => by
   rw [ATs] at h; subst h; exact ⟨[], rfl, by rw [ATds]⟩
 | n :: l, vs, h => by
   rw [ATs] at h; obtain ⟨x, us, rfl, h2, h3⟩ := h; obtain ⟨d, rfl, h4⟩ := AT.toD h2; obtain ⟨ds, rfl, h5⟩ := ATs.toD h3
   refine ⟨d :: ds, rfl, ?_⟩
   rw [ATds]; exact ⟨d, ds, rfl, h4, h5⟩
end
def AtdA (n : N) (d : D) : Asn := ⟨fun w F => ATd w F n d, fun hw h => ATd.ext (fun _ h => h) hw h⟩
theorem ATds.len {w : World} {F : Nat -> Prop} : ∀ {l : List N} {ds : List D}, ATds w F l ds -> ds.length = l.length
 | [], ds, h => by rw [ATds] at h; subst h; rfl
 | n :: l, ds, h => by
   rw [ATds] at h; obtain ⟨x, us, rfl, _, h⟩ := h; rw [List.length_cons, List.length_cons, h.len]
theorem ATds.get {w : World} {F : Nat -> Prop} : ∀ {l : List N} {ds : List D} {i : Nat} {n : N} {d : D}, ATds w F l ds -> l[i]? = some n -> ds[i]? = some d -> ATd w F n d
 | [], ds, i, n, x, h, h1, h2 => by simp at h1
 | m :: l, ds, 0, n, x, h, h1, h2 => by
   rw [ATds] at h; obtain ⟨y, us, rfl, h3, _⟩ := h; simp only [List.getElem?_cons_zero, Option.some.injEq] at h1 h2; subst h1 h2; exact h3
 | m :: l, ds, i + 1, n, x, h, h1, h2 => by
   rw [ATds] at h; obtain ⟨y, us, rfl, _, h3⟩ := h; simp only [List.getElem?_cons_succ] at h1 h2; exact h3.get h1 h2
mutual
def prs : N -> D -> List (N × D)
 | .mk k ty v t fl c kids, .mk x ds => (.mk k ty v t fl c kids, .mk x ds) :: prsl kids ds
def prsl : List N -> List D -> List (N × D)
 | n :: l, d :: es => prs n d ++ prsl l es
 | _, _ => []
end
def N.al : N -> N | .mk k ty v t fl c _ => .mk k ty v t fl c []
mutual
theorem prs_at {w : World} {F : Nat -> Prop} : ∀ {n : N} {d : D}, ATd w F n d -> (∀ p ∈ prs n d, ATd w F p.1 p.2) /\ (prs n d).map (fun p => p.1.al) = n.vis
 | .mk k ty v t fl c kids, .mk x ds, h => by
   have h0 := h; rw [ATd] at h; obtain ⟨g, b, tk, p, cs, h1, h2, h3, h4, h5, h6, h7, h8, h9, h10, h11⟩ := h; obtain ⟨e1, e2⟩ := prsl_at h11
   constructor
   · intro p hp
     rw [prs] at hp
     rcases List.mem_cons.1 hp with rfl | hp
     exact h0; exact e1 p hp
   · rw [prs, N.vis, List.map_cons, e2]
     rfl
theorem prsl_at {w : World} {F : Nat -> Prop} : ∀ {l : List N} {ds : List D}, ATds w F l ds -> (∀ p ∈ prsl l ds, ATd w F p.1 p.2) /\ (prsl l ds).map (fun p => p.1.al) = N.visl l
 | [], ds, h => by
   rw [ATds] at h; subst h; exact ⟨fun p hp => (by simp [prsl] at hp), by simp [prsl, N.visl]⟩
 | n :: l, ds, h => by
   rw [ATds] at h; obtain ⟨d, es, rfl, h2, h3⟩ := h; obtain ⟨e1, e2⟩ := prs_at h2; obtain ⟨e3, e4⟩ := prsl_at h3
   constructor
   · intro p hp
     rw [prsl] at hp
     rcases List.mem_append.1 hp with hp | hp
     exact e1 p hp; exact e3 p hp
   · rw [prsl, N.visl, List.map_append, e2, e4]
end
def hit (K : Int) (ps : List (N × D)) : List Value := (ps.filter fun p => p.1.k == K).map fun p => p.2.x
theorem hit_append (K : Int) (a b : List (N × D)) : hit K (a ++ b) = hit K a ++ hit K b := by simp [hit]
theorem hit_nil (K : Int) : hit K [] = [] := rfl
theorem hit_len (K : Int) (ps : List (N × D)) : (hit K ps).length <= ps.length := by
 rw [hit, List.length_map]; exact List.length_filter_le _ _
theorem prs_len {w : World} {F : Nat -> Prop} {n : N} {d : D} (h : ATd w F n d) : (prs n d).length = n.cnt := by
 rw [<- vis_len, <- (prs_at h).2, List.length_map]
theorem prsl_len {w : World} {F : Nat -> Prop} {n : List N} {d : List D} (h : ATds w F n d) : (prsl n d).length = N.cntl n := by
 rw [<- visl_len, <- (prsl_at h).2, List.length_map]
end
section
attribute [local irreducible] leT leH WO WX WC WD
section
variable {E : En} {S : St} {α : Type} {dst : Option Tmp} {o : Oper}
theorem LS_enterM {f : FuncId} (n t : Nat) (J : List Nat) (res : α -> SV) (φ : α -> Prop) (B : α -> Asn) (cs' : α -> List Value) {cs : List Cl} (hl : ∀ x, (res x).lt 0)
 (hm : (n, t, cs) ∈ S.h) (hu : ∀ t' cs', (n, t', cs') ∈ S.h -> t' = t)
 (hent : ∀ a w r own, Sim E.X S E.A a w r own -> ∃ args, (execOp a.eval o).run E.X.P w = .ok (.enter f args) w /\ Calls E.X.P f args w (RetN res φ B (r n) t cs' (fun k => ∃ j ∈ J, own k = some (.fa j)) w)) :
 LS E S o [n] φ (fun x => S.putN n (cs' x) o.dst (res x)) (fun x => (S.m, B x) :: outF J E.A) := by
 intro a w r own hs K Q hK; obtain ⟨args, he, hcall⟩ := hent a w r own hs
 unfold Oper.wp
 rw [he]
 refine Calls.mono hcall fun e w' hr => ?_
 obtain ⟨x, hx, ⟨u, he, huu⟩, hfr, hb, h1, F, hF, hB⟩ := hr; subst he; have h2 := hs.tradeM J hm hu hfr hb h1 hB hF; have hh : (S.putN n (cs' x) o.dst (res x)).h = setN S.h n ((cs' x).map .va) /\ (S.putN n (cs' x) o.dst (res x)).n = S.n := put_h ..
 refine hK x hx _ _ _ _ (h2.put o.dst (huu r) (SV.lt_mono (Nat.zero_le _) (hl x))) ⟨fun _ _ => rfl, fun m t' cs0 hm' hn => hfr.block _ (hs.bnd _ _ (hs.heap m t' cs0 hm').2.2.1).1 ?_, hfr.size, by rw [hh.2]; exact Nat.le_refl _, fun x' hx' => ?_, fun x' hx' => ?_⟩
 · have ho := (hs.heap m t' cs0 hm').2.2.1
   rintro (hk | ⟨j, _, hj⟩)
   · have ho' := (hs.heap n t cs hm).2.2.1
     rw [<- hk, ho] at ho'; simp only [Option.some.injEq, Ent.nm.injEq] at ho'; exact hn (by simp [ho'])
   · rw [ho] at hj; cases hj
 · rw [hh.1] at hx'
   obtain ⟨y, hy, rfl⟩ := List.mem_map.1 hx'; exact .inl ⟨y, hy, rfl⟩
 · rw [hh.1]
   exact ⟨_, List.mem_map.2 ⟨x', hx', rfl⟩, rfl⟩
end
section
variable {E : En} {S : St} {dst : Option Tmp} {o : Oper}
theorem LS_rowstore {P : Program} {t : TypeId} {x v : Operand} {g q e size n cap : Nat} {b : Bool} (j : Nat) (xs : List Value) (u : Value) (hP : E.X.P = P) (ho : o.op = .store t x v) (hx : ev S x = .sc (.va (.pointer (some ⟨g, q, none⟩))))
 (hj : (j, Row e size (.slice (some ⟨g, 0, none⟩) n cap) n xs) ∈ E.A) (hv : cellsOf (ev S v) = some [.va u]) (hsz : szT P t = some (1, b)) (hq : q < n * size) :
 LS E S o [] (fun _ : Unit => True) (fun _ => S.putM o.dst undefSV) (fun _ => (S.m, Row e size (.slice (some ⟨g, 0, none⟩) n cap) n (xs.set q u)) :: outF [j] E.A) := by
 intro a w r own hs K Q hK; subst hP; have he := (ev_ok hs.toR x).1; rw [hx] at he; have hp := va_of he; obtain ⟨he2, hl2⟩ := ev_ok hs.toR v; obtain ⟨vs, hvv, hcl, _, h1⟩ := cellsOf_ok hv he2 hl2; have hvs : vs = [u] := CL_den (by simp [Cl.known]) hcl; subst hvs; obtain ⟨_, hown, hF, hone⟩ := hs.fact j _ hj; have hF2 : own g = some (.fa j) := (hF g).2 rfl; obtain ⟨hxl, hc⟩ := hown
 rcases hc with ⟨h0, _⟩ | ⟨g', cap', cur, hg', _, hb, hnc, hcm, hcs, htk⟩
 · simp at h0
 simp only [Value.slice.injEq, Option.some.injEq, Addr.mk.injEq, and_true] at hg'; obtain ⟨rfl, -, rfl⟩ := hg'; have hnsz : n * size <= cap * size := Nat.mul_le_mul_right _ hnc; have hst := run_storeCells_at (P := E.X.P) g q e [u] 0 cur w hb (by simp; omega) h1; simp only [Nat.add_zero] at hst
 have hsz' : (w.setRow g (cur.toList.take q ++ [u] ++ cur.toList.drop (q + [u].length)).toArray).heap.size = w.heap.size := by simp
 have hfr : Frm (fun k => ∃ j' ∈ [j], own k = some (.fa j')) w (w.setRow g (cur.toList.take q ++ [u] ++ cur.toList.drop (q + [u].length)).toArray) :=
  ⟨rfl, rfl, rfl, by rw [hsz']; exact Nat.le_refl _, fun k hk hno => setRow_other w g k _ (fun e => hno ⟨j, zp, e ▸ hF2⟩)⟩
 have hset : cur.toList.take q ++ [u] ++ cur.toList.drop (q + [u].length) = cur.toList.set q u := by
  rw [List.set_eq_take_append_cons_drop, if_pos (by simp; omega)]
  simp
 have h2 := hs.trade [j] (B := Row e size (.slice (some ⟨g, 0, none⟩) n cap) n (xs.set q u)) (F := fun k => k = g) hfr ⟨⟨by simpa using hxl, .inr ⟨g, cap, _, rfl, Nat.zero_le _, setRow_heap w g cur _ e (0, 0) hb, hnc, hcm, by rw [hset]; simpa using hcs, by rw [hset, List.take_set, htk]⟩⟩, fun k => by simp [Value.ownBlock, eq_comm], fun v hv => by
  rcases List.mem_or_eq_of_mem_set hv with hv | rfl
  · exact hone v hv
  · exact h1 _ zp⟩ (fun k hk => .inl ⟨j, zp, hk ▸ hF2⟩)
 have hr : Res E.X.P o a w (a.put o.dst undef) (w.setRow g (cur.toList.take q ++ [u] ++ cur.toList.drop (q + [u].length)).toArray) := by
  refine ⟨_, ?_, .inr ⟨rfl, rfl⟩⟩
  simp only [List.append_assoc] at hst
  simp [execOp, ho, hp, Instr.storeAt, Instr.sureAddr, storeVar, run_sizeOf' hsz, hvv]
  simp at hst
  rw [hst]; rfl
 exact hr.wp (hK () trivial _ _ r _ (h2.put o.dst (ok_va r undef) trivial) (.same (put_h ..).1 (put_h ..).2 hfr.size fun n t cs hm _ => hfr.block _ (hs.bnd _ _ (hs.heap n t cs hm).2.2.1).1 (fun ⟨j, _, hj⟩ => by
  rw [(hs.heap n t cs hm).2.2.1] at hj; cases hj)))
end
theorem cT259 (gx : Nat) (w : World) : Calls Tryz.prog 259 [ptr gx].toArray w (RetS (.sc (.va (.int .i64 2))) w) := by
 refine calls_start 1000 Tryz.func259 rfl fun E hX hP hA hQ => ?_
 repeat' first
  | refine zA ?_ | apply zI <;> intro hdec | with_reducible constructor | refine zs0 ?_
 all_goals (intro a w' r own hs; exact ⟨⟨_, rfl, fun r => .inr rfl⟩, hs.frm⟩)
theorem cT289 (gx : Nat) (w : World) : Calls Tryz.prog 289 [ptr gx].toArray w (RetS (.sc (.va (.int .i64 3))) w) := by
 refine calls_start 1000 Tryz.func289 rfl fun E hX hP hA hQ => ?_
 repeat' first
  | refine zA ?_ | apply zI <;> intro hdec | with_reducible constructor | refine zs0 ?_
 all_goals (intro a w' r own hs; exact ⟨⟨_, rfl, fun r => .inr rfl⟩, hs.frm⟩)
theorem cT265 (gx : Nat) (w : World) : Calls Tryz.prog 265 [ptr gx].toArray w (RetS (.sc (.va (.int .i64 4))) w) := by
 refine calls_start 1000 Tryz.func265 rfl fun E hX hP hA hQ => ?_
 repeat' first
  | refine zA ?_ | apply zI <;> intro hdec | with_reducible constructor | refine zs0 ?_
 all_goals (intro a w' r own hs; exact ⟨⟨_, rfl, fun r => .inr rfl⟩, hs.frm⟩)
theorem cT271 (gx : Nat) (w : World) : Calls Tryz.prog 271 [ptr gx].toArray w (RetS (.sc (.va (.int .i64 5))) w) := by
 refine calls_start 1000 Tryz.func271 rfl fun E hX hP hA hQ => ?_
 repeat' first
  | refine zA ?_ | apply zI <;> intro hdec | with_reducible constructor | refine zs0 ?_
 all_goals (intro a w' r own hs; exact ⟨⟨_, rfl, fun r => .inr rfl⟩, hs.frm⟩)
theorem cT295 (gx : Nat) (w : World) : Calls Tryz.prog 295 [ptr gx].toArray w (RetS (.sc (.va (.int .i64 6))) w) := by
 refine calls_start 1000 Tryz.func295 rfl fun E hX hP hA hQ => ?_
 repeat' first
  | refine zA ?_ | apply zI <;> intro hdec | with_reducible constructor | refine zs0 ?_
 all_goals (intro a w' r own hs; exact ⟨⟨_, rfl, fun r => .inr rfl⟩, hs.frm⟩)
theorem cT301 (gx : Nat) (w : World) : Calls Tryz.prog 301 [ptr gx].toArray w (RetS (.sc (.va (.int .i64 7))) w) := by
 refine calls_start 1000 Tryz.func301 rfl fun E hX hP hA hQ => ?_
 repeat' first
  | refine zA ?_ | apply zI <;> intro hdec | with_reducible constructor | refine zs0 ?_
 all_goals (intro a w' r own hs; exact ⟨⟨_, rfl, fun r => .inr rfl⟩, hs.frm⟩)
theorem cT277 (gx : Nat) (w : World) : Calls Tryz.prog 277 [ptr gx].toArray w (RetS (.sc (.va (.int .i64 8))) w) := by
 refine calls_start 1000 Tryz.func277 rfl fun E hX hP hA hQ => ?_
 repeat' first
  | refine zA ?_ | apply zI <;> intro hdec | with_reducible constructor | refine zs0 ?_
 all_goals (intro a w' r own hs; exact ⟨⟨_, rfl, fun r => .inr rfl⟩, hs.frm⟩)
theorem cT307 (gx : Nat) (w : World) : Calls Tryz.prog 307 [ptr gx].toArray w (RetS (.sc (.va (.int .i64 10))) w) := by
 refine calls_start 1000 Tryz.func307 rfl fun E hX hP hA hQ => ?_
 repeat' first
  | refine zA ?_ | apply zI <;> intro hdec | with_reducible constructor | refine zs0 ?_
 all_goals (intro a w' r own hs; exact ⟨⟨_, rfl, fun r => .inr rfl⟩, hs.frm⟩)
theorem cT331 (gx : Nat) (w : World) : Calls Tryz.prog 331 [ptr gx].toArray w (RetS (.sc (.va (.int .i64 11))) w) := by
 refine calls_start 1000 Tryz.func331 rfl fun E hX hP hA hQ => ?_
 repeat' first
  | refine zA ?_ | apply zI <;> intro hdec | with_reducible constructor | refine zs0 ?_
 all_goals (intro a w' r own hs; exact ⟨⟨_, rfl, fun r => .inr rfl⟩, hs.frm⟩)
theorem cT337 (gx : Nat) (w : World) : Calls Tryz.prog 337 [ptr gx].toArray w (RetS (.sc (.va (.int .i64 13))) w) := by
 refine calls_start 1000 Tryz.func337 rfl fun E hX hP hA hQ => ?_
 repeat' first
  | refine zA ?_ | apply zI <;> intro hdec | with_reducible constructor | refine zs0 ?_
 all_goals (intro a w' r own hs; exact ⟨⟨_, rfl, fun r => .inr rfl⟩, hs.frm⟩)
theorem cT239 (gx : Nat) (w : World) : Calls Tryz.prog 239 [ptr gx].toArray w (RetS (.sc (.va (.int .i64 14))) w) := by
 refine calls_start 1000 Tryz.func239 rfl fun E hX hP hA hQ => ?_
 repeat' first
  | refine zA ?_ | apply zI <;> intro hdec | with_reducible constructor | refine zs0 ?_
 all_goals (intro a w' r own hs; exact ⟨⟨_, rfl, fun r => .inr rfl⟩, hs.frm⟩)
theorem cT350 (gx : Nat) (w : World) : Calls Tryz.prog 350 [ptr gx].toArray w (RetS (.sc (.va (.int .i64 16))) w) := by
 refine calls_start 1000 Tryz.func350 rfl fun E hX hP hA hQ => ?_
 repeat' first
  | refine zA ?_ | apply zI <;> intro hdec | with_reducible constructor | refine zs0 ?_
 all_goals (intro a w' r own hs; exact ⟨⟨_, rfl, fun r => .inr rfl⟩, hs.frm⟩)
theorem cT358 (gx : Nat) (w : World) : Calls Tryz.prog 358 [ptr gx].toArray w (RetS (.sc (.va (.int .i64 17))) w) := by
 refine calls_start 1000 Tryz.func358 rfl fun E hX hP hA hQ => ?_
 repeat' first
  | refine zA ?_ | apply zI <;> intro hdec | with_reducible constructor | refine zs0 ?_
 all_goals (intro a w' r own hs; exact ⟨⟨_, rfl, fun r => .inr rfl⟩, hs.frm⟩)
theorem cT319 (gx : Nat) (w : World) : Calls Tryz.prog 319 [ptr gx].toArray w (RetS (.sc (.va (.int .i64 19))) w) := by
 refine calls_start 1000 Tryz.func319 rfl fun E hX hP hA hQ => ?_
 repeat' first
  | refine zA ?_ | apply zI <;> intro hdec | with_reducible constructor | refine zs0 ?_
 all_goals (intro a w' r own hs; exact ⟨⟨_, rfl, fun r => .inr rfl⟩, hs.frm⟩)
def kOk (k : Int) : Prop := k = 2 \/ k = 3 \/ k = 4 \/ k = 5 \/ k = 6 \/ k = 7 \/ k = 8 \/ k = 10 \/ k = 11 \/ k = 13 \/ k = 14 \/ k = 16 \/ k = 17 \/ k = 19
theorem Shp.kOk {w : World} {F : Nat -> Prop} {b tk : Nat} {v : ByteArray} {fl : Bool} {k : Int} {vs cs : List Value} (h : Shp w F b tk v fl k vs cs) : kOk k := by
 cases h <;> simp [Sx.kOk]
theorem type_meth (k : Int) (hk : kOk k) : ∃ f, methT Tryz.prog (kpT k) "Type" f = true /\ callable Tryz.prog f = true /\ ∀ gx w, Calls Tryz.prog f #[ptr gx] w (RetS (.sc (.va (.int .i64 k))) w) := by
 rcases hk with rfl | rfl | rfl | rfl | rfl | rfl | rfl | rfl | rfl | rfl | rfl | rfl | rfl | rfl
 exact ⟨259, zk, zk, fun gx w => cT259 gx w⟩; exact ⟨289, zk, zk, fun gx w => cT289 gx w⟩; exact ⟨265, zk, zk, fun gx w => cT265 gx w⟩; exact ⟨271, zk, zk, fun gx w => cT271 gx w⟩; exact ⟨295, zk, zk, fun gx w => cT295 gx w⟩; exact ⟨301, zk, zk, fun gx w => cT301 gx w⟩; exact ⟨277, zk, zk, fun gx w => cT277 gx w⟩; exact ⟨307, zk, zk, fun gx w => cT307 gx w⟩; exact ⟨331, zk, zk, fun gx w => cT331 gx w⟩; exact ⟨337, zk, zk, fun gx w => cT337 gx w⟩; exact ⟨239, zk, zk, fun gx w => cT239 gx w⟩; exact ⟨350, zk, zk, fun gx w => cT350 gx w⟩; exact ⟨358, zk, zk, fun gx w => cT358 gx w⟩; exact ⟨319, zk, zk, fun gx w => cT319 gx w⟩
section
variable {E : En} {S : St} {dst : Option Tmp} {ty : TypeId} {pos : String} {after : Array Edge} {guard : Option (Nat × Bool)} {c : Call} {o : Oper}
theorem LS_enterS (res : SV) (hl : res.lt 0)
 (hent : ∀ a w r own, Sim E.X S E.A a w r own -> ∃ f args, (execOp a.eval o).run E.X.P w = .ok (.enter f args) w /\ Calls E.X.P f args w (RetS res w)) :
 LS E S o [] (fun _ : Unit => True) (fun _ => S.put o.dst res) (fun _ => E.A) := by
 intro a w r own hs K Q hK; obtain ⟨f, args, he, hcall⟩ := hent a w r own hs
 unfold Oper.wp
 rw [he]
 refine Calls.mono hcall fun e w' hr => ?_
 obtain ⟨⟨u, he, hu⟩, hfr⟩ := hr; subst he; exact hK () trivial _ _ _ _ ((hs.ext hfr).put o.dst (hu r) (SV.lt_mono (Nat.zero_le _) hl)) (.same (put_h ..).1 (put_h ..).2 hfr.size fun n t cs hm _ => hfr.block _ (hs.bnd _ _ (hs.heap n t cs hm).2.2.1).1 (fun x => x))
theorem LS_type {x : Operand} (k : Int) (gx : Nat) (hk : kOk k) (hP : E.X.P = Tryz.prog) (hc : c.callee = .invoke x "Type") (ha : c.args = #[]) (hx : ev S x = .sc (.va (.iface (kpT k) (ptr gx)))) :
 LS E S ⟨dst, .call c, ty, pos, after, guard⟩ [] (fun _ : Unit => True) (fun _ => S.put dst (.sc (.va (.int .i64 k)))) (fun _ => E.A) := by
 refine LS_enterS (o := ⟨dst, .call c, ty, pos, after, guard⟩) _ True.intro fun a w r own hs => ?_
 have he := va_of (hx ▸ (ev_ok hs.toR x).1); obtain ⟨f, h1, h2, h3⟩ := type_meth k hk; rw [hP]
 refine ⟨f, _, exec_invoke hc he (run_methT h1 (Tryz.prog.types.size + Made.depth - 1) _ w) h2 rfl, ?_⟩
 rw [ha]
 simpa using h3 gx w
end
section
attribute [local irreducible] LS WS WQ
theorem retN_finF {α : Type} {P : Program} {w0 : World} {g : Nat} {F0 : Nat -> Prop} {S : St} {A : Facts} {a : Act} {w : World} {r : Nat -> Nat} {own : Nat -> Option Ent} (hs : Sim ⟨P, w0, fun k => k ∈ [g] \/ F0 k, [], rtOf 0 [g]⟩ S A a w r own) {t : Nat} {res : α -> SV} {φ : α -> Prop} {B : α -> Asn} {cs : α -> List Value}
 (x : α) (hx : φ x) (hm : (0, t, (cs x).map .va) ∈ S.h) {u : Value} (hu : ∀ r, (res x).ok r u) {j : Nat} (h1 : (j, B x) ∈ A) :
 RetN res φ B g t cs F0 w0 (.returned u) w := by
 have hr := (hs.rts 0 g (List.mem_singleton_self _)).2; obtain ⟨_, _, e3, vs, e4, e5, e6⟩ := hs.heap 0 t _ hm
 have hv : vs = cs x := by
  have := CL_den (by simp [Cl.known]) e5; rw [this, List.map_map]; exact (List.map_congr_left fun v _ => rfl).trans (List.map_id _)
 subst hv; rw [hr] at e4 e3
 refine ⟨x, hx, ⟨u, rfl, hu⟩, ⟨hs.frm.os, hs.frm.tape, hs.frm.output, hs.frm.size, fun k hk hn => hs.frm.block k hk (fun hm => hn (hm.imp (fun h => by simpa using h) id))⟩, e4, e6, fun k => own k = some (.fa j), fun k hj => ?_, (hs.fact j _ h1).2⟩
 obtain ⟨b1, b2⟩ := hs.bnd k _ hj
 rcases b2 with b2 | b2 | b2
 · exact .inr ⟨b2, b1⟩
 · have hkg : k = g := by simpa using b2
   subst hkg; have hj' : own k = some (.fa j) := hj; rw [e3] at hj'
   cases hj'
 · exact .inl b2
def vy (K k : Int) (x : Value) : List Value := if k = K then [x] else []
theorem vy_t {K k : Int} {x : Value} (h : K = k) : vy K k x = [x] := if_pos h.symm
theorem vy_f {K k : Int} {x : Value} (h : ¬ K = k) : vy K k x = [] := if_neg fun e => h e.symm
theorem vy_len (K k : Int) (x : Value) : (vy K k x).length <= 1 := by unfold vy; split <;> simp
abbrev flwC (K : Int) (a : Option Addr) (m cp : Nat) : List Value := [.int .i64 K, .slice a m cp]
abbrev WalkR (res : SV) (g : Nat) (F0 : Nat -> Prop) (K : Int) (m : Nat) (xs ys : List Value) (w : World) : Ending -> World -> Prop :=
 RetN (fun _ : Option Addr × Nat => res) (fun _ => True) (fun x => Row 54 1 (.slice x.1 (m + ys.length) x.2) (m + ys.length) (xs ++ ys)) g 77 (fun x => flwC K x.1 (m + ys.length) x.2) F0 w
theorem c218 (w : World) (g gx : Nat) (k K : Int) (F0 : Nat -> Prop) (a : Option Addr) (m cp : Nat) (xs : List Value) (hk : kOk k) (hg : Hp w g 77 (flwC K a m cp)) (hrow : (Row 54 1 (.slice a m cp) m xs).P w F0) (hf0 : ∀ k, F0 k -> k ≠ g /\ k < w.heap.size) (hm : m + 1 <= 1000000) :
 Calls Tryz.prog 218 [ptr g, .iface (kpT k) (ptr gx)].toArray w (WalkR (.sc (.va (.iface 75 (ptr g)))) g F0 K m xs (vy K k (.iface (kpT k) (ptr gx))) w) := by
 refine calls_startF 1000 [g] [(0, 77, [.va (.int .i64 K), .va (.slice a m cp)])] [.sc (.pt 0 0), .sc (.va (.iface (kpT k) (ptr gx)))] (Row 54 1 (.slice a m cp) m xs) F0 Tryz.func218 rfl ⟨⟨rfl, rfl⟩, ⟨rfl, rfl⟩, trivial⟩ zp (HpOk_one hg rfl) hrow (fun k hk => ⟨by simpa using (hf0 k hk).1, (hf0 k hk).2⟩) fun E hX hP hA hQ => ?_
 repeat' first
  | refine zA ?_ | apply zI <;> intro hdec | with_reducible constructor
  | apply WX_fin hX rfl hQ (.inr rfl)
  | refine zu 1 sch218_1 [] ?_
  | (refine WD_LS 850 ?_ (LS_type k gx hk hP rfl rfl ?_) ?_ ?_; exact zq2; exact zq0; exact zq16; intro _ _ E2 h1 h2 h3; obtain rfl := En_eq _ _ h1 h2 h3) | (refine WO_LS 850 (LS_append (e := 54) (size := 1) (bytes := 16) 0 (.slice a m cp) (m) (xs) 1 [.iface (kpT k) (ptr gx)] hP rfl ?_ ?_ ?_ ?_ ?_ ?_ ?_) ?_; exact zq1; exact zq0; exact zq13; exact zq22; rfl; omega; decide; rintro v' ⟨_, a1, q1, rfl⟩ E2 h1 h2 h3; refine zz ?_; intro hX hP hA hQ) | refine zs0 ?_
 · (intro a' w' r own hs'
    have hr := (hs'.rts 0 g (List.mem_singleton_self _)).2; rw [hA] at hs'; rw [vy_t hdec]; exact retN_finF (res := fun _ : Option Addr × Nat => .sc (.va (.iface 75 (ptr g)))) (φ := fun _ => True) (cs := fun x => flwC K x.1 (m + 1) x.2) (B := fun x : Option Addr × Nat => Row 54 1 (.slice x.1 (m + 1) x.2) (m + 1) (xs ++ [.iface (kpT k) (ptr gx)])) hs' (a1, q1) trivial zm (fun r' => .inr (by show Value.iface 75 (.pointer (some ⟨r 0, 0, none⟩)) = _; rw [hr]; rfl)) (j := 1) zm)
 · (intro a' w' r own hs'
    have hr := (hs'.rts 0 g (List.mem_singleton_self _)).2; rw [hA] at hs'; have h5 := retN_finF (res := fun _ : Option Addr × Nat => .sc (.va (.iface 75 (ptr g)))) (φ := fun _ => True) (B := fun x : Option Addr × Nat => Row 54 1 (.slice x.1 m x.2) m xs) (cs := fun x => flwC K x.1 m x.2) hs' (a, cp) trivial zm (fun r' => .inr (by show Value.iface 75 (.pointer (some ⟨r 0, 0, none⟩)) = _; rw [hr]; rfl)) (j := 0) zm; rw [vy_f hdec]
    simpa only [WalkR, List.append_nil, List.length_nil, Nat.add_zero] using h5)
end
end
section
attribute [local irreducible] leT leH WO WX WC WD LS WS WQ
section
variable {X : Cx} {S : St} {A : Facts} {a : Act} {w : World} {r : Nat -> Nat} {own : Nat -> Option Ent}
theorem Sim.join2 (h : Sim X S A a w r own) {j1 j2 : Nat} {B1 B2 : Asn} (h1 : (j1, B1) ∈ A) (h2 : (j2, B2) ∈ A) (hne : j1 ≠ j2) : ∃ own', Sim X { S with m := S.m + 1 } ((S.m, Asn.sep B1 B2) :: outF [j1, j2] A) a w r own' := by
 refine ⟨_, h.trade [j1, j2] (B := Asn.sep B1 B2) (F := fun k => own k = some (.fa j1) \/ own k = some (.fa j2)) (Frm.refl _ w) ?_ fun k hk => .inl ?_⟩
 · refine ⟨fun k => own k = some (.fa j1), fun k => own k = some (.fa j2), fun k => Iff.rfl, fun k hk hk' => ?_, (h.fact j1 _ h1).2, (h.fact j2 _ h2).2⟩
   have e1 : own k = some (.fa j1) := hk; have e2 : own k = some (.fa j2) := hk'; rw [e1] at e2; simp only [Option.some.injEq, Ent.fa.injEq] at e2; exact hne e2
 · rcases hk with hk | hk
   exact ⟨j1, zp, hk⟩; exact ⟨j2, zp, hk⟩
end
theorem WC_split {E : En} {c : Code} {k : Kt} {S : St} (j : Nat) (B1 B2 : Asn) (hj : (j, Asn.sep B1 B2) ∈ E.A)
 (h2 : ∀ E2 : En, E2.X = E.X -> E2.A = (S.m + 1, B2) :: (S.m, B1) :: outF [j] E.A -> E2.Q = E.Q -> WC E2 c k { S with m := S.m + 2 }) : WC E c k S :=
 WC_weak _ _ (fun a w r own hs => hs.split hj) h2
theorem c54 (w : World) (tk : Nat)  : Calls Tryz.prog 54 [ptr tk].toArray w (Ret1 (fun x : Nat × Nat => .sc (.va (ptr x.1))) (fun _ => True) (fun x : Nat × Nat => Asn.sep (Blk x.1 140 [ptr x.2, ptr tk]) (Blk x.2 230 baseC)) w) := by
 refine calls_start 1000 Tryz.func54 rfl fun E hX hP hA hQ => ?_
 repeat' first
  | refine zA ?_ | apply zI <;> intro hdec | with_reducible constructor | refine zs0 ?_
 all_goals try first
  | omega
  | (intro a w' r own hs'
     have h2 := hs'.conc (n := 0) (t := 230) (vals := baseC) zp; have h3 := h2.conc (n := 1) (t := 140) (vals := [ptr (r 0), ptr tk]) (by simp [St.conc, concH, Cl.conc]); exact ret1_fin2 (B1 := fun x : Nat × Nat => Blk x.1 140 [ptr x.2, ptr tk]) (B2 := fun x : Nat × Nat => Blk x.2 230 baseC) h3 (r 1, r 0) trivial (fun r => .inr rfl) zm zmb (by simp [St.conc]))
theorem c57 (w : World) (tk : Nat)  : Calls Tryz.prog 57 [ptr tk].toArray w (Ret1 (fun x : Nat × Nat => .sc (.va (ptr x.1))) (fun _ => True) (fun x : Nat × Nat => Asn.sep (Blk x.1 143 [ptr x.2, ptr tk, .pointer none]) (Blk x.2 230 baseC)) w) := by
 refine calls_start 1000 Tryz.func57 rfl fun E hX hP hA hQ => ?_
 repeat' first
  | refine zA ?_ | apply zI <;> intro hdec | with_reducible constructor | refine zs0 ?_
 all_goals try first
  | omega
  | (intro a w' r own hs'
     have h2 := hs'.conc (n := 0) (t := 230) (vals := baseC) zp; have h3 := h2.conc (n := 1) (t := 143) (vals := [ptr (r 0), ptr tk, .pointer none]) (by simp [St.conc, concH, Cl.conc]); exact ret1_fin2 (B1 := fun x : Nat × Nat => Blk x.1 143 [ptr x.2, ptr tk, .pointer none]) (B2 := fun x : Nat × Nat => Blk x.2 230 baseC) h3 (r 1, r 0) trivial (fun r => .inr rfl) zm zmb (by simp [St.conc]))
theorem c64 (w : World) (tk : Nat)  : Calls Tryz.prog 64 [ptr tk].toArray w (Ret1 (fun x : Nat × Nat => .sc (.va (ptr x.1))) (fun _ => True) (fun x : Nat × Nat => Asn.sep (Blk x.1 167 [ptr x.2, ptr tk, .nilIface, .nilIface]) (Blk x.2 230 baseC)) w) := by
 refine calls_start 1000 Tryz.func64 rfl fun E hX hP hA hQ => ?_
 repeat' first
  | refine zA ?_ | apply zI <;> intro hdec | with_reducible constructor | refine zs0 ?_
 all_goals try first
  | omega
  | (intro a w' r own hs'
     have h2 := hs'.conc (n := 0) (t := 230) (vals := baseC) zp; have h3 := h2.conc (n := 1) (t := 167) (vals := [ptr (r 0), ptr tk, .nilIface, .nilIface]) (by simp [St.conc, concH, Cl.conc]); exact ret1_fin2 (B1 := fun x : Nat × Nat => Blk x.1 167 [ptr x.2, ptr tk, .nilIface, .nilIface]) (B2 := fun x : Nat × Nat => Blk x.2 230 baseC) h3 (r 1, r 0) trivial (fun r => .inr rfl) zm zmb (by simp [St.conc]))
theorem c65 (w : World) (tk : Nat)  : Calls Tryz.prog 65 [ptr tk].toArray w (Ret1 (fun x : Nat × Nat => .sc (.va (ptr x.1))) (fun _ => True) (fun x : Nat × Nat => Asn.sep (Blk x.1 169 [ptr x.2, ptr tk, .nilIface]) (Blk x.2 230 baseC)) w) := by
 refine calls_start 1000 Tryz.func65 rfl fun E hX hP hA hQ => ?_
 repeat' first
  | refine zA ?_ | apply zI <;> intro hdec | with_reducible constructor | refine zs0 ?_
 all_goals try first
  | omega
  | (intro a w' r own hs'
     have h2 := hs'.conc (n := 0) (t := 230) (vals := baseC) zp; have h3 := h2.conc (n := 1) (t := 169) (vals := [ptr (r 0), ptr tk, .nilIface]) (by simp [St.conc, concH, Cl.conc]); exact ret1_fin2 (B1 := fun x : Nat × Nat => Blk x.1 169 [ptr x.2, ptr tk, .nilIface]) (B2 := fun x : Nat × Nat => Blk x.2 230 baseC) h3 (r 1, r 0) trivial (fun r => .inr rfl) zm zmb (by simp [St.conc]))
theorem c67 (w : World) (tk : Nat)  : Calls Tryz.prog 67 [ptr tk].toArray w (Ret1 (fun x : Nat × Nat => .sc (.va (ptr x.1))) (fun _ => True) (fun x : Nat × Nat => Asn.sep (Blk x.1 149 [ptr x.2, .pointer none, ptr tk, .nilIface]) (Blk x.2 230 baseC)) w) := by
 refine calls_start 1000 Tryz.func67 rfl fun E hX hP hA hQ => ?_
 repeat' first
  | refine zA ?_ | apply zI <;> intro hdec | with_reducible constructor | refine zs0 ?_
 all_goals try first
  | omega
  | (intro a w' r own hs'
     have h2 := hs'.conc (n := 0) (t := 230) (vals := baseC) zp; have h3 := h2.conc (n := 1) (t := 149) (vals := [ptr (r 0), .pointer none, ptr tk, .nilIface]) (by simp [St.conc, concH, Cl.conc]); exact ret1_fin2 (B1 := fun x : Nat × Nat => Blk x.1 149 [ptr x.2, .pointer none, ptr tk, .nilIface]) (B2 := fun x : Nat × Nat => Blk x.2 230 baseC) h3 (r 1, r 0) trivial (fun r => .inr rfl) zm zmb (by simp [St.conc]))
theorem c68 (w : World) (tk : Nat)  : Calls Tryz.prog 68 [ptr tk].toArray w (Ret1 (fun x : Nat × Nat => .sc (.va (ptr x.1))) (fun _ => True) (fun x : Nat × Nat => Asn.sep (Blk x.1 121 [ptr x.2, ptr tk]) (Blk x.2 230 baseC)) w) := by
 refine calls_start 1000 Tryz.func68 rfl fun E hX hP hA hQ => ?_
 repeat' first
  | refine zA ?_ | apply zI <;> intro hdec | with_reducible constructor | refine zs0 ?_
 all_goals try first
  | omega
  | (intro a w' r own hs'
     have h2 := hs'.conc (n := 0) (t := 230) (vals := baseC) zp; have h3 := h2.conc (n := 1) (t := 121) (vals := [ptr (r 0), ptr tk]) (by simp [St.conc, concH, Cl.conc]); exact ret1_fin2 (B1 := fun x : Nat × Nat => Blk x.1 121 [ptr x.2, ptr tk]) (B2 := fun x : Nat × Nat => Blk x.2 230 baseC) h3 (r 1, r 0) trivial (fun r => .inr rfl) zm zmb (by simp [St.conc]))
theorem cell_hp {w : World} {g t : Nat} {cs : List Value} (h : Hp w g t cs) {i : Nat} {v : Value} (hi : cs[i]? = some v) : w.cell? ⟨g, i, none⟩ = some v := by
 have h' : w.heap[g]? = some (.cells cs.toArray t (0, 0)) := h; simp only [World.cell?, h']
 simpa using hi
theorem cell3 {w : World} {tk p : Nat} {ty : Int} {t : ByteArray} (h : Hp w tk 87 (tokC ty t p)) : w.cell? ⟨tk, 3, none⟩ = some (.string t) := cell_hp h rfl
theorem c98 (w : World) (tk : Nat) (ty : Int) (t : ByteArray) (p : Nat) (htk : Hp w tk 87 (tokC ty t p)) : Calls Tryz.prog 98 [ptr tk].toArray w (Ret1 (fun x : Nat × Nat => .sc (.va (ptr x.1))) (fun _ => True) (fun x : Nat × Nat => Asn.sep (Blk x.1 130 [ptr x.2, ptr tk, .string t]) (Blk x.2 230 baseC)) w) := by
 refine calls_start 1000 Tryz.func98 rfl fun E hX hP hA hQ => ?_
 repeat' first
  | refine zA ?_ | apply zI <;> intro hdec | with_reducible constructor | (refine zr38 ?_; intro _ _) | refine zs18 ?_
 all_goals try first
  | omega
  | (intro a w' r own hs'
     have h2 := hs'.conc (n := 0) (t := 230) (vals := baseC) zp; have h3 := h2.conc (n := 1) (t := 130) (vals := [ptr (r 0), ptr tk, .string t]) (by simp [St.conc, concH, Cl.conc]); exact ret1_fin2 (B1 := fun x : Nat × Nat => Blk x.1 130 [ptr x.2, ptr tk, .string t]) (B2 := fun x : Nat × Nat => Blk x.2 230 baseC) h3 (r 1, r 0) trivial (fun r => .inr rfl) zm zmb (by simp [St.conc]))
def SeqB (tk : Nat) (fl : Bool) (x : Nat × Nat × Nat) : Asn := Asn.sep (Blk x.1 99 [ptr x.2.1, ptr tk, .pointer none, .bool fl, .slice (some ⟨x.2.2, 0, none⟩) 0 0, .slice none 0 0, .slice none 0 0, .pointer none]) (Asn.sep (Blk x.2.1 230 baseC) (Blk x.2.2 54 []))
theorem c101 (w : World) (tk : Nat) (fl : Bool) : Calls Tryz.prog 101 [ptr tk, .bool fl].toArray w (Ret1 (fun x : Nat × Nat × Nat => .sc (.va (ptr x.1))) (fun _ => True) (SeqB tk fl) w) := by
 refine calls_start 1000 Tryz.func101 rfl fun E hX hP hA hQ => ?_
 repeat' first
  | refine zA ?_ | apply zI <;> intro hdec | with_reducible constructor | refine zs0 ?_
 all_goals try first
  | omega
  | (intro a w' r own hs'
     rw [hA] at hs'; have h2 := hs'.conc (n := 0) (t := 230) (vals := baseC) zp; have h3 := h2.conc (n := 1) (t := 54) (vals := []) (by simp [St.conc, concH, Cl.conc]); have h4 := h3.conc (n := 2) (t := 99) (vals := [ptr (r 0), ptr tk, .pointer none, .bool fl, .slice (some ⟨r 1, 0, none⟩) 0 0, .slice none 0 0, .slice none 0 0, .pointer none]) (by simp [St.conc, concH, Cl.conc]); obtain ⟨own5, h5⟩ := h4.join2 (j1 := 0) (j2 := 1) (B1 := Blk (r 0) 230 baseC) (B2 := Blk (r 1) 54 []) (by simp [St.conc]) (by simp [St.conc]) zi; obtain ⟨own6, h6⟩ := h5.join2 (j1 := 2) (j2 := 3) (B1 := Blk (r 2) 99 [ptr (r 0), ptr tk, .pointer none, .bool fl, .slice (some ⟨r 1, 0, none⟩) 0 0, .slice none 0 0, .slice none 0 0, .pointer none]) (B2 := Asn.sep (Blk (r 0) 230 baseC) (Blk (r 1) 54 [])) (by simp [St.conc, outF]) (by simp [St.conc, outF]) zi; exact ret1_fin1 (B := SeqB tk fl) (j := 4) h6 (r 2, r 0, r 1) trivial (fun r => .inr rfl) (by simp [St.conc, SeqB]))
theorem c100 (w : World) (tk : Nat) (t1 g1 t2 g2 : Nat) : Calls Tryz.prog 100 [ptr tk, .iface t1 (ptr g1), .iface t2 (ptr g2)].toArray w (Ret1 (fun x : Nat × Nat => .sc (.va (ptr x.1))) (fun _ => True) (fun x : Nat × Nat => Asn.sep (Blk x.1 164 [ptr x.2, ptr tk, .pointer none, .iface t1 (ptr g1), .iface t2 (ptr g2), .pointer none, .bool false]) (Blk x.2 230 baseC)) w) := by
 refine calls_start 1000 Tryz.func100 rfl fun E hX hP hA hQ => ?_
 repeat' first
  | refine zA ?_ | apply zI <;> intro hdec | with_reducible constructor | refine zs18 ?_
 all_goals try first
  | omega
  | (intro a w' r own hs'
     have h2 := hs'.conc (n := 0) (t := 230) (vals := baseC) zp; have h3 := h2.conc (n := 1) (t := 164) (vals := [ptr (r 0), ptr tk, .pointer none, .iface t1 (ptr g1), .iface t2 (ptr g2), .pointer none, .bool false]) (by simp [St.conc, concH, Cl.conc]); exact ret1_fin2 (B1 := fun x : Nat × Nat => Blk x.1 164 [ptr x.2, ptr tk, .pointer none, .iface t1 (ptr g1), .iface t2 (ptr g2), .pointer none, .bool false]) (B2 := fun x : Nat × Nat => Blk x.2 230 baseC) h3 (r 1, r 0) trivial (fun r => .inr rfl) zm zmb (by simp [St.conc]))
theorem c50 (w : World) (tk : Nat) (ty : Int) (t : ByteArray) (p : Nat) (htk : Hp w tk 87 (tokC ty t p)) (x0 : Bool) (hx0 : Lib.parseBool t.data.toList = some x0) : Calls Tryz.prog 50 [ptr tk].toArray w (Ret1 (fun x : Nat × Nat => .sc (.va (ptr x.1))) (fun _ => True) (fun x : Nat × Nat => Asn.sep (Blk x.1 135 [ptr x.2, ptr tk, .bool x0]) (Blk x.2 230 baseC)) w) := by
 refine calls_start 1000 Tryz.func50 rfl fun E hX hP hA hQ => ?_
 repeat' first
  | refine zA ?_ | apply zI <;> intro hdec | with_reducible constructor | (refine zr38 ?_; intro _ _)
  | (refine zcS 95 (.tu [.sc (.va (.bool x0)), .sc (.va .nilIface)]) ?_ ?_
     · (intro a w r own hSim; simp only [go_sem]; with_reducible exact c95 t x0 hx0 _))
  | refine zs18 ?_
 all_goals try first
  | omega
  | (intro a w' r own hs'
     have h2 := hs'.conc (n := 0) (t := 230) (vals := baseC) zp; have h3 := h2.conc (n := 1) (t := 135) (vals := [ptr (r 0), ptr tk, .bool x0]) (by simp [St.conc, concH, Cl.conc]); exact ret1_fin2 (B1 := fun x : Nat × Nat => Blk x.1 135 [ptr x.2, ptr tk, .bool x0]) (B2 := fun x : Nat × Nat => Blk x.2 230 baseC) h3 (r 1, r 0) trivial (fun r => .inr rfl) zm zmb (by simp [St.conc]))
end
section
attribute [local irreducible] leT leH WO WX WC WD
section
variable {X : Cx} {S : St} {A : Facts} {a : Act} {w : World} {r : Nat -> Nat} {own : Nat -> Option Ent}
theorem Sim.facts (h : Sim X S A a w r own) {A' : Facts} (hA : ∀ x, x ∈ A' -> x ∈ A) : Sim X S A' a w r own :=
 ⟨h.dfr, h.sz, h.slot, h.slt, h.heap, fun j B hm => h.fact j B (hA _ hm), h.bnd, h.nms, h.fas, h.frm, h.rts⟩
theorem Sim.name (h : Sim X S A a w r own) {j g t : Nat} {cs : List Value} (hj : (j, Blk g t cs) ∈ A) :
 Sim X (S.new t (cs.map .va)) (outF [j] A) a w (fun n => if n = S.n then g else r n) (fun k => if k = g then some (.nm S.n) else own k) := by
 have hr : ∀ n, n < S.n -> (fun n => if n = S.n then g else r n) n = r n := fun n hn => by simp [Nat.ne_of_lt hn]
 obtain ⟨_, hF, hb, h1⟩ := h.fact j _ hj; have hg : own g = some (.fa j) := (hF g).2 rfl
 refine ⟨h.dfr, h.sz, fun j sv hj => SV.ok_ext hr (h.slt sv (List.mem_of_getElem? hj)) (h.slot j sv hj), fun sv hm => SV.lt_mono (Nat.le_succ _) (h.slt sv hm), ?_, ?_, ?_, ?_, ?_, h.frm, fun n g hm => ⟨Nat.lt_succ_of_lt (h.rts n g hm).1, (hr n (h.rts n g hm).1).trans (h.rts n g hm).2⟩⟩
 · intro n t' cs' hm
   simp only [St.new, List.mem_append, List.mem_singleton, Prod.mk.injEq] at hm
   rcases hm with hm | ⟨rfl, rfl, rfl⟩
   · obtain ⟨e1, e2, e3, vs', e4, e5, e6⟩ := h.heap n t' cs' hm
     have hne : r n ≠ g := fun e => by rw [e, hg] at e3; cases e3
     refine ⟨Nat.lt_succ_of_lt e1, ltL_mono (Nat.le_succ _) e2, ?_, vs', ?_, CL_ext hr e2 e5, e6⟩
     · rw [hr n e1]; simp only [hne, if_false]; exact e3
     · rw [hr n e1]; exact e4
   · exact ⟨Nat.lt_succ_self _, ltL_mono (Nat.le_succ _) (ltL_va S.n cs), zp, cs, by simpa using hb, CL_ext hr (ltL_va S.n cs) (CL_va cs), h1⟩
 · intro j' B hm
   obtain ⟨hm1, hm2⟩ := List.mem_filter.1 hm
   have hjj : j' ≠ j := fun e => by subst e; simp at hm2
   obtain ⟨e1, e2⟩ := h.fact j' B hm1
   refine ⟨e1, ?_⟩
   have he : (fun k => (if k = g then some (Ent.nm S.n) else own k) = some (Ent.fa j')) = (fun k => own k = some (Ent.fa j')) := by
    funext k
    apply propext
    by_cases hk : k = g
    · subst hk
      simp only [if_true, hg, Option.some.injEq, reduceCtorEq, Ent.fa.injEq, false_iff]; exact fun e => hjj e.symm
    · simp [hk]
   rw [he]; exact e2
 · intro k e hk
   by_cases hkk : k = g
   · subst hkk
     exact h.bnd _ _ hg
   · simp only [hkk, if_false] at hk
     exact h.bnd k e hk
 · intro k n hk
   by_cases hkk : k = g
   · simp only [hkk, if_true, Option.some.injEq, Ent.nm.injEq] at hk
     show n < S.n + 1
     omega
   · simp only [hkk, if_false] at hk
     exact Nat.lt_succ_of_lt (h.nms k n hk)
 · intro k j' hk
   by_cases hkk : k = g
   · simp only [hkk, if_true] at hk
     cases hk
   · simp only [hkk, if_false] at hk
     exact h.fas k j' hk
end
section
variable {E : En} {S : St} {α : Type} {φ : α -> Prop} {c : Call} {dst : Option Tmp} {ty : TypeId} {pos : String} {after : Array Edge} {guard : Option (Nat × Bool)} {o : Oper}
def St.callP (S : St) (dst : Option Tmp) (t : Nat) (cs : List Value) : St := St.put { S.new t (cs.map .va) with m := S.m + 3 } dst (.sc (.pt S.n 0))
theorem LS_callP {f : FuncId} {P : Program} (g : α -> Nat) (φ : α -> Prop) (t : Nat) (cs : α -> List Value) (B2 : α -> Asn) (hP : E.X.P = P) (hc : c.callee = .value (.func f)) (hf : callable P f = true)
 (hk : (c.args.toList.all fun x => (ev S x).known) = true) (hm0 : (E.A.all fun x => decide (x.1 < S.m)) = true)
 (hcall : ∀ a w r own, Sim E.X S E.A a w r own -> Calls P f ((c.args.toList.map fun x => (ev S x).den r).toArray) w (Ret1 (fun x => .sc (.va (ptr (g x)))) φ (fun x => Asn.sep (Blk (g x) t (cs x)) (B2 x)) w)) :
 LS E S ⟨dst, .call c, ty, pos, after, guard⟩ [] φ (fun x => S.callP dst t (cs x)) (fun x => (S.m + 2, B2 x) :: E.A) := by
 intro a w r own hs K Q hK
 have hm : ∀ j B, (j, B) ∈ E.A -> j < S.m := fun j B h => by simpa using List.all_eq_true.1 hm0 _ h
 subst hP
 refine wp_of_calls hc hf rfl ?_
 rw [args_eval hs.toR hk]
 refine (hcall a w r own hs).mono fun e w' hr => ?_
 obtain ⟨x, hx, ⟨u, he, hu⟩, hfr, F, hF, hB⟩ := hr
 have h1 := (hs.ext hfr).addF hB (fun k hk => by
  obtain ⟨e1, e2⟩ := hF k hk
  refine ⟨?_, e2, .inl (Nat.le_trans hs.frm.size e1)⟩
  cases ho : own k with
  | none => rfl
  | some e => exact absurd (hs.bnd k e ho).1 (Nat.not_lt.2 e1))
 obtain ⟨own2, h2⟩ := h1.split (j := S.m) zm; have h3 := h2.name (j := S.m + 1) (g := g x) (t := t) (cs := cs x) zmb
 have h4 := h3.facts (A' := (S.m + 2, B2 x) :: E.A) fun y hy => by
  rcases List.mem_cons.1 hy with rfl | hy
  · refine List.mem_filter.2 ⟨List.mem_cons_self .., ?_⟩
    simp
  · have hlt := hm y.1 y.2 hy
    refine List.mem_filter.2 ⟨List.mem_cons_of_mem _ (List.mem_cons_of_mem _ (List.mem_filter.2 ⟨List.mem_cons_of_mem _ hy, ?_⟩)), ?_⟩ <;> simp <;> omega
 have hu0 : u = ptr (g x) := by
  rcases hu r with h | h
  · cases h
  · simpa [Cl.den] using h
 refine ⟨u, he, hK x hx _ _ _ _ (h4.put dst (sv := .sc (.pt S.n 0)) (u := u) (.inr ?_) (Nat.lt_succ_self _)) ⟨fun n hn => by simp [Nat.ne_of_lt hn], ?_, hfr.size, by cases dst <;> exact Nat.le_succ _, ?_, ?_⟩⟩
 · rw [hu0]; simp [Cl.den]
 · exact fun n t cs hm _ => hfr.block _ (hs.bnd _ _ (hs.heap n t cs hm).2.2.1).1 (fun x => x)
 · intro y hy
   have hy : y ∈ S.h ++ [(S.n, t, (cs x).map .va)] := by cases dst <;> exact hy
   rcases List.mem_append.1 hy with hy | hy
   · exact .inl ⟨y, hy, rfl⟩
   · obtain rfl : y = (S.n, t, (cs x).map .va) := by simpa using hy
     exact .inr (Nat.le_refl _)
 · exact fun y hy => ⟨y, (by cases dst <;> exact List.mem_append_left _ hy), rfl⟩
theorem LS_bld {P : Program} {t : TypeId} {x : Operand} {g q t' : Nat} {agg : Bool} (j : Nat) (cs vals : List Value) (hP : E.X.P = P) (ho : o.op = .load t x) (hx : ev S x = .sc (.va (.pointer (some ⟨g, q, none⟩))))
 (hj : (j, Blk g t' cs) ∈ E.A) (hv : (cs.drop q).take vals.length = vals) (hsz : szT P t = some (vals.length, agg)) (hag : agg = false -> vals.length = 1) : LS E S o [] (fun _ : Unit => True) (fun _ => S.put o.dst (rdV agg vals)) (fun _ => E.A) := by
 subst hP; exact LS_yl fun a w r own hs => yl_rload vals hs.toR ho hx (hs.fact j _ hj).2.2.1 (by simpa using hv) hsz hag
end
theorem c51 (w : World) (tk : Nat) (ty : Int) (t : ByteArray) (p : Nat) (htk : Hp w tk 87 (tokC ty t p)) (F : Nat -> Prop) (hG : Gl w F) (tv : Nat) (pv : Value) (h96 : ∀ w, Gl w F -> Calls Tryz.prog 96 [.string t].toArray w (Ret1 (fun g : Nat => .sc (.va (.pointer (some ⟨g, 0, none⟩)))) (fun _ => True) (NumA ⟨#[100, 101, 99, 105, 109, 97, 108]⟩ (.iface tv pv) t) w)) : Calls Tryz.prog 51 [ptr tk].toArray w (Ret1 (fun x : Nat × Nat => .sc (.va (ptr x.1))) (fun _ => True) (fun x : Nat × Nat => Asn.sep (Blk x.1 124 [ptr x.2, ptr tk, .iface tv pv]) (Blk x.2 230 baseC)) w) := by
 refine calls_start 1000 Tryz.func51 rfl fun E hX hP hA hQ => ?_
 repeat' first
  | refine zA ?_ | apply zI <;> intro hdec | with_reducible constructor | (refine zr38 ?_; intro _ _) | (refine WO_LS 850 (LS_call1 (α := Nat) (f := 96) (fun g : Nat => .sc (.va (.pointer (some ⟨g, 0, none⟩)))) (fun _ => True) (NumA ⟨#[100, 101, 99, 105, 109, 97, 108]⟩ (.iface tv pv) t) hP ?_ ?_ ?_ ?_ ?_) ?_; rfl; exact zq1; exact zq9; exact zq0; exact zq97; rintro g1 _ E2 h1 h2 h3; refine zz ?_; intro hX hP hA hQ) | (refine WO_LE 850 (LS_bld (g := g1) (q := 1) (t' := 239) 0 ([.string ⟨#[100, 101, 99, 105, 109, 97, 108]⟩, .iface tv pv, .string t]) [.iface tv pv] hP rfl ?_ ?_ rfl sz20 (fun _ => rfl)) ?_; exact zq88; exact zq13; intro _ _; simp only [rdV]) | refine zs23 ?_
 all_goals try first
  | omega
  | (intro a w' r own hs'
     have h2 := hs'.conc (n := 0) (t := 230) (vals := baseC) zp; have h3 := h2.conc (n := 1) (t := 124) (vals := [ptr (r 0), ptr tk, .iface tv pv]) (by simp [St.conc, concH, Cl.conc]); exact ret1_fin2 (B1 := fun x : Nat × Nat => Blk x.1 124 [ptr x.2, ptr tk, .iface tv pv]) (B2 := fun x : Nat × Nat => Blk x.2 230 baseC) h3 (r 1, r 0) trivial (fun r => .inr rfl) zm zmb (by simp [St.conc]))
theorem tfr_lt (x : Value ⊕ (Nat × Nat)) : (TfR x).lt 0 := by cases x <;> exact True.intro
theorem c52 (w : World) (tk : Nat) (ty : Int) (t : ByteArray) (p : Nat) (htk : Hp w tk 87 (tokC ty t p)) (F : Nat -> Prop) (hG : Gl w F) (h96 : ∀ w, Gl w F -> Calls Tryz.prog 96 [.string t].toArray w (Ret1 TfR (fun _ => True) (ToA t) w)) : Calls Tryz.prog 52 [ptr tk].toArray w (Ret1 (fun x : Nat × Nat × Nat => .sc (.va (ptr x.1))) (fun _ => True) (fun x => Asn.sep ((fun x : Nat × Nat × Nat => Blk x.1 127 [ptr x.2.1, ptr tk, .int .i64 0, .float .f64 x.2.2]) x) ((fun x : Nat × Nat × Nat => Blk x.2.1 230 baseC) x)) w) := by
 refine calls_start 1000 Tryz.func52 rfl fun E hX hP hA hQ => ?_
 repeat' first
  | refine zB ?_ | apply zI <;> intro hdec | with_reducible constructor | (refine zr38 ?_; intro _ _)
  | (refine WO_LS 850 (LS_call1 (α := Value ⊕ (Nat × Nat)) (f := 96) (TfR) (fun _ => True) (ToA t) hP ?_ ?_ ?_ ?_ ?_) ?_
     rfl; exact zq1; exact fun _ => tfr_lt _; exact zq0; exact zq97; rintro x1 _ E2 h1 h2 h3; refine zz ?_; intro hX hP hA hQ
     rcases x1 with e1 | ⟨g1, f1⟩
     all_goals simp only [TfR]
     rotate_left 1
     rotate_left 1
     skip)
  | (refine WO_LE 850 (LS_bld (g := g1) (q := 0) (t' := 239) 0 ([.string ⟨#[102, 108, 111, 97, 116]⟩, .iface 68 (.float .f64 f1), .string t]) [.string ⟨#[102, 108, 111, 97, 116]⟩] hP rfl ?_ ?_ rfl sz237 (fun _ => rfl)) ?_; exact zq88; exact zq13; intro _ _; simp only [rdV]) | (refine WO_LE 850 (LS_bld (g := g1) (q := 1) (t' := 239) 0 ([.string ⟨#[102, 108, 111, 97, 116]⟩, .iface 68 (.float .f64 f1), .string t]) [.iface 68 (.float .f64 f1)] hP rfl ?_ ?_ rfl sz20 (fun _ => rfl)) ?_; exact zq88; exact zq13; intro _ _; simp only [rdV]) | refine zs23 ?_
 all_goals try first
  | (intro a w' r own hs'
     have h2 := hs'.conc (n := 0) (t := 230) (vals := baseC) zp; have h3 := h2.conc (n := 1) (t := 127) (vals := [ptr (r 0), ptr tk, .int .i64 0, .float .f64 f1]) (by simp [St.conc, concH, Cl.conc]); exact ret1_fin2 (B1 := fun x : Nat × Nat × Nat => Blk x.1 127 [ptr x.2.1, ptr tk, .int .i64 0, .float .f64 x.2.2]) (B2 := fun x : Nat × Nat × Nat => Blk x.2.1 230 baseC) h3 (r 1, r 0, f1) trivial (fun r => .inr rfl) zm zmb (by simp [St.conc]))
  | (intro a w' r own hs'
     have h2 := hs'.conc (n := 0) (t := 230) (vals := baseC) zp; have h3 := h2.conc (n := 1) (t := 127) (vals := [ptr (r 0), ptr tk, .int .i64 0, .float .f64 0]) (by simp [St.conc, concH, Cl.conc]); exact ret1_fin2 (B1 := fun x : Nat × Nat × Nat => Blk x.1 127 [ptr x.2.1, ptr tk, .int .i64 0, .float .f64 x.2.2]) (B2 := fun x : Nat × Nat × Nat => Blk x.2.1 230 baseC) h3 (r 1, r 0, 0) trivial (fun r => .inr rfl) zm zmb (by simp [St.conc]))
section
variable {E : En} {S : St} {P : Program} {c : Call} {dst : Option Tmp} {ty : TypeId} {pos : String} {after : Array Edge} {guard : Option (Nat × Bool)}
theorem LS_frombitsE {f : FuncId} {x : Operand} (n : Int) (hP : E.X.P = P) (hc : c = { callee := .value (.func f), args := #[x], argTypes := c.argTypes }) (hx : ev S x = .sc (.va (.int .u64 n))) (hr : ∀ (n : Int) (w : World), (callFunc f [Value.int .u64 n].toArray).run P w = .ok (.value (.float .f64 n.toNat)) w) :
 LS E S ⟨dst, .call c, ty, pos, after, guard⟩ [] (fun b : Nat => b = n.toNat) (fun b => S.put dst (.sc (.va (.float .f64 b)))) (fun _ => E.A) := by
 refine LS_any (o := ⟨dst, .call c, ty, pos, after, guard⟩) (fun b : Nat => Value.float .f64 b) (fun b => b = n.toNat) fun a w r own hs => ⟨n.toNat, rfl, w, .inl rfl, ?_⟩
 subst hP; rw [hc]; have h1 := va_of (hx ▸ (ev_ok hs.toR x).1); have := hr n w; have hf : a.eval (.func f) = .func (.func f) #[] #[] := rfl
 simp [execOp, resolve, hf, h1, Deferred.ofValue, invoke, this]
end
section
attribute [local irreducible] LS WS WQ
theorem c97p (w : World) : Calls Tryz.prog 97 [.int .i64 0].toArray w (RetS (.sc (.va (.float .f64 9218868437227405312))) w) := by
 refine calls_start 1000 Tryz.func97 rfl fun E hX hP hA hQ => ?_
 repeat' first
  | refine zB ?_ | apply zI <;> intro hdec | with_reducible constructor | (refine WO_LE 850 (LS_frombitsE (f := 139) 9218868437227405312 hP rfl ?_ (fun n w => ext139 n w)) ?_; exact zq0; intro fb hfb; rw [show Int.toNat 9218868437227405312 = 9218868437227405312 from rfl] at hfb; subst hfb) | refine zs0 ?_
 all_goals try first
  | omega | exact zr0
theorem c97n (w : World) : Calls Tryz.prog 97 [.int .i64 (-1)].toArray w (RetS (.sc (.va (.float .f64 18442240474082181120))) w) := by
 refine calls_start 1000 Tryz.func97 rfl fun E hX hP hA hQ => ?_
 repeat' first
  | refine zB ?_ | apply zI <;> intro hdec | with_reducible constructor | (refine WO_LE 850 (LS_frombitsE (f := 139) 18442240474082181120 hP rfl ?_ (fun n w => ext139 n w)) ?_; exact zq0; intro fb hfb; rw [show Int.toNat 18442240474082181120 = 18442240474082181120 from rfl] at hfb; subst hfb) | refine zs0 ?_
 all_goals try first
  | omega | exact zr0
theorem c53 (w : World) (tk : Nat) (ty : Int) (t : ByteArray) (p : Nat) (htk : Hp w tk 87 (tokC ty t p)) (hW : t ∈ infW) (h43 : bt t 0 ≠ 43) : Calls Tryz.prog 53 [ptr tk].toArray w (Ret1 (fun x : Nat × Nat × Nat => .sc (.va (ptr x.1))) (fun x => (bt t 0 ≠ 45 /\ x.2.2 = 9218868437227405312) \/ (bt t 0 = 45 /\ x.2.2 = 18442240474082181120)) (fun x => Asn.sep ((fun x : Nat × Nat × Nat => Blk x.1 138 [ptr x.2.1, ptr tk, .float .f64 x.2.2]) x) ((fun x : Nat × Nat × Nat => Blk x.2.1 230 baseC) x)) w) := by
 refine calls_start 1000 Tryz.func53 rfl fun E hX hP hA hQ => ?_
 repeat' first
  | refine zA ?_ | apply zI <;> intro hdec | with_reducible constructor | (refine zr38 ?_; intro _ _)
  | (refine zcS 97 (.sc (.va (.float .f64 9218868437227405312))) ?_ ?_
     · (intro a w r own hSim; simp only [go_sem]; with_reducible exact c97p _))
  | (refine zcS 97 (.sc (.va (.float .f64 18442240474082181120))) ?_ ?_
     · (intro a w r own hSim; simp only [go_sem]; with_reducible exact c97n _))
  | refine zs23 ?_
 all_goals try first
  | (intro a w' r own hs'
     have h2 := hs'.conc (n := 0) (t := 230) (vals := baseC) zp; have h3 := h2.conc (n := 1) (t := 138) (vals := [ptr (r 0), ptr tk, .float .f64 9218868437227405312]) (by simp [St.conc, concH, Cl.conc]); exact ret1_fin2 (B1 := fun x : Nat × Nat × Nat => Blk x.1 138 [ptr x.2.1, ptr tk, .float .f64 x.2.2]) (B2 := fun x : Nat × Nat × Nat => Blk x.2.1 230 baseC) h3 (r 1, r 0, 9218868437227405312) (.inl ⟨by rw [‹t = _›]; decide, rfl⟩) (fun r => .inr rfl) zm zmb (by simp [St.conc]))
  | (intro a w' r own hs'
     have h2 := hs'.conc (n := 0) (t := 230) (vals := baseC) zp; have h3 := h2.conc (n := 1) (t := 138) (vals := [ptr (r 0), ptr tk, .float .f64 18442240474082181120]) (by simp [St.conc, concH, Cl.conc]); exact ret1_fin2 (B1 := fun x : Nat × Nat × Nat => Blk x.1 138 [ptr x.2.1, ptr tk, .float .f64 x.2.2]) (B2 := fun x : Nat × Nat × Nat => Blk x.2.1 230 baseC) h3 (r 1, r 0, 18442240474082181120) (.inr ⟨by rw [‹t = _›]; decide, rfl⟩) (fun r => .inr rfl) zm zmb (by simp [St.conc]))
  | (exfalso
     simp only [infW, List.mem_cons, List.not_mem_nil, or_false] at hW
     rcases hW with h | h | h | h | h | h | h | h | h <;> first
      | exact absurd h (by assumption)
      | exact h43 (by rw [h]; decide))
end
