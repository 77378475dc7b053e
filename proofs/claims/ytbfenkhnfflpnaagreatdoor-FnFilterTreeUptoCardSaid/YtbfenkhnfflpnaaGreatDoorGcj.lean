/- Lemmas for FnFilterTree; each condition stands in its statement. -/
import Derived.Test.YtbfenkhnfflpnaaGreatDoorGci
namespace Go.Proofs.YtbfenkhnfflpnaaGreatDoor.Sx
open Go Go.RowKit
set_option maxRecDepth 100000
set_option maxHeartbeats 40000000
set_option linter.all false
section
attribute [local irreducible] leT leH WO WX WC WD LS WS
theorem tn1 (i : Nat) : ((i : Int) + 1).toNat = i + 1 := by omega
def numT (s t : ByteArray) : Prop := t = s \/ (0 < s.size /\ (bt s 0 = 45 \/ bt s 0 = 43) /\ t = s.extract 1 s.size)
def numP (t : ByteArray) (k : Int) (p : Nat) : Prop := p <= t.size /\ allD (t.extract 0 p) /\ 1 <= (t.extract 0 p).size /\ (t.extract 0 p).size <= 18 /\ ¬ (bt (t.extract 0 p) 0 = 48 /\ 1 < (t.extract 0 p).size) /\
 ((k = 3 /\ p = t.size) \/ (k = 4 /\ p < t.size /\ bt t p = 46 /\ allD (t.extract (p + 1) t.size) /\ (t.extract (p + 1) t.size).size <= 6 /\ 1 <= (t.extract (p + 1) t.size).size))
def numR (s : ByteArray) (k : Int) : Prop := k = 0 \/ ∃ t, numT s t /\ ∃ p, numP t k p
open Classical in
theorem c107 (s : ByteArray) (hs : s.size <= 2147483647) (w : World) : Calls Tryz.prog 107 [.string s].toArray w (Ret0 (fun k : Int => .sc (.va (.int .i64 k))) (numR s) w) := by
 refine calls_start 1000 Tryz.func107 rfl fun E hX hP hA hQ => ?_
 repeat' first
  | refine zA ?_ | apply zI <;> intro hdec | with_reducible constructor
  | simp (maxSteps := 20000000) only [Tryz.f107, go_sem, zM, ↓reduceIte, reduceCtorEq, Nat.reduceAdd, Nat.reduceMul, Nat.reduceSub, Nat.reduceLeDiff, Nat.reduceEqDiff, hP, hX, Int.toNat_natCast, Int.reduceToNat]
 all_goals try first
  | omega | (unfold I64; omega) | exact zr24 | exact zr28
 · have hT : numT s (s.extract 1 s.size) := .inr ⟨szpos (by assumption), by first | exact .inl (by assumption) | exact .inr (by assumption), rfl⟩
   have hsz : (s.extract 1 s.size).size <= 2147483647 := by rw [ByteArray.size_extract]; omega
   generalize s.extract 1 s.size = T at hT hsz ⊢
   apply WC_loopF (ι := Nat) (fun i => i <= T.size) [19, 20, 21, 22, 23, 24, 25, 26, 27, 28, 29, 30, 3] (fun i => [(3, .sc (.va (.int .i64 i)))]) (fun i => T.size - i) 0 (Nat.zero_le _) hX
   exact zq43; exact zq24; intro i hi E' hX' hA' hQ' J hJ; rw [hA] at hJ; refine zl ?_; intro hX hP hA hQ
   refine vc_ok 900 _ _ _ ?_
   repeat' first
    | refine zA ?_ | apply zI <;> intro hdec | with_reducible constructor | refine zr58 ?_ | refine zr57 ?_
    | simp (maxSteps := 20000000) only [Tryz.f107, go_sem, zM, ↓reduceIte, reduceCtorEq, Nat.reduceAdd, Nat.reduceMul, Nat.reduceSub, Nat.reduceLeDiff, Nat.reduceEqDiff, hP, hX, Int.toNat_natCast, Int.reduceToNat, tn1]
   all_goals first
    | omega | (unfold I64; omega) | exact zr23 | exact zr59 | exact zr55 | exact zr44
 · have hT : numT s (s.extract 1 s.size) := .inr ⟨szpos (by assumption), by first | exact .inl (by assumption) | exact .inr (by assumption), rfl⟩
   have hsz : (s.extract 1 s.size).size <= 2147483647 := by rw [ByteArray.size_extract]; omega
   generalize s.extract 1 s.size = T at hT hsz ⊢
   apply WC_loopF (ι := Nat) (fun i => i <= T.size) [19, 20, 21, 22, 23, 24, 25, 26, 27, 28, 29, 30, 3] (fun i => [(3, .sc (.va (.int .i64 i)))]) (fun i => T.size - i) 0 (Nat.zero_le _) hX
   exact zq43; exact zq24; intro i hi E' hX' hA' hQ' J hJ; rw [hA] at hJ; refine zl ?_; intro hX hP hA hQ
   refine vc_ok 900 _ _ _ ?_
   repeat' first
    | refine zA ?_ | apply zI <;> intro hdec | with_reducible constructor | refine zr58 ?_ | refine zr57 ?_
    | simp (maxSteps := 20000000) only [Tryz.f107, go_sem, zM, ↓reduceIte, reduceCtorEq, Nat.reduceAdd, Nat.reduceMul, Nat.reduceSub, Nat.reduceLeDiff, Nat.reduceEqDiff, hP, hX, Int.toNat_natCast, Int.reduceToNat, tn1]
   all_goals first
    | omega | (unfold I64; omega) | exact zr23 | exact zr59 | exact zr55 | exact zr44
 · obtain ⟨T, hTs⟩ : ∃ T, T = s := ⟨s, rfl⟩
   have hT : numT s T := .inl hTs
   have hsz : T.size <= 2147483647 := by rw [hTs]; exact hs
   rw [<- hTs]
   apply WC_loopF (ι := Nat) (fun i => i <= T.size) [19, 20, 21, 22, 23, 24, 25, 26, 27, 28, 29, 30, 3] (fun i => [(3, .sc (.va (.int .i64 i)))]) (fun i => T.size - i) 0 (Nat.zero_le _) hX
   exact zq43; exact zq24; intro i hi E' hX' hA' hQ' J hJ; rw [hA] at hJ; refine zl ?_; intro hX hP hA hQ
   refine vc_ok 900 _ _ _ ?_
   repeat' first
    | refine zA ?_ | apply zI <;> intro hdec | with_reducible constructor | refine zr58 ?_ | refine zr57 ?_
    | simp (maxSteps := 20000000) only [Tryz.f107, go_sem, zM, ↓reduceIte, reduceCtorEq, Nat.reduceAdd, Nat.reduceMul, Nat.reduceSub, Nat.reduceLeDiff, Nat.reduceEqDiff, hP, hX, Int.toNat_natCast, Int.reduceToNat, tn1]
   all_goals first
    | omega | (unfold I64; omega) | exact zr23 | exact zr59 | exact zr55 | exact zr44
 · obtain ⟨T, hTs⟩ : ∃ T, T = s := ⟨s, rfl⟩
   have hT : numT s T := .inl hTs
   have hsz : T.size <= 2147483647 := by rw [hTs]; exact hs
   rw [<- hTs]
   apply WC_loopF (ι := Nat) (fun i => i <= T.size) [19, 20, 21, 22, 23, 24, 25, 26, 27, 28, 29, 30, 3] (fun i => [(3, .sc (.va (.int .i64 i)))]) (fun i => T.size - i) 0 (Nat.zero_le _) hX
   exact zq43; exact zq24; intro i hi E' hX' hA' hQ' J hJ; rw [hA] at hJ; refine zl ?_; intro hX hP hA hQ
   refine vc_ok 900 _ _ _ ?_
   repeat' first
    | refine zA ?_ | apply zI <;> intro hdec | with_reducible constructor | refine zr58 ?_ | refine zr57 ?_
    | simp (maxSteps := 20000000) only [Tryz.f107, go_sem, zM, ↓reduceIte, reduceCtorEq, Nat.reduceAdd, Nat.reduceMul, Nat.reduceSub, Nat.reduceLeDiff, Nat.reduceEqDiff, hP, hX, Int.toNat_natCast, Int.reduceToNat, tn1]
   all_goals first
    | omega | (unfold I64; omega) | exact zr23 | exact zr59 | exact zr55 | exact zr44
def nullW : List ByteArray := [⟨#[]⟩, ⟨#[110, 117, 108, 108]⟩, ⟨#[78, 117, 108, 108]⟩, ⟨#[78, 85, 76, 76]⟩, ⟨#[126]⟩]
def boolW : List ByteArray := [⟨#[116, 114, 117, 101]⟩, ⟨#[84, 114, 117, 101]⟩, ⟨#[84, 82, 85, 69]⟩, ⟨#[102, 97, 108, 115, 101]⟩, ⟨#[70, 97, 108, 115, 101]⟩, ⟨#[70, 65, 76, 83, 69]⟩]
def infW : List ByteArray := [⟨#[46, 105, 110, 102]⟩, ⟨#[46, 73, 110, 102]⟩, ⟨#[46, 73, 78, 70]⟩, ⟨#[45, 46, 105, 110, 102]⟩, ⟨#[45, 46, 73, 110, 102]⟩, ⟨#[45, 46, 73, 78, 70]⟩, ⟨#[43, 46, 105, 110, 102]⟩, ⟨#[43, 46, 73, 110, 102]⟩, ⟨#[43, 46, 73, 78, 70]⟩]
def nanW : List ByteArray := [⟨#[46, 110, 97, 110]⟩, ⟨#[46, 78, 97, 78]⟩, ⟨#[46, 78, 65, 78]⟩]
def knownR (s : ByteArray) (k : Int) : Prop := (k = 1 /\ s ∈ nullW) \/ (k = 2 /\ s ∈ boolW) \/ (k = 5 /\ s ∈ infW) \/ (k = 6 /\ s ∈ nanW) \/ numR s k
theorem c78 (s : ByteArray) (hs : s.size <= 2147483647) (w : World) : Calls Tryz.prog 78 [.string s].toArray w (Ret0 (fun k : Int => .sc (.va (.int .i64 k))) (knownR s) w) := by
 refine calls_start 1000 Tryz.func78 rfl fun E hX hP hA hQ => ?_
 repeat' first
  | refine zA ?_ | apply zI <;> intro hdec | with_reducible constructor
  | (refine zc0 (α := Int) 107 (fun k => .sc (.va (.int .i64 k))) (numR s) ?_ ?_
     · (intro a w r own hSim; simp only [go_sem]; exact c107 s hs _)
     intro k hk)
  | refine zs5 ?_
 all_goals (intro a w' r own hs')
 all_goals first
  | exact ⟨k, .inr (.inr (.inr (.inr hk))), ⟨_, rfl, fun r => .inr rfl⟩, hs'.frm⟩
  | exact ⟨1, .inl ⟨rfl, by rw [hdec]; simp [nullW]⟩, ⟨_, rfl, fun r => .inr rfl⟩, hs'.frm⟩
  | exact ⟨2, .inr (.inl ⟨rfl, by rw [hdec]; simp [boolW]⟩), ⟨_, rfl, fun r => .inr rfl⟩, hs'.frm⟩
  | exact ⟨5, .inr (.inr (.inl ⟨rfl, by rw [hdec]; simp [infW]⟩)), ⟨_, rfl, fun r => .inr rfl⟩, hs'.frm⟩
  | exact ⟨6, .inr (.inr (.inr (.inl ⟨rfl, by rw [hdec]; simp [nanW]⟩))), ⟨_, rfl, fun r => .inr rfl⟩, hs'.frm⟩
def plainW (s : ByteArray) : Prop := (∃ k : Int, 0 < k /\ knownR s k) \/ (0 < s.size /\ letterB (bt s 0))
theorem c108 (s : ByteArray) (hs : s.size <= 2147483647) (w : World) : Calls Tryz.prog 108 [.string s].toArray w (Ret0 (fun k : Int => .sc (.va (.int .i64 k))) (fun k => 0 < k -> plainW s) w) := by
 refine calls_start 1000 Tryz.func108 rfl fun E hX hP hA hQ => ?_
 repeat' first
  | refine zA ?_ | apply zI <;> intro hdec | with_reducible constructor
  | (refine zc0 (α := Int) 78 (fun k => .sc (.va (.int .i64 k))) (knownR s) ?_ ?_
     · (intro a w r own hSim; simp only [go_sem]; exact c78 _ hs _)
     intro x hx)
  | (refine zc0 (α := Bool) 142 (fun b => .sc (.va (.bool b))) (fun b => b = true -> 0 < s.size /\ letterB (bt s 0)) ?_ ?_
     · (intro a w r own hSim; simp only [go_sem]; exact c142 _ hs _)
     intro b hb
     cases b)
  | (refine zc0 (α := Bool) 143 (fun b => .sc (.va (.bool b))) (fun _ => True) ?_ ?_
     · (intro a w r own hSim; simp only [go_sem]; exact c143 _ hs _)
     intro b _
     cases b)
  | refine zs5 ?_
 all_goals (intro a w' r own hs')
 all_goals first
  | (exact ⟨_, fun hk => .inl ⟨_, hk, by assumption⟩, ⟨_, rfl, fun r => .inr rfl⟩, hs'.frm⟩) | (exact ⟨_, fun hk => .inr (hb rfl), ⟨_, rfl, fun r => .inr rfl⟩, hs'.frm⟩) | (exact ⟨_, fun hk => .inr (by assumption : _ /\ _), ⟨_, rfl, fun r => .inr rfl⟩, hs'.frm⟩) | (exact ⟨_, fun hk => absurd hk zi, ⟨_, rfl, fun r => .inr rfl⟩, hs'.frm⟩)
theorem c79 (s : ByteArray) (st : Int) (hs : s.size <= 2147483647) (w : World) : Calls Tryz.prog 79 [.string s, .int .i64 st].toArray w (Ret0 (fun b : Bool => .sc (.va (.bool b))) (fun b => b = true -> s.size <= 40 /\ (st = 1 -> plainW s)) w) := by
 refine calls_start 1000 Tryz.func79 rfl fun E hX hP hA hQ => ?_
 repeat' first
  | refine zA ?_ | apply zI <;> intro hdec | with_reducible constructor
  | (refine zc0 (α := Int) 108 (fun k => .sc (.va (.int .i64 k))) (fun k => 0 < k -> plainW s) ?_ ?_
     · (intro a w r own hSim; simp only [go_sem]; exact c108 _ hs _)
     intro x hx)
  | (refine zc0 (α := Bool) 109 (fun b => .sc (.va (.bool b))) (fun _ => True) ?_ ?_
     · (intro a w r own hSim; simp only [go_sem]; exact c109 _ hs _)
     intro b _
     cases b)
  | (refine zc0 (α := Bool) 110 (fun b => .sc (.va (.bool b))) (fun _ => True) ?_ ?_
     · (intro a w r own hSim; simp only [go_sem]; exact c110 _ hs _)
     intro b _
     cases b)
  | (refine zc0 (α := Bool) 111 (fun b => .sc (.va (.bool b))) (fun _ => True) ?_ ?_
     · (intro a w r own hSim; simp only [go_sem]; exact c111 _ hs _)
     intro b _
     cases b)
  | (refine zc0 (α := Bool) 112 (fun b => .sc (.va (.bool b))) (fun _ => True) ?_ ?_
     · (intro a w r own hSim; simp only [go_sem]; exact c112 _ hs _)
     intro b _
     cases b)
  | refine zs5 ?_
 all_goals (intro a w' r own hs')
 all_goals first
  | (exact ⟨_, fun hk => absurd hk zi, ⟨_, rfl, fun r => .inr rfl⟩, hs'.frm⟩) | (refine ⟨_, fun hk => ⟨zo, fun h1 => by omega⟩, ⟨_, rfl, fun r => .inr rfl⟩, hs'.frm⟩) | (refine ⟨_, fun hk => ⟨zo, fun h1 => hx (by simpa using hk)⟩, ⟨_, rfl, fun r => .inr rfl⟩, hs'.frm⟩)
