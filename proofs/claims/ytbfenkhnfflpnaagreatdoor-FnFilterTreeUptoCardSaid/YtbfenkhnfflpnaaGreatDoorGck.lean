/- Lemmas for FnFilterTree; each condition stands in its statement. -/
import Derived.Test.YtbfenkhnfflpnaaGreatDoorGcj
namespace Go.Proofs.YtbfenkhnfflpnaaGreatDoor.Sx
open Go Go.RowKit
set_option maxRecDepth 100000
set_option maxHeartbeats 40000000
set_option linter.all false
section
attribute [local irreducible] leT leH WO WX WC WD LS WS
def goodS (v : ByteArray) (st : Int) : Prop := 1 <= st /\ st <= 5 /\ v.size <= 40 /\ (st = 1 -> v = ⟨#[]⟩ \/ plainW v)
theorem c36 (v an tg : ByteArray) (st lf : Int) (fl : Bool) (g : Nat) (sa : Option Addr) (sn sc : Nat) (hs : v.size <= 2147483647) (hst : 1 <= st /\ st <= 5) (w : World) (hg : w.heap[g]? = some (.cells [.int .i64 63, .int .i64 lf, .slice sa sn sc].toArray 60 (0, 0))) :
 Calls Tryz.prog 36 [.pointer (some ⟨g, 0, none⟩), .agg (treeC 1 v an tg st none 0 0).toArray, .bool fl].toArray w (Ret0 (fun x : ByteArray × ByteArray × ByteArray × Int => .ag ((treeC 1 x.1 x.2.1 x.2.2.1 x.2.2.2 none 0 0).map .va)) (fun x => goodS x.1 x.2.2.2) w) := by
 obtain ⟨z, hz, hz40⟩ : ∃ z, v.extract ((0 : Nat) : Int).toNat (imin (↑v.size) 40).toNat = z /\ z.size <= 40 := by
  refine ⟨_, rfl, ?_⟩
  rw [ByteArray.size_extract]
  unfold imin
  split <;> omega
 refine calls_start 1000 Tryz.func36 rfl fun E hX hP hA hQ => ?_
 repeat' first
  | refine zA ?_ | apply zI <;> intro hdec | with_reducible constructor
  | (refine zcS 33 (.sc (.va (.bool true))) ?_ ?_
     · (intro a w r own hSim; simp only [go_sem]; rw [hX] at hSim; with_reducible exact c33 _ g lf sa sn sc _ (hSim.keep hg) zi))
  | (refine zc0 (α := Int) 78 (fun k => .sc (.va (.int .i64 k))) (knownR z) ?_ ?_
     · (intro a w r own hSim; simp only [go_sem]; with_reducible exact c78 z zo _)
     intro x hx)
  | (refine zc0 (α := Bool) 79 (fun b => .sc (.va (.bool b))) (fun b => b = true -> z.size <= 40 /\ (st = 1 -> plainW z)) ?_ ?_
     · (intro a w r own hSim; simp only [go_sem]; with_reducible exact c79 z st zo _)
     intro b hb
     cases b)
  | (refine zc0 (α := Bool) 79 (fun b => .sc (.va (.bool b))) (fun b => b = true -> z.size <= 40 /\ ((3 : Int) = 1 -> plainW z)) ?_ ?_
     · (intro a w r own hSim; simp only [go_sem]; with_reducible exact c79 z 3 zo _)
     intro b hb
     cases b)
  | (cases fl)
  | simp (maxSteps := 20000000) only [Tryz.f36, go_sem, zM, ↓reduceIte, reduceCtorEq, Nat.reduceAdd, Nat.reduceMul, Nat.reduceSub, Nat.reduceLeDiff, Nat.reduceEqDiff, hP, hX, treeC, hz]
 all_goals try first
  | omega | (unfold imin; split <;> omega)
 all_goals (intro a w' r own hs')
 all_goals first
  | (refine ⟨(z, an, tg, st), ?_, ⟨_, rfl, fun r => ⟨_, rfl, CL_va (treeC 1 z an tg st none 0 0)⟩⟩, hs'.frm⟩
     refine ⟨by simp only; omega, by simp only; omega, by first | (simp only; omega) | exact (by decide : (⟨#[118]⟩ : ByteArray).size <= 40), fun h => ?_⟩
     first
      | exact absurd h zi
      | exact .inl (by assumption)
      | exact .inr ((hb rfl).2 h)
      | (simp only at h; omega))
  | (refine ⟨(z, an, tg, 3), ?_, ⟨_, rfl, fun r => ⟨_, rfl, CL_va (treeC 1 z an tg 3 none 0 0)⟩⟩, hs'.frm⟩
     refine ⟨by simp only; omega, by simp only; omega, by first | (simp only; omega) | exact (by decide : (⟨#[118]⟩ : ByteArray).size <= 40), fun h => ?_⟩
     first
      | exact absurd h zi
      | exact .inl (by assumption)
      | exact .inr ((hb rfl).2 h)
      | (simp only at h; omega))
  | (refine ⟨(z, ⟨#[]⟩, ⟨#[]⟩, st), ?_, ⟨_, rfl, fun r => ⟨_, rfl, CL_va (treeC 1 z ⟨#[]⟩ ⟨#[]⟩ st none 0 0)⟩⟩, hs'.frm⟩
     refine ⟨by simp only; omega, by simp only; omega, by first | (simp only; omega) | exact (by decide : (⟨#[118]⟩ : ByteArray).size <= 40), fun h => ?_⟩
     first
      | exact absurd h zi
      | exact .inl (by assumption)
      | exact .inr ((hb rfl).2 h)
      | (simp only at h; omega))
  | (refine ⟨(⟨#[118]⟩, an, tg, st), ?_, ⟨_, rfl, fun r => ⟨_, rfl, CL_va (treeC 1 ⟨#[118]⟩ an tg st none 0 0)⟩⟩, hs'.frm⟩
     refine ⟨by simp only; omega, by simp only; omega, by first | (simp only; omega) | exact (by decide : (⟨#[118]⟩ : ByteArray).size <= 40), fun h => ?_⟩
     first
      | exact absurd h zi
      | exact .inl (by assumption)
      | exact .inr ((hb rfl).2 h)
      | (simp only at h; omega))
  | (refine ⟨(⟨#[118]⟩, an, tg, st), ?_, ⟨_, rfl, fun r => ⟨_, rfl, CL_va (treeC 1 ⟨#[118]⟩ an tg st none 0 0)⟩⟩, hs'.frm⟩
     refine ⟨by simp only; omega, by simp only; omega, (by decide : (⟨#[118]⟩ : ByteArray).size <= 40), fun h => .inr (.inr ⟨(by decide : 0 < (⟨#[118]⟩ : ByteArray).size), (by unfold letterB; decide : letterB (bt ⟨#[118]⟩ 0))⟩)⟩)
  | (refine ⟨(⟨#[118]⟩, an, tg, 3), ?_, ⟨_, rfl, fun r => ⟨_, rfl, CL_va (treeC 1 ⟨#[118]⟩ an tg 3 none 0 0)⟩⟩, hs'.frm⟩
     refine ⟨by simp only; omega, by simp only; omega, by first | (simp only; omega) | exact (by decide : (⟨#[118]⟩ : ByteArray).size <= 40), fun h => ?_⟩
     first
      | exact absurd h zi
      | exact .inl (by assumption)
      | exact .inr ((hb rfl).2 h)
      | (simp only at h; omega))
