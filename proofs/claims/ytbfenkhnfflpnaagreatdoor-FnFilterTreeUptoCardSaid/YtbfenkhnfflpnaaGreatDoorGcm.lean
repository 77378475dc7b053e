/- Lemmas for FnFilterTree; each condition stands in its statement. -/
import Derived.Test.YtbfenkhnfflpnaaGreatDoorGcl
import Derived.Test.YtbfenkhnfflpnaaGreatDoorCards
import Derived.Deep.Slices
import Derived.OpenShut
namespace Go.Proofs.YtbfenkhnfflpnaaGreatDoor.Sx
open Go Go.RowKit
set_option maxRecDepth 100000
set_option maxHeartbeats 40000000
set_option linter.all false
theorem bulk_mem {H : Type} {d : DataW H} : ∀ {l : List (DataW H)}, d ∈ l -> Rows.uptoBulk d <= Rows.uptoBulkAll l
 | [], h => by cases h
 | x :: r, h => by
   simp only [Rows.uptoBulkAll]
   rcases List.mem_cons.1 h with rfl | e
   · omega
   · have := bulk_mem e; omega
theorem bulk_pos {H : Type} (d : DataW H) : 1 <= Rows.uptoBulk d := by
 cases d with
 | lit l => cases l <;> simp [Rows.uptoBulk]
 | nil => simp [Rows.uptoBulk]
 | ptr d => simp [Rows.uptoBulk]
 | slice elems spare => simp [Rows.uptoBulk]
 | agg parts => simp [Rows.uptoBulk]
 | iface t d => simp [Rows.uptoBulk]
 | map entries => simp [Rows.uptoBulk]
 | held h => simp [Rows.uptoBulk]
theorem bulk_len {H : Type} : ∀ l : List (DataW H), l.length <= Rows.uptoBulkAll l
 | [] => Nat.zero_le _
 | x :: r => by
   have := bulk_pos x
   have := bulk_len r
   simp only [Rows.uptoBulkAll, List.length_cons]
   omega
theorem bulk_str {H : Type} {s : ByteArray} {m : Nat} (h : Rows.uptoBulk (DataW.lit (H := H) (.string s.data.toList)) <= m) : s.size <= m := by
 simp only [Rows.uptoBulk, Array.length_toList] at h
 have e : s.data.size = s.size := rfl
 omega
theorem cells6 {l : List Value} (h : l.length = 6) : ∃ a b c d e f, l = [a, b, c, d, e, f] := by
 match l, h with
 | [a, b, c, d, e, f], _ => exact ⟨a, b, c, d, e, f, rfl⟩
theorem co24 : Tryz.prog.cellsOf 24 = 6 := by kernel_rfl
theorem co3 : Tryz.prog.cellsOf 3 = 1 := by kernel_rfl
theorem co9 : Tryz.prog.cellsOf 9 = 1 := by kernel_rfl
theorem co22 : Tryz.prog.cellsOf 22 = 1 := by kernel_rfl
section
variable {H : Type} {enc : TypeId × Value -> H} {W : World} {held : Bool}
theorem tree_open {fuel : Nat} {cs : List Value} {x : DataW H × List MemPlace} (h : DataW.trod enc Tryz.prog W 0 (fun _ => true) held fuel 24 cs = some x) (hb : Rows.uptoBulk x.1 <= 1048576) :
 ∃ k v an tg st ka kn kc n y, cs = treeC k v an tg st ka kn kc /\ v.size <= 1048576 /\ an.size <= 1048576 /\ tg.size <= 1048576 /\
  DataW.trod enc Tryz.prog W 0 (fun _ => true) held n 22 [.slice ka kn kc] = some y /\ Rows.uptoBulk y.1 <= 1048576 := by
 obtain ⟨xs, n, _, rfl, hl, hlen, hf⟩ := DataW.trod_struct Tryz.underlying24 h
 rw [co24] at hl
 obtain ⟨a, b, c, d, e, f, rfl⟩ := cells6 hl
 have e0 : DataW.trod enc Tryz.prog W 0 (fun _ => true) held n 3 [a] = xs[0]? := by
  have h := hf 0 _ rfl
  change DataW.trod enc Tryz.prog W 0 (fun _ => true) held n 3 (([a, b, c, d, e, f].drop 0).take (Tryz.prog.cellsOf 3)) = xs[0]? at h
  rwa [co3] at h
 have e1 : DataW.trod enc Tryz.prog W 0 (fun _ => true) held n 9 [b] = xs[1]? := by
  have h := hf 1 _ rfl
  change DataW.trod enc Tryz.prog W 0 (fun _ => true) held n 9 (([a, b, c, d, e, f].drop 1).take (Tryz.prog.cellsOf 9)) = xs[1]? at h
  rwa [co9] at h
 have e2 : DataW.trod enc Tryz.prog W 0 (fun _ => true) held n 9 [c] = xs[2]? := by
  have h := hf 2 _ rfl
  change DataW.trod enc Tryz.prog W 0 (fun _ => true) held n 9 (([a, b, c, d, e, f].drop 2).take (Tryz.prog.cellsOf 9)) = xs[2]? at h
  rwa [co9] at h
 have e3 : DataW.trod enc Tryz.prog W 0 (fun _ => true) held n 9 [d] = xs[3]? := by
  have h := hf 3 _ rfl
  change DataW.trod enc Tryz.prog W 0 (fun _ => true) held n 9 (([a, b, c, d, e, f].drop 3).take (Tryz.prog.cellsOf 9)) = xs[3]? at h
  rwa [co9] at h
 have e4 : DataW.trod enc Tryz.prog W 0 (fun _ => true) held n 3 [e] = xs[4]? := by
  have h := hf 4 _ rfl
  change DataW.trod enc Tryz.prog W 0 (fun _ => true) held n 3 (([a, b, c, d, e, f].drop 4).take (Tryz.prog.cellsOf 3)) = xs[4]? at h
  rwa [co3] at h
 have e5 : DataW.trod enc Tryz.prog W 0 (fun _ => true) held n 22 [f] = xs[5]? := by
  have h := hf 5 _ rfl
  change DataW.trod enc Tryz.prog W 0 (fun _ => true) held n 22 (([a, b, c, d, e, f].drop 5).take (Tryz.prog.cellsOf 22)) = xs[5]? at h
  rwa [co22] at h
 replace hlen : xs.length = 6 := hlen
 match xs, hlen, hb, e0, e1, e2, e3, e4, e5 with
 | [y0, y1, y2, y3, y4, y5], _, hb, e0, e1, e2, e3, e4, e5 =>
   simp only [List.getElem?_cons_zero, List.getElem?_cons_succ] at e0 e1 e2 e3 e4 e5
   obtain ⟨z0, c0, rfl, _⟩ := DataW.trod_int Tryz.underlying3 e0
   obtain ⟨z1, c1, rfl, _⟩ := DataW.trod_string Tryz.underlying9 e1
   obtain ⟨z2, c2, rfl, _⟩ := DataW.trod_string Tryz.underlying9 e2
   obtain ⟨z3, c3, rfl, _⟩ := DataW.trod_string Tryz.underlying9 e3
   obtain ⟨z4, c4, rfl, _⟩ := DataW.trod_int Tryz.underlying3 e4
   simp only [List.map_cons, List.map_nil, Rows.uptoBulk, Rows.uptoBulkAll, Array.length_toList] at hb
   have h1 : z1.data.size = z1.size := rfl
   have h2 : z2.data.size = z2.size := rfl
   have h3 : z3.data.size = z3.size := rfl
   simp only [List.cons.injEq, and_true] at c0 c1 c2 c3 c4
   subst c0 c1 c2 c3 c4
   rcases Deep.open_slice Tryz.underlying22 e5 with ⟨c5, rfl⟩ | ⟨A, len, cap, m, n', D, Pl, c5, _, _, _, _, hx, _⟩
   · simp only [List.cons.injEq, and_true] at c5
     subst c5
     exact ⟨z0, z1, z2, z3, z4, none, 0, 0, n, _, rfl, by omega, by omega, by omega, e5, by simp [Rows.uptoBulk]⟩
   · simp only [List.cons.injEq, and_true] at c5
     subst c5
     exact ⟨z0, z1, z2, z3, z4, some A, len, cap, n, _, rfl, by omega, by omega, by omega, e5, by omega⟩
theorem cells_at {a : Addr} {n : Nat} {cs : List Value} (h : W.cells? 0 a n = some cs) : cs.length = n /\ ∀ j u, cs[j]? = some u -> W.cell? (a.add j) = some u := by
 obtain ⟨_, h2, h3⟩ := World.cells?_some h
 refine ⟨h2, fun j u hj => ?_⟩
 have hjn : j < n := by
  rw [<- h2]
  exact (List.getElem?_eq_some_iff.1 hj).1
 rw [h3 j hjn]
 exact hj
theorem inT_of : ∀ (d : Nat) {n : Nat} {ka : Option Addr} {kn kc : Nat} {y : DataW H × List MemPlace}, DataW.trod enc Tryz.prog W 0 (fun _ => true) held n 22 [.slice ka kn kc] = some y ->
 Rows.uptoBulk y.1 <= 1048576 -> InT d W (fun k => k < W.heap.size) ka kn
 | 0, _, _, _, _, _, _, _ => trivial
 | d + 1, n, ka, kn, kc, y, h, hb => by
   rcases Deep.open_slice Tryz.underlying22 h with ⟨c5, rfl⟩ | ⟨A, len, cap, m, n', D, Pl, c5, _, hlc, _, hm, rfl, hel⟩
   · simp only [List.cons.injEq, and_true, Value.slice.injEq] at c5
     obtain ⟨rfl, rfl, rfl⟩ := c5
     exact ⟨by omega, .inl rfl, fun i hi => absurd hi (Nat.not_lt_zero _)⟩
   · simp only [List.cons.injEq, and_true, Value.slice.injEq] at c5
     obtain ⟨rfl, rfl, rfl⟩ := c5
     simp only [if_true] at hm
     subst hm
     simp only [Rows.uptoBulk] at hb
     have hl := bulk_len ((List.range kn).map D)
     rw [List.length_map, List.length_range] at hl
     refine ⟨by omega, .inr rfl, fun i hi => ?_⟩
     obtain ⟨cs, h1, h2⟩ := hel i (by omega)
     rw [co24] at h1
     have hD : Rows.uptoBulk (D i) <= 1048576 := by
      have := bulk_mem (d := D i) (l := (List.range kn).map D) (List.mem_map.2 ⟨i, List.mem_range.2 hi, rfl⟩)
      omega
     obtain ⟨k, v, an, tg, st, ka', kn', kc', n2, y2, rfl, hv, han, htg, h3, h4⟩ := tree_open h2 hD
     have hblk : A.block < W.heap.size := by
      have := World.cells?_block h1 (by decide)
      rwa [add_block] at this
     refine ⟨hblk, k, v, an, tg, st, ka', kn', kc', (cells_at h1).2, hv, han, htg, inT_of d h3 h4⟩
end
