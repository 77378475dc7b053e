/- Lemmas for FnFilterTree; each condition stands in its statement. -/
import Derived.Test.YtbfenkhnfflpnaaGreatDoorGac
namespace Go.Proofs.YtbfenkhnfflpnaaGreatDoor.Sx
open Go Go.RowKit
set_option maxRecDepth 100000
set_option maxHeartbeats 40000000
set_option linter.all false
theorem bytes_of {xs : List Value} (h : ∀ u ∈ xs, ∃ b : Int, u = .int .u8 b) : ∃ ns : List Int, xs = ns.map (Value.int .u8) := by
 induction xs with
 | nil => exact ⟨[], rfl⟩
 | cons x xs ih =>
   obtain ⟨ns, e⟩ := ih fun u hu => h u (List.mem_cons_of_mem _ hu)
   obtain ⟨b, e2⟩ := h x (List.mem_cons_self ..)
   exact ⟨b :: ns, by rw [e, e2]; rfl⟩
theorem fold_size (ns : List Int) (s : ByteArray) : (ns.foldl (fun r n => r.push (UInt8.ofNat n.toNat)) s).size = s.size + ns.length := by
 induction ns generalizing s with
 | nil => rfl
 | cons x ns ih =>
   rw [List.foldl_cons, ih, List.length_cons]
   have : (s.push (UInt8.ofNat x.toNat)).size = s.size + 1 := ByteArray.size_push
   omega
section
variable {E : En} {S : St} {dst : Option Tmp} {ty : TypeId} {pos : String} {after : Array Edge} {guard : Option (Nat × Bool)} {P : Program}
theorem LS_b2sR {src d e : TypeId} {x : Operand} (v : Value) (n : Nat) (xs : List Value) (j : Nat) (hP : E.X.P = P) (hx : ev S x = .sc (.va v)) (hj : (j, Row e 1 v n xs) ∈ E.A) (hxs : ∀ u ∈ xs, ∃ b : Int, u = .int .u8 b)
 (hs : P.underlying src = some (.slice e)) (hd : P.underlying d = some .string) (he : P.underlying e = some (.int .u8)) :
 LS E S ⟨dst, .convert src d x, ty, pos, after, guard⟩ [] (fun z : ByteArray => z.size = n) (fun z => S.put dst (.sc (.va (.string z)))) (fun _ => E.A) := by
 intro a w r own hsim K Q hK
 subst hP
 have hv := va_of (hx ▸ (ev_ok hsim.toR x).1)
 obtain ⟨⟨hl, hB⟩, _, _⟩ := (hsim.fact j _ hj).2
 obtain ⟨ns, hns⟩ := bytes_of hxs
 obtain ⟨z, hz, hrun⟩ : ∃ z : ByteArray, z.size = n /\ (convert src d v).run E.X.P w = Result.ok (.string z) w := by
  rcases hB with ⟨rfl, rfl⟩ | ⟨g, cap, cur, rfl, _, hg, _, _, hsz, htk⟩
  · refine ⟨.empty, rfl, ?_⟩
    rw [run_convert_bytes_string (P := E.X.P) w src d e none 0 0 hs he hd]
    rfl
  · refine ⟨ns.foldl (fun r n => r.push (UInt8.ofNat n.toNat)) ByteArray.empty, ?_, ?_⟩
    · rw [fold_size]
      have : ns.length = n * 1 := by rw [<- hl, hns, List.length_map]
      simp only [ByteArray.size_empty]
      omega
    · rw [run_convert_bytes_string (P := E.X.P) w src d e (some ⟨g, 0, none⟩) n cap hs he hd]
      refine run_bytesToString (P := E.X.P) w ⟨g, 0, none⟩ n cap ns ?_
      have := run_loadCells_list (P := E.X.P) w ⟨g, 0, none⟩ (ns.map (Value.int .u8)) (fun i u hi => by
       rw [addr_add]
       simp only [World.cell?, hg]
       rw [<- hns, <- htk, List.getElem?_take] at hi
       split at hi
       · simpa using hi
       · cases hi)
      have hlen : (ns.map (Value.int .u8)).length = n := by rw [<- hns, hl]; omega
      rw [hlen] at this
      exact this
 have hr : Res E.X.P ⟨dst, .convert src d x, ty, pos, after, guard⟩ a w (a.put dst (.string z)) w := by
  refine ⟨_, ?_, .inl ⟨_, rfl, rfl⟩⟩
  simp [execOp, hv, hrun]
 exact hr.wp (hK z hz _ _ r own (hsim.put dst (ok_va r _) trivial) (.same (put_h ..).1 (put_h ..).2 (Nat.le_refl _) fun _ _ _ _ _ => rfl))
end
theorem WC_imp {E : En} {c : Code} {k : Kt} {S : St} (A' : Facts) (h : ∀ l B, (l, B) ∈ A' -> ∃ B0, (l, B0) ∈ E.A /\ ∀ w F, B0.P w F -> B.P w F)
 (h2 : ∀ E2 : En, E2.X = E.X -> E2.A = A' -> E2.Q = E.Q -> WC E2 c k S) : WC E c k S :=
 WC_weak S A' (fun a w r own hs => ⟨own, hs.dfr, hs.sz, hs.slot, hs.slt, hs.heap, fun j B hm => by
  obtain ⟨B0, h1, h3⟩ := h j B hm
  exact ⟨(hs.fact j B0 h1).1, h3 _ _ (hs.fact j B0 h1).2⟩, hs.bnd, hs.nms, hs.fas, hs.frm, hs.rts⟩) h2
theorem Blk.row {g e size n cap : Nat} {xs : List Value} {w : World} {F : Nat -> Prop} (h : (Blk g e xs).P w F) (hn : n <= cap) (hc : cap <= maxLen) (hl : xs.length = cap * size) :
 (Row e size (.slice (some ⟨g, 0, none⟩) n cap) n (xs.take (n * size))).P w F := by
 refine ⟨⟨?_, .inr ⟨g, cap, xs.toArray, rfl, Nat.zero_le _, h.2.1, hn, hc, by simpa using hl, by simp⟩⟩, fun k => (h.1 k).trans ⟨fun e => by rw [e]; rfl, fun e => by simpa [Value.ownBlock] using e.symm⟩, fun u hu => h.2.2 u (List.mem_of_mem_take hu)⟩
 rw [List.length_take, hl]
 exact Nat.min_eq_left (Nat.mul_le_mul_right _ hn)
theorem Sim.keep {P : Program} {w0 w : World} {d : List Deferred} {rt : List (Nat × Nat)} {S : St} {A : Facts} {a : Act} {r : Nat -> Nat} {own : Nat -> Option Ent} (h : Sim ⟨P, w0, fun _ => False, d, rt⟩ S A a w r own) {g : Nat} {o : Obj} (hg : w0.heap[g]? = some o) : w.heap[g]? = some o := by
 rw [h.frm.block g (Array.getElem?_eq_some_iff.1 hg).1 (fun x => x)]
 exact hg
theorem Sim.blk {X : Cx} {S : St} {A : Facts} {a : Act} {w : World} {r : Nat -> Nat} {own : Nat -> Option Ent} (h : Sim X S A a w r own) {n t : Nat} {cs : List Value} (hm : (n, t, cs.map .va) ∈ S.h) : w.heap[r n]? = some (.cells cs.toArray t (0, 0)) := by
 obtain ⟨_, _, _, vs, e4, e5, _⟩ := h.heap n t _ hm
 have hv : vs = cs := by
  have := CL_den (by simp [Cl.known]) e5
  rw [this, List.map_map]
  exact (List.map_congr_left fun v _ => rfl).trans (List.map_id _)
 rw [e4, hv]
