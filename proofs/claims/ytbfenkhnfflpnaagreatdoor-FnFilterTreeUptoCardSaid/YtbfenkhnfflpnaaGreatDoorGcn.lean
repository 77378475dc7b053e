/- Lemmas for FnFilterTree; each condition stands in its statement. -/
import Derived.Test.YtbfenkhnfflpnaaGreatDoorGcm
import Derived.Lib.LaidU8
import Derived.Lib.LaidTab
import Derived.MakeChecks
namespace Go.Proofs.YtbfenkhnfflpnaaGreatDoor.Sx
open Go Go.RowKit
set_option maxRecDepth 100000
set_option maxHeartbeats 40000000
set_option linter.all false
section
variable {W : World}
theorem var_of {n : String} {d : DataW Unit} {g t : Nat} (h : Lib.VarReads Tryz.prog W n d) (hg : Tryz.prog.globalNamed n = some g) (ht : (Tryz.prog.globals[g]?).map (·.type) = some t) :
 ∃ (cs : Array Value) (fuel : Nat) (p : List MemPlace), W.var? Tryz.prog n = some cs /\ (∀ i, W.cell? ⟨g, i, none⟩ = cs.toList[i]?) /\
  DataW.trod (fun _ => ()) Tryz.prog W 0 (fun _ => true) false fuel t cs.toList = some (d, p) := by
 obtain ⟨g', t', cs, fuel, p, h1, h2, h3, h4⟩ := h
 obtain rfl := Option.some.inj (hg.symm.trans h1)
 obtain rfl := Option.some.inj (ht.symm.trans h2)
 exact ⟨cs, fuel, p, h3, fun i => by rw [World.var?_cell hg h3 i, Array.getElem?_toList], h4⟩
theorem cell_lt {a : Addr} {v : Value} (h : W.cell? a = some v) : a.block < W.heap.size := by
 unfold World.cell? at h
 cases hb : W.heap[a.block]? with
 | none => rw [hb] at h; cases h
 | some o => exact (Array.getElem?_eq_some_iff.1 hb).1
theorem cell_spot {b o : Nat} {s : Option (Nat × Nat)} {v : Value} : ∀ {a : Addr}, W.cell? a = some v -> a = ⟨a.block, a.off, none⟩
 | ⟨b, o, none⟩, _ => rfl
 | ⟨b, o, some s⟩, h => by
   unfold World.cell? at h
   split at h
   · simp at h
   · cases h
theorem slice_el {fuel : Nat} {t e : TypeId} {cs : List Value} {l : List (DataW Unit)} {p : List MemPlace} (ht : Tryz.prog.underlying t = some (.slice e)) (he : 0 < Tryz.prog.cellsOf e) (hl : 0 < l.length)
 (h : DataW.trod (fun _ => ()) Tryz.prog W 0 (fun _ => true) false fuel t cs = some (.slice l [], p)) :
 ∃ b o cp n, cs = [.slice (some ⟨b, o, none⟩) l.length cp] /\ b < W.heap.size /\ ∀ i d, l[i]? = some d -> ∃ cs' q, (∀ j u, cs'[j]? = some u -> W.cell? ⟨b, o + i * Tryz.prog.cellsOf e + j, none⟩ = some u) /\
  DataW.trod (fun _ => ()) Tryz.prog W 0 (fun _ => true) false n e cs' = some (d, q) := by
 rcases Deep.open_slice ht h with ⟨_, hx⟩ | ⟨A, len, cap, m, n, D, Pl, rfl, _, hlc, _, hm, hx, hel⟩
 · cases hx
 · simp only [if_true] at hm
   subst hm
   have hx1 := (Prod.mk.inj hx).1
   simp only [DataW.slice.injEq] at hx1
   obtain ⟨hx1, hx2⟩ := hx1
   have hlen : l.length = len := by rw [hx1, List.length_map, List.length_range]
   have hcap : m - len = 0 := by
    have := congrArg List.length hx2
    simpa using this.symm
   obtain rfl : m = len := by omega
   have hel' : ∀ i d, l[i]? = some d -> ∃ cs' q, (∀ j u, cs'[j]? = some u -> W.cell? ((A.add (i * Tryz.prog.cellsOf e)).add j) = some u) /\ cs'.length = Tryz.prog.cellsOf e /\
    DataW.trod (fun _ => ()) Tryz.prog W 0 (fun _ => true) false n e cs' = some (d, q) := fun i d hd => by
    have hi : i < l.length := (List.getElem?_eq_some_iff.1 hd).1
    obtain ⟨cs', h1, h2⟩ := hel i (by omega)
    have hD : D i = d := by
     rw [hx1, List.getElem?_map, List.getElem?_range (by omega)] at hd
     exact Option.some.inj hd
    rw [hD] at h2
    exact ⟨cs', _, (cells_at h1).2, (cells_at h1).1, h2⟩
   obtain ⟨d0, hd0⟩ : ∃ d0, l[0]? = some d0 := ⟨_, List.getElem?_eq_getElem hl⟩
   obtain ⟨cs0, q0, hc0, hl0, _⟩ := hel' 0 d0 hd0
   obtain ⟨u0, hu0⟩ : ∃ u0, cs0[0]? = some u0 := ⟨_, List.getElem?_eq_getElem (by omega)⟩
   have hcell := hc0 0 u0 hu0
   obtain ⟨b, o, s⟩ := A
   cases s with
   | some s =>
     exfalso
     unfold World.cell? at hcell
     split at hcell
     · simp [Addr.add] at hcell
     · cases hcell
   | none =>
     refine ⟨b, o, m, n, by rw [hlen], by simpa only [add_block] using cell_lt hcell, fun i d hd => ?_⟩
     obtain ⟨cs', q, h1, _, h2⟩ := hel' i d hd
     exact ⟨cs', q, fun j u hj => by have h := h1 j u hj; rwa [addr_add, addr_add] at h, h2⟩
theorem trod_fl {t : TypeId} {k : FloatKind} {fuel : Nat} {cs : List Value} {x : DataW Unit × List MemPlace} (ht : Tryz.prog.underlying t = some (.float k))
 (h : DataW.trod (fun _ => ()) Tryz.prog W 0 (fun _ => true) false fuel t cs = some x) : ∃ b, cs = [.float k b] := by
 cases fuel with
 | zero => simp [DataW.trod] at h
 | succ m =>
   unfold DataW.trod at h
   rw [ht] at h
   split at h <;> first | (rename_i h1; simp only [Option.some.injEq, TypeDesc.float.injEq, reduceCtorEq] at *; done) | skip
   all_goals simp_all
theorem trod_if {t : TypeId} {ms : Array (String × TypeId)} {fuel : Nat} {cs : List Value} {n : String} {d : DataW Unit} {p : List MemPlace} (ht : Tryz.prog.underlying t = some (.interface ms))
 (h : DataW.trod (fun _ => ()) Tryz.prog W 0 (fun _ => true) false fuel t cs = some (.iface n d, p)) : ∃ u v, cs = [.iface u v] := by
 cases fuel with
 | zero => simp [DataW.trod] at h
 | succ m =>
   unfold DataW.trod at h
   rw [ht] at h
   split at h <;> first | (simp only [reduceCtorEq, Option.some.injEq] at *; done) | exact ⟨_, _, rfl⟩ | (simp at h; done) | skip
end
theorem c1_3 : Tryz.prog.cellsOf 3 = 1 := by kernel_rfl
theorem c1_68 : Tryz.prog.cellsOf 68 = 1 := by kernel_rfl
theorem c1_35 : Tryz.prog.cellsOf 35 = 1 := by kernel_rfl
theorem c1_224 : Tryz.prog.cellsOf 224 = 1 := by kernel_rfl
theorem c2_341 : Tryz.prog.cellsOf 341 = 2 := by kernel_rfl
theorem c2_335 : Tryz.prog.cellsOf 335 = 2 := by kernel_rfl
theorem gy_of {W : World} (hL : laidMetH Tryz.prog Rows.fnFilterTreeUptoRow.laid W) : Gy W (fun k => k < W.heap.size) := by
 rw [MakeChecks.laidMetH_plain _ _ _ (by kernel_rfl)] at hL
 have R : ∀ n d, (n, d) ∈ Rows.fnFilterTreeUptoRow.laid -> Lib.VarReads Tryz.prog W n d := fun n d hm => Lib.laidMet.reads hL hm
 have m0 := R "strconv.ErrSyntax" Rows.laid_strconv_ErrSyntax (by simp [Rows.fnFilterTreeUptoRow])
 have m1 := R "strconv.ErrRange" Rows.laid_strconv_ErrRange (by simp [Rows.fnFilterTreeUptoRow])
 have m2 := R "internal/strconv.optimize" Rows.laid_internal_strconv_optimize (by simp [Rows.fnFilterTreeUptoRow])
 have m3 := R "internal/strconv.uint64pow10" Rows.laid_internal_strconv_uint64pow10 (by simp [Rows.fnFilterTreeUptoRow])
 have m6 := R "internal/strconv.float64info" Rows.laid_internal_strconv_float64info (by simp [Rows.fnFilterTreeUptoRow])
 have m8 := R "internal/strconv.powtab" Rows.laid_internal_strconv_powtab (by simp [Rows.fnFilterTreeUptoRow])
 have m9 := R "internal/strconv.float64pow10" Rows.laid_internal_strconv_float64pow10 (by simp [Rows.fnFilterTreeUptoRow])
 have m10 := R "internal/strconv.pow10Tab" Rows.laid_internal_strconv_pow10Tab (by simp [Rows.fnFilterTreeUptoRow])
 have m11 := R "internal/strconv.leftcheats" Rows.laid_internal_strconv_leftcheats (by simp [Rows.fnFilterTreeUptoRow])
 clear R hL
 have e0 : ∃ t v, W.cell? ⟨0, 0, none⟩ = some (.iface t v) := by
  obtain ⟨cs, fuel, p, _, hc, hd⟩ := var_of (g := 0) (t := 70) m0 (by kernel_rfl) (by kernel_rfl)
  obtain ⟨u, v, h⟩ := trod_if Tryz.underlying70 hd
  exact ⟨u, v, by rw [hc, h]; rfl⟩
 have e1 : ∃ t v, W.cell? ⟨1, 0, none⟩ = some (.iface t v) := by
  obtain ⟨cs, fuel, p, _, hc, hd⟩ := var_of (g := 1) (t := 70) m1 (by kernel_rfl) (by kernel_rfl)
  obtain ⟨u, v, h⟩ := trod_if Tryz.underlying70 hd
  exact ⟨u, v, by rw [hc, h]; rfl⟩
 have e2 : W.cell? ⟨2, 0, none⟩ = some (.bool true) := by
  obtain ⟨cs, fuel, p, _, hc, hd⟩ := var_of (g := 2) (t := 4) m2 (by kernel_rfl) (by kernel_rfl)
  obtain ⟨b, h1, h2⟩ := DataW.trod_bool Tryz.underlying4 hd
  have h3 : b = true := by
   have := (Prod.mk.inj h2).1
   simpa [Rows.laid_internal_strconv_optimize] using this.symm
  rw [hc, h1, h3]
  rfl
 have e3 : Lib.TabIs Tryz.prog W "internal/strconv.uint64pow10" .u64 Lib.pow10Tab := by
  obtain ⟨cs, fuel, p, hv, hc, hd⟩ := var_of (g := 3) (t := 274) m3 (by kernel_rfl) (by kernel_rfl)
  rw [show Rows.laid_internal_strconv_uint64pow10 = Lib.tabData .u64 Lib.pow10Tab by kernel_rfl] at hd
  unfold Lib.TabIs
  rw [hv, <- Lib.cells_of_tab Tryz.underlying274 Tryz.underlying224 c1_224 (by kernel_rfl) hd]
 have e3t : ∃ t c, W.heap[3]? = some (.cells (Lib.pow10Tab.map fun z => Value.int .u64 z).toArray t c) := by
  have h := e3
  unfold Lib.TabIs World.var? at h
  rw [show Tryz.prog.globalNamed "internal/strconv.uint64pow10" = some 3 by kernel_rfl] at h
  simp only [Option.bind_some] at h
  split at h
  · rename_i cs el fr hh
    exact ⟨el, fr, by rw [hh, Option.some.inj h]⟩
  · cases h
 have e3c : ∀ i, i < 20 -> W.cell? ⟨3, i, none⟩ = some (.int .u64 (10 ^ i)) := fun i hi => by
  rw [Lib.TabIs.cell e3 (show Tryz.prog.globalNamed "internal/strconv.uint64pow10" = some 3 by kernel_rfl) i (by rw [show Lib.pow10Tab.length = 20 by kernel_rfl]; exact hi)]
  have h : ∀ i, i < 20 -> Lib.pow10Tab.getD i 0 = 10 ^ i := by decide +kernel
  rw [h i hi]
 have e6 : W.cell? ⟨6, 0, none⟩ = some (.int .u64 52) /\ W.cell? ⟨6, 1, none⟩ = some (.int .u64 11) /\ W.cell? ⟨6, 2, none⟩ = some (.int .i64 (-1023)) := by
  obtain ⟨cs, fuel, p, _, hc, hd⟩ := var_of (g := 6) (t := 288) m6 (by kernel_rfl) (by kernel_rfl)
  obtain ⟨xs, n, _, hx, hl, hlen, hf⟩ := DataW.trod_struct Tryz.underlying288 hd
  rw [show Tryz.prog.cellsOf 288 = 3 by kernel_rfl] at hl
  replace hlen : xs.length = 3 := hlen
  match xs, hlen, hx, hf with
  | [y0, y1, y2], _, hx, hf =>
    have f0 : DataW.trod (fun _ => ()) Tryz.prog W 0 (fun _ => true) false n 35 ((cs.toList.drop 0).take (Tryz.prog.cellsOf 35)) = some y0 := hf 0 _ rfl
    have f1 : DataW.trod (fun _ => ()) Tryz.prog W 0 (fun _ => true) false n 35 ((cs.toList.drop 1).take (Tryz.prog.cellsOf 35)) = some y1 := hf 1 _ rfl
    have f2 : DataW.trod (fun _ => ()) Tryz.prog W 0 (fun _ => true) false n 3 ((cs.toList.drop 2).take (Tryz.prog.cellsOf 3)) = some y2 := hf 2 _ rfl
    rw [c1_35] at f0 f1
    rw [c1_3] at f2
    obtain ⟨z0, g0, rfl, _⟩ := DataW.trod_int Tryz.underlying35 f0
    obtain ⟨z1, g1, rfl, _⟩ := DataW.trod_int Tryz.underlying35 f1
    obtain ⟨z2, g2, rfl, _⟩ := DataW.trod_int Tryz.underlying3 f2
    have hx := (Prod.mk.inj hx).1
    simp only [Rows.laid_internal_strconv_float64info, List.map_cons, List.map_nil, DataW.agg.injEq, List.cons.injEq, DataW.lit.injEq, Lit.int.injEq, true_and, and_true] at hx
    obtain ⟨rfl, rfl, rfl⟩ := hx
    rw [hc, hc, hc]
    refine ⟨?_, ?_, ?_⟩
    · have := congrArg (·[0]?) g0
      simpa [List.getElem?_take, List.getElem?_drop] using this
    · have := congrArg (·[0]?) g1
      simpa [List.getElem?_take, List.getElem?_drop] using this
    · have := congrArg (·[0]?) g2
      simpa [List.getElem?_take, List.getElem?_drop] using this
 have e8 : ∃ b o cp, b < W.heap.size /\ W.cell? ⟨8, 0, none⟩ = some (.slice (some ⟨b, o, none⟩) 9 cp) /\ ∀ i v, [1, 3, 6, 9, 13, 16, 19, 23, 26][i]? = some v -> W.cell? ⟨b, o + i, none⟩ = some (.int .i64 v) := by
  obtain ⟨cs, fuel, p, _, hc, hd⟩ := var_of (g := 8) (t := 331) m8 (by kernel_rfl) (by kernel_rfl)
  rw [show Rows.laid_internal_strconv_powtab = .slice ([1, 3, 6, 9, 13, 16, 19, 23, 26].map fun z => (.lit (.int .i64 z) : DataW Unit)) [] by kernel_rfl] at hd
  obtain ⟨b, o, cp, n, h1, h2, h3⟩ := slice_el Tryz.underlying331 (by rw [c1_3]; decide) (by decide) hd
  refine ⟨b, o, cp, h2, by rw [hc, h1]; rfl, fun i v hv => ?_⟩
  obtain ⟨cs', q, h4, h5⟩ := h3 i (.lit (.int .i64 v)) (by rw [List.getElem?_map, hv]; rfl)
  obtain ⟨z, rfl, hz, _⟩ := DataW.trod_int Tryz.underlying3 h5
  have hz := (Prod.mk.inj hz).1
  simp only [DataW.lit.injEq, Lit.int.injEq, true_and] at hz
  subst hz
  have := h4 0 _ rfl
  rwa [c1_3, Nat.mul_one, Nat.add_zero] at this
 have e9 : ∃ b o cp, b < W.heap.size /\ W.cell? ⟨9, 0, none⟩ = some (.slice (some ⟨b, o, none⟩) 23 cp) /\ ∀ i, i < 23 -> ∃ v, W.cell? ⟨b, o + i, none⟩ = some (.float .f64 v) := by
  obtain ⟨cs, fuel, p, _, hc, hd⟩ := var_of (g := 9) (t := 332) m9 (by kernel_rfl) (by kernel_rfl)
  unfold Rows.laid_internal_strconv_float64pow10 at hd
  obtain ⟨b, o, cp, n, h1, h2, h3⟩ := slice_el Tryz.underlying332 (by rw [c1_68]; decide) (by decide) hd
  refine ⟨b, o, cp, h2, by rw [hc, h1]; rfl, fun i hi => ?_⟩
  obtain ⟨cs', q, h4, h5⟩ := h3 i _ (List.getElem?_eq_getElem hi)
  obtain ⟨z, rfl⟩ := trod_fl Tryz.underlying68 h5
  have := h4 0 _ rfl
  rw [c1_68, Nat.mul_one, Nat.add_zero] at this
  exact ⟨z, this⟩
 have e10 : ∀ i, i < 1392 -> ∃ v, U64 v /\ W.cell? ⟨10, i, none⟩ = some (.int .u64 v) := by
  obtain ⟨cs, fuel, p, _, hc, hd⟩ := var_of (g := 10) (t := 336) m10 (by kernel_rfl) (by kernel_rfl)
  obtain ⟨xs, m, _, _, hl, hlen, hel⟩ := DataW.trod_array Tryz.underlying336 hd
  intro i hi
  have h1 := hel (i / 2) (by omega)
  rw [c2_335, List.getElem?_eq_getElem (by omega)] at h1
  obtain ⟨ys, m2, _, _, hl2, hlen2, hf⟩ := DataW.trod_struct Tryz.underlying335 h1
  replace hlen2 : ys.length = 2 := hlen2
  have key : ∀ r, r < 2 -> ∃ v, U64 v /\ cs.toList[i / 2 * 2 + r]? = some (.int .u64 v) := fun r hr => by
   have f : ∃ y, DataW.trod (fun _ => ()) Tryz.prog W 0 (fun _ => true) false m2 224 ((((cs.toList.drop (i / 2 * 2)).take 2).drop r).take (Tryz.prog.cellsOf 224)) = some y := by
    match r, hr with
    | 0, _ => exact ⟨ys[0]'(by omega), (hf 0 _ rfl).trans (List.getElem?_eq_getElem (by omega))⟩
    | 1, _ => exact ⟨ys[1]'(by omega), (hf 1 _ rfl).trans (List.getElem?_eq_getElem (by omega))⟩
   obtain ⟨y, f⟩ := f
   rw [c1_224] at f
   obtain ⟨z, g, _, hw⟩ := DataW.trod_int Tryz.underlying224 f
   have hw : 0 <= z /\ z <= 18446744073709551615 := by simpa [Lit.wf, IntKind.min, IntKind.max, IntKind.signed, IntKind.bits] using hw
   refine ⟨z, ⟨hw.1, by omega⟩, ?_⟩
   have := congrArg (·[0]?) g
   simpa [List.getElem?_take, List.getElem?_drop, hr] using this
  obtain ⟨v, h3, h4⟩ := key (i % 2) (by omega)
  rw [show i / 2 * 2 + i % 2 = i by omega] at h4
  exact ⟨v, h3, by rw [hc, h4]⟩
 have e11 : ∃ b o cp, b < W.heap.size /\ W.cell? ⟨11, 0, none⟩ = some (.slice (some ⟨b, o, none⟩) 61 cp) /\
  (W.cell? ⟨b, o + 2, none⟩ = some (.int .i64 1) /\ ∃ s : ByteArray, W.cell? ⟨b, o + 2 + 1, none⟩ = some (.string s) /\ 0 < s.size /\ s.size <= 2147483647 /\ bt s 0 = 53) /\
  (W.cell? ⟨b, o + 106, none⟩ = some (.int .i64 16) /\ ∃ s : ByteArray, W.cell? ⟨b, o + 106 + 1, none⟩ = some (.string s) /\ 0 < s.size /\ s.size <= 2147483647 /\ bt s 0 = 49) := by
  obtain ⟨cs, fuel, p, _, hc, hd⟩ := var_of (g := 11) (t := 342) m11 (by kernel_rfl) (by kernel_rfl)
  rw [show Rows.laid_internal_strconv_leftcheats = .slice (Go.Pinned.cheatRows.map fun x => .agg [.lit (.int .i64 x.1), .lit (.string x.2)]) [] from rfl] at hd
  have hlen : (Go.Pinned.cheatRows.map fun x => (.agg [.lit (.int .i64 x.1), .lit (.string x.2)] : DataW Unit)).length = 61 := by kernel_rfl
  obtain ⟨b, o, cp, n, h1, h2, h3⟩ := slice_el Tryz.underlying342 (by rw [c2_341]; decide) (by rw [hlen]; decide) hd
  have key : ∀ i (k : Int) (l : List UInt8), (Go.Pinned.cheatRows.map fun x => (.agg [.lit (.int .i64 x.1), .lit (.string x.2)] : DataW Unit))[i]? = some (.agg [.lit (.int .i64 k), .lit (.string l)]) ->
   W.cell? ⟨b, o + i * 2, none⟩ = some (.int .i64 k) /\ ∃ s : ByteArray, W.cell? ⟨b, o + i * 2 + 1, none⟩ = some (.string s) /\ s.data.toList = l := fun i k l hi => by
   obtain ⟨cs', q, h4, h5⟩ := h3 i _ hi
   rw [c2_341] at h4
   obtain ⟨xs, m, _, hx, hl, hln, hf⟩ := DataW.trod_struct Tryz.underlying341 h5
   rw [c2_341] at hl
   replace hln : xs.length = 2 := hln
   match xs, hln, hx, hf with
   | [y0, y1], _, hx, hf =>
     have f0 : DataW.trod (fun _ => ()) Tryz.prog W 0 (fun _ => true) false m 3 ((cs'.drop 0).take (Tryz.prog.cellsOf 3)) = some y0 := hf 0 _ rfl
     have f1 : DataW.trod (fun _ => ()) Tryz.prog W 0 (fun _ => true) false m 9 ((cs'.drop 1).take (Tryz.prog.cellsOf 9)) = some y1 := hf 1 _ rfl
     rw [c1_3] at f0
     rw [co9] at f1
     obtain ⟨z0, g0, rfl, _⟩ := DataW.trod_int Tryz.underlying3 f0
     obtain ⟨z1, g1, rfl, _⟩ := DataW.trod_string Tryz.underlying9 f1
     have hx := (Prod.mk.inj hx).1
     simp only [List.map_cons, List.map_nil, DataW.agg.injEq, List.cons.injEq, DataW.lit.injEq, Lit.int.injEq, Lit.string.injEq, true_and, and_true] at hx
     obtain ⟨rfl, rfl⟩ := hx
     refine ⟨?_, z1, ?_, rfl⟩
     · have := congrArg (·[0]?) g0
       have := h4 0 _ (by simpa [List.getElem?_take, List.getElem?_drop] using this)
       rwa [Nat.add_zero] at this
     · have := congrArg (·[0]?) g1
       exact h4 1 _ (by simpa [List.getElem?_take, List.getElem?_drop] using this)
  obtain ⟨k1, s1, k2, k3⟩ := key 1 1 [53] (by kernel_rfl)
  obtain ⟨k4, s2, k5, k6⟩ := key 53 16 [49, 49, 49, 48, 50, 50, 51, 48, 50, 52, 54, 50, 53, 49, 53, 54, 53, 52, 48, 52, 50, 51, 54, 51, 49, 54, 54, 56, 48, 57, 48, 56, 50, 48, 51, 49, 50, 53] (by kernel_rfl)
  have hs : ∀ (s : ByteArray) (l : List UInt8), s.data.toList = l -> s = ⟨l.toArray⟩ := fun s l h => by
   cases s with | mk d => subst h; rfl
  obtain rfl := hs _ _ k3
  obtain rfl := hs _ _ k6
  exact ⟨b, o, cp, h2, by rw [hc, h1, hlen]; rfl, ⟨k1, _, k2, by decide, by decide, by decide⟩, k4, _, k5, by decide, by decide, by decide⟩
 obtain ⟨v10, _, c10⟩ := e10 0 (by decide)
 obtain ⟨b8, o8, p8, h8, c8, d8⟩ := e8
 obtain ⟨b9, o9, p9, h9, c9, d9⟩ := e9
 obtain ⟨b11, o11, p11, h11, c11, d11⟩ := e11
 exact ⟨⟨fun k hk => hk, ⟨cell_lt c10, e10⟩, ⟨cell_lt (e3c 0 (by decide)), e3c⟩, ⟨cell_lt e2, e2⟩, ⟨cell_lt e6.1, e6⟩, ⟨cell_lt c8, b8, o8, p8, h8, c8, d8⟩, ⟨cell_lt c9, b9, o9, p9, h9, c9, d9⟩, ⟨cell_lt c11, b11, o11, p11, h11, c11, d11⟩,
  ⟨cell_lt e0.choose_spec.choose_spec, e0⟩, cell_lt e1.choose_spec.choose_spec, e1⟩, e3t⟩
