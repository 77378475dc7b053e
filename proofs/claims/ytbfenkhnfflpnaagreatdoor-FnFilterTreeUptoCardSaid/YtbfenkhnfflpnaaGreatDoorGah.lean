/- Lemmas for FnFilterTree; each condition stands in its statement. -/
import Derived.Shelf.Strconv.Itoa4
import Derived.Shelf.Strconv.Itoa1
import Derived.Shelf.Strconv.Itoa2
import Derived.Shelf.Strconv.ParseIntPublic10
import Derived.Shelf.Pu.ParseUintPublic10
import Derived.Shelf.Strings.Prefix
import Derived.Shelf.Small.Wraps
import Derived.Shelf.Strconv.ParseBool
import Derived.Shelf.Strconv.ToError
import Derived.Shelf.Strconv.ToErrorRange
import Derived.Test.YtbfenkhnfflpnaaGreatDoorProg
namespace Go.Proofs
open Go.Shelf
def Tryz.lays121_ren : Go.Shelf.Ren := ⟨fun | 121 => 72 | 214 => 103 | n => n, fun | 4 => 4 | 9 => 9 | n => n, fun | n => n⟩
theorem Tryz.lays121 : Go.Proofs.Lays.n121 Tryz.prog Tryz.lays121_ren := by repeat' first | (intros; kernel_rfl) | constructor
open Go.RowKit in
theorem Tryz.strconv_FormatBool (b : Bool) (w : World) :
 Calls Tryz.prog 72 #[.bool b] w fun e w' => e = .returned (.string ⟨(Lib.formatBool b).toArray⟩) /\ w' = w := Any.strconv_FormatBool Tryz.lays121 b w
def Tryz.lays175_ren : Go.Shelf.Ren := ⟨fun | 175 => 95 | 248 => 137 | 245 => 44 | 279 => 83 | 280 => 84 | 281 => 85 | 282 => 86 | 316 => 117 | 171 => 119 | 205 => 118 | 243 => 157 | 246 => 46 | 283 => 89 | 284 => 90 | 285 => 91 | 286 => 92 | 129 => 125 | 317 => 128 | 318 => 134 | 319 => 135 | 320 => 136 | 337 => 177 | 338 => 178 | n => n, fun | 9 => 9 | 4 => 4 | 75 => 70 | 87 => 233 | 3 => 3 | 167 => 215 | 168 => 216 | 210 => 253 | 37 => 207 | 0 => 0 | 127 => 300 | 145 => 303 | 143 => 301 | 2 => 2 | 171 => 223 | 53 => 224 | 5 => 5 | 173 => 227 | 212 => 274 | 51 => 255 | 20 => 20 | 213 => 275 | 46 => 35 | 232 => 261 | 233 => 344 | 80 => 195 | n => n, fun | 15 => 0 | 16 => 1 | 17 => 3 | 18 => 12 | 19 => 13 | n => n⟩
theorem Tryz.lays175 : Go.Proofs.Lays.n175 Tryz.prog Tryz.lays175_ren := by repeat' first | (intros; kernel_rfl) | constructor
theorem Tryz.strconv_ParseBool (s : ByteArray) (b : Bool) (h : Lib.parseBool s.data.toList = some b) (w : World) :
 Calls Tryz.prog 95 #[.string s] w fun e w' => e = .returned (.tuple #[.bool b, .nilIface]) /\ w' = w := Any.strconv_ParseBool Tryz.lays175 s b h w
open Go.Lib in
def Tryz.lays283_ren : Go.Shelf.Ren := ⟨fun | 283 => 89 | n => n, fun | 3 => 3 | 9 => 9 | 4 => 4 | n => n, fun | n => n⟩
theorem Tryz.lays283 : Go.Proofs.Lays.n283 Tryz.prog Tryz.lays283_ren := by repeat' first | (intros; kernel_rfl) | constructor
open Go.Lib in
theorem Tryz.internal_strconv_small (i : Nat) (h : i < 100) (w : World) :
 Calls Tryz.prog 89 #[.int .i64 i] w fun e w' => e = .returned (.string ⟨(Lib.decDigits i).toArray⟩) /\ w' = w := Any.internal_strconv_small Tryz.lays283 i h w
def Tryz.laysM284_ren : Go.Shelf.Ren := ⟨fun | 284 => 90 | 129 => 125 | 317 => 128 | 318 => 134 | n => n, fun | 53 => 224 | 3 => 3 | 212 => 274 | 0 => 0 | 4 => 4 | 46 => 35 | 5 => 5 | 9 => 9 | n => n, fun | 17 => 3 | n => n⟩
theorem Tryz.laysM284 : Go.Proofs.LaysM.n284 Tryz.prog Tryz.laysM284_ren := by repeat' first | (intros; kernel_rfl) | constructor
open Go.Lib in
theorem Tryz.internal_strconv_numDigits (u : Nat) (h1 : 1 <= u) (h2 : u < 18446744073709551616) (w : World) (htab : Lib.TabIs Tryz.prog w "internal/strconv.uint64pow10" .u64 Lib.pow10Tab) :
 Calls Tryz.prog 90 #[.int .u64 u] w fun e w' => e = .returned (.int .i64 (Lib.nDigits u)) /\ w' = w := Any.internal_strconv_numDigits Tryz.laysM284 u h1 h2 w htab
def Tryz.lays285_ren : Go.Shelf.Ren := ⟨fun | 285 => 91 | n => n, fun | 37 => 207 | 53 => 224 | 3 => 3 | 4 => 4 | 51 => 255 | 9 => 9 | 5 => 5 | 0 => 0 | n => n, fun | n => n⟩
theorem Tryz.lays285 : Go.Proofs.Lays.n285 Tryz.prog Tryz.lays285_ren := by repeat' first | (intros; kernel_rfl) | constructor
open Go.RowKit Go.Sort Go.Lib in
theorem Tryz.internal_strconv_formatBase10 (blk off cap : Nat) (u : Nat) (d : Array UInt8) (w : World) (hH : Holds (fun (b : UInt8) => Value.int .u8 (b.toNat : Int)) w blk off d) (hu : u < 10 ^ d.size) (hu64 : u < 18446744073709551616) (hsz : d.size < 4611686018427387904) :
 Calls Tryz.prog 91 #[.slice (some ⟨blk, off, none⟩) d.size cap, .int .u64 u] w fun e w' =>
  e = .returned (.tuple #[]) /\ ∃ (n v' : Nat) (dk : Array UInt8), w' = (putRow (fun (b : UInt8) => Value.int .u8 (b.toNat : Int)) w blk off dk).drewN n /\ FmtInv d.size u 0 v' dk := Any.internal_strconv_formatBase10 Tryz.lays285 blk off cap u d w hH hu hu64 hsz
def Tryz.laysM173_ren : Go.Shelf.Ren := ⟨fun | 173 => 24 | 246 => 46 | 283 => 89 | 284 => 90 | 285 => 91 | 286 => 92 | 129 => 125 | 317 => 128 | 318 => 134 | 319 => 135 | 320 => 136 | 337 => 177 | 338 => 178 | n => n, fun | 2 => 2 | 3 => 3 | 9 => 9 | 4 => 4 | 171 => 223 | 0 => 0 | 53 => 224 | 37 => 207 | 5 => 5 | 173 => 227 | 212 => 274 | 51 => 255 | 20 => 20 | 213 => 275 | 46 => 35 | 232 => 261 | 233 => 344 | n => n, fun | 17 => 3 | 18 => 12 | 19 => 13 | n => n⟩
theorem Tryz.laysM173 : Go.Proofs.LaysM.n173 Tryz.prog Tryz.laysM173_ren := by repeat' first | (intros; kernel_rfl) | constructor
open Go.RowKit Go.Sort Go.Lib in
theorem Tryz.strconv_FormatInt_10 (n : Int) (h0 : -9223372036854775808 <= n) (h1 : n <= 9223372036854775807) (w : World) (htab : Lib.TabIs Tryz.prog w "internal/strconv.uint64pow10" .u64 Lib.pow10Tab) :
 Calls Tryz.prog 24 #[.int .i64 n, .int .i64 10] w fun e w' => e = .returned (.string ⟨(Lib.itoa n).toArray⟩) /\ ∃ k os, w' = grow (w.drewN k) os := Any.strconv_FormatInt_10 Tryz.laysM173 n h0 h1 w htab
def Tryz.laysC245_ren : Go.Shelf.Ren := ⟨fun | 245 => 44 | 279 => 83 | 280 => 84 | 281 => 85 | 282 => 86 | 316 => 117 | 171 => 119 | 205 => 118 | 243 => 157 | 246 => 46 | 283 => 89 | 284 => 90 | 285 => 91 | 286 => 92 | 129 => 125 | 317 => 128 | 318 => 134 | 319 => 135 | 320 => 136 | 337 => 177 | 338 => 178 | n => n, fun | 9 => 9 | 3 => 3 | 75 => 70 | 167 => 215 | 4 => 4 | 168 => 216 | 210 => 253 | 37 => 207 | 0 => 0 | 127 => 300 | 145 => 303 | 143 => 301 | 2 => 2 | 171 => 223 | 53 => 224 | 5 => 5 | 173 => 227 | 212 => 274 | 51 => 255 | 20 => 20 | 213 => 275 | 46 => 35 | 232 => 261 | 233 => 344 | 80 => 195 | n => n, fun | 15 => 0 | 16 => 1 | 17 => 3 | 18 => 12 | 19 => 13 | n => n⟩
theorem Tryz.laysC245 : Go.Proofs.LaysC.n245 Tryz.prog Tryz.laysC245_ren := by repeat' first | (intros; kernel_rfl) | constructor
open Go.RowKit in
theorem Tryz.strconv_toError_syntax (fn s : ByteArray) (base bits : Int) (ev : Value) (w : World) (hlim : s.size <= 281474976710656) (hv : w.cell? ⟨0, 0, none⟩ = some ev) (hev : ev = .nilIface \/ ∃ te pe, ev = .iface te pe) :
 Calls Tryz.prog 44 #[.string fn, .string s, .int .i64 base, .int .i64 bits, .iface 215 (.int .i64 2)] w fun e w' => ∃ N, e = .returned (.iface 216 (.pointer (some ⟨N, 0, none⟩))) /\ w.heap.size <= N /\ w'.heap[N]? = some (.cells #[.string fn, .string s, ev] 253 (0, 0)) /\ Below w.heap.size w w' := Any.strconv_toError_syntax Tryz.laysC245 fn s base bits ev w hlim hv hev
open Go.RowKit in
theorem Tryz.strconv_toError_range (fn s : ByteArray) (base bits : Int) (ev : Value) (w : World) (hlim : s.size <= 281474976710656) (hv : w.cell? ⟨1, 0, none⟩ = some ev) (hev : ev = .nilIface \/ ∃ te pe, ev = .iface te pe) :
 Calls Tryz.prog 44 #[.string fn, .string s, .int .i64 base, .int .i64 bits, .iface 215 (.int .i64 1)] w fun e w' => ∃ N, e = .returned (.iface 216 (.pointer (some ⟨N, 0, none⟩))) /\ w.heap.size <= N /\ w'.heap[N]? = some (.cells #[.string fn, .string s, ev] 253 (0, 0)) /\ Below w.heap.size w w' := Any.strconv_toError_range Tryz.laysC245 fn s base bits ev w hlim hv hev
def Tryz.laysC174_ren : Go.Shelf.Ren := ⟨fun | 174 => 183 | 247 => 199 | 245 => 44 | 287 => 200 | 279 => 83 | 280 => 84 | 281 => 85 | 282 => 86 | 321 => 160 | 322 => 189 | 316 => 117 | 171 => 119 | 205 => 118 | 243 => 157 | 246 => 46 | 283 => 89 | 284 => 90 | 285 => 91 | 286 => 92 | 129 => 125 | 317 => 128 | 318 => 134 | 319 => 135 | 320 => 136 | 337 => 177 | 338 => 178 | n => n, fun | 9 => 9 | 3 => 3 | 2 => 2 | 75 => 70 | 85 => 323 | 4 => 4 | 167 => 215 | 5 => 5 | 53 => 224 | 175 => 325 | 46 => 35 | 168 => 216 | 37 => 207 | 0 => 0 | 210 => 253 | 21 => 21 | 127 => 300 | 145 => 303 | 143 => 301 | 171 => 223 | 173 => 227 | 212 => 274 | 51 => 255 | 20 => 20 | 213 => 275 | 232 => 261 | 233 => 344 | 80 => 195 | n => n, fun | 15 => 0 | 16 => 1 | 17 => 3 | 18 => 12 | 19 => 13 | n => n⟩
theorem Tryz.laysC174 : Go.Proofs.LaysC.n174 Tryz.prog Tryz.laysC174_ren := by repeat' first | (intros; kernel_rfl) | constructor
open Go.RowKit in
theorem Tryz.strconv_ParseInt_10_at64_ok (s : ByteArray) (hmax : s.size <= 9223372036854775806) (v : Int) (h : Lib.parseIntB 64 s.data.toList = .ok v) (w : World) :
 Calls Tryz.prog 183 #[.string s, .int .i64 10, .int .i64 64] w fun e w' => e = .returned (.tuple #[.int .i64 v, .nilIface]) /\ (w' = w \/ ∃ t, w' = Lib.bytesWorld w 5 t) := Any.strconv_ParseInt_10_at64_ok Tryz.laysC174 s hmax v h w
def Tryz.laysPu14_ren : Go.Shelf.Ren := ⟨fun | 14 => 184 | 16 => 200 | 17 => 44 | 19 => 160 | 20 => 189 | 21 => 83 | 22 => 84 | 23 => 85 | 24 => 86 | 25 => 117 | 27 => 119 | 26 => 118 | 28 => 157 | 29 => 46 | 30 => 89 | 31 => 90 | 32 => 91 | 33 => 92 | 35 => 125 | 34 => 128 | 36 => 134 | 37 => 135 | 38 => 136 | 39 => 177 | 40 => 178 | n => n, fun | 9 => 9 | 3 => 3 | 22 => 224 | 24 => 70 | 25 => 325 | 4 => 4 | 34 => 215 | 5 => 5 | 36 => 35 | 37 => 207 | 0 => 0 | 39 => 216 | 21 => 21 | 44 => 253 | 47 => 300 | 50 => 303 | 48 => 301 | 2 => 2 | 52 => 223 | 55 => 227 | 59 => 274 | 60 => 255 | 20 => 20 | 61 => 275 | 65 => 261 | 66 => 344 | 67 => 195 | n => n, fun | 0 => 0 | 1 => 1 | 2 => 3 | 3 => 12 | 4 => 13 | n => n⟩
theorem Tryz.laysPu14 : Go.Proofs.LaysPu.n14 Tryz.prog Tryz.laysPu14_ren := by repeat' first | (intros; kernel_rfl) | constructor
open Go.RowKit in
theorem Tryz.strconv_ParseUint_10_at64_ok (s : ByteArray) (hmax : s.size <= 9223372036854775806) (u : Nat) (h : Lib.parseUintB 64 s.data.toList = .ok u) (w : World) :
 Calls Tryz.prog 184 #[.string s, .int .i64 10, .int .i64 64] w fun e w' => e = .returned (.tuple #[.int .u64 u, .nilIface]) /\ (w' = w \/ w' = Lib.bytesWorld w 5 s) := Any.strconv_ParseUint_10_at64_ok Tryz.laysPu14 s hmax u h w
def Tryz.lays99_ren : Go.Shelf.Ren := ⟨fun | 99 => 179 | 206 => 196 | n => n, fun | 9 => 9 | 4 => 4 | 3 => 3 | n => n, fun | n => n⟩
theorem Tryz.lays99 : Go.Proofs.Lays.n99 Tryz.prog Tryz.lays99_ren := by repeat' first | (intros; kernel_rfl) | constructor
open Go.RowKit Go.Lib in
theorem Tryz.strings_HasPrefix (s p : ByteArray) (w : World) :
 Calls Tryz.prog 179 #[.string s, .string p] w fun e w' => e = .returned (.bool (Lib.hasPrefix s.data.toList p.data.toList)) /\ w' = w := Any.strings_HasPrefix Tryz.lays99 s p w
def Tryz.lays101_ren : Go.Shelf.Ren := ⟨fun | 101 => 182 | 208 => 198 | 206 => 196 | n => n, fun | 9 => 9 | 4 => 4 | 3 => 3 | n => n, fun | n => n⟩
theorem Tryz.lays101 : Go.Proofs.Lays.n101 Tryz.prog Tryz.lays101_ren := by repeat' first | (intros; kernel_rfl) | constructor
open Go.RowKit Go.Lib in
theorem Tryz.strings_TrimPrefix (s p : ByteArray) (w : World) :
 Calls Tryz.prog 182 #[.string s, .string p] w fun e w' => e = .returned (.string ⟨(Lib.trimPrefix s.data.toList p.data.toList).toArray⟩) /\ w' = w := Any.strings_TrimPrefix Tryz.lays101 s p w
end Go.Proofs
