/-
  The library contracts that this seat uses, laid at its own numbers by the kit's lay-shelf and lay-plain, the insertion sort's beside them.
-/
import Derived.Shelf.SlGeneric
import Derived.Ground.SlsfProg
import Derived.Shelf.SlSortCmp.Insertion1
import Derived.Shelf.Small.Strs
import Derived.Shelf.Strconv.Itoa0
import Derived.Shelf.Strconv.Itoa1
import Derived.Shelf.LaysM
import Derived.Shelf.Strconv.Itoa2
import Derived.Shelf.Strconv.Itoa3
import Derived.Shelf.Strconv.Itoa4
import Derived.Shelf.Strings.Search1
import Derived.Shelf.Strings.Prefix
import Derived.Shelf.Bits.Mul64
import Derived.Test.YtlimibjmccbdlaaGreatDoorProg
namespace Go.Proofs
open Go.Shelf
def Tryz.lays213_ren : Go.Shelf.Ren := ⟨fun | 213 => 48 | 265 => 58 | n => n, fun | 9 => 9 | 3 => 3 | n => n, fun | n => n⟩
theorem Tryz.lays213 : Go.Proofs.Lays.n213 Tryz.prog Tryz.lays213_ren := {
  mixed := by kernel_rfl
  f213 := Tryz.func48.trans (congrArg some (by kernel_rfl))
  f265 := Tryz.func58.trans (congrArg some (by kernel_rfl))
  t3 := Tryz.underlying3
  a3 := Tryz.isAgg3
  z3 := Tryz.sizeOf3
  v3 := Tryz.zeroValue3
  t9 := Tryz.underlying9
  a9 := Tryz.isAgg9
  z9 := Tryz.sizeOf9
  v9 := Tryz.zeroValue9 }
open Go.RowKit in
theorem Tryz.bytealg_CompareString (a b : ByteArray) (w : World) :
    Calls Tryz.prog 48 #[.string a, .string b] w fun e w' => e = .returned (.int .i64 (Lib.compareBytes a.data.toList b.data.toList)) ∧ w' = w := Any.bytealg_CompareString Tryz.lays213 a b w
def Tryz.lays106_ren : Go.Shelf.Ren := ⟨fun | 106 => 36 | 213 => 48 | 265 => 58 | n => n, fun | 9 => 9 | 3 => 3 | n => n, fun | n => n⟩
theorem Tryz.lays106 : Go.Proofs.Lays.n106 Tryz.prog Tryz.lays106_ren := {
  mixed := by kernel_rfl
  f106 := Tryz.func36.trans (congrArg some (by kernel_rfl))
  f213 := Tryz.func48.trans (congrArg some (by kernel_rfl))
  f265 := Tryz.func58.trans (congrArg some (by kernel_rfl))
  t3 := Tryz.underlying3
  a3 := Tryz.isAgg3
  z3 := Tryz.sizeOf3
  v3 := Tryz.zeroValue3
  t9 := Tryz.underlying9
  a9 := Tryz.isAgg9
  z9 := Tryz.sizeOf9
  v9 := Tryz.zeroValue9 }
open Go.RowKit in
theorem Tryz.strings_Compare (a b : ByteArray) (w : World) :
    Calls Tryz.prog 36 #[.string a, .string b] w fun e w' => e = .returned (.int .i64 (Lib.compareBytes a.data.toList b.data.toList)) ∧ w' = w := Any.strings_Compare Tryz.lays106 a b w
def Tryz.lays137_ren : Go.Shelf.Ren := ⟨fun | 137 => 44 | 217 => 52 | 266 => 59 | n => n, fun | 9 => 9 | 5 => 5 | 3 => 3 | n => n, fun | n => n⟩
theorem Tryz.lays137 : Go.Proofs.Lays.n137 Tryz.prog Tryz.lays137_ren := {
  mixed := by kernel_rfl
  f137 := Tryz.func44.trans (congrArg some (by kernel_rfl))
  f217 := Tryz.func52.trans (congrArg some (by kernel_rfl))
  f266 := Tryz.func59.trans (congrArg some (by kernel_rfl))
  t3 := Tryz.underlying3
  a3 := Tryz.isAgg3
  z3 := Tryz.sizeOf3
  v3 := Tryz.zeroValue3
  t5 := Tryz.underlying5
  a5 := Tryz.isAgg5
  z5 := Tryz.sizeOf5
  v5 := Tryz.zeroValue5
  t9 := Tryz.underlying9
  a9 := Tryz.isAgg9
  z9 := Tryz.sizeOf9
  v9 := Tryz.zeroValue9 }
open Go.RowKit in
theorem Tryz.strings_IndexByte (s : ByteArray) (c : Int) (w : World) :
    Calls Tryz.prog 44 #[.string s, .int .u8 c] w fun e w' => e = .returned (.int .i64 (Lib.indexByte s.data.toList c.toNat.toUInt8)) ∧ w' = w := Any.strings_IndexByte Tryz.lays137 s c w
def Tryz.lays129_ren : Go.Shelf.Ren := ⟨fun | 129 => 40 | n => n, fun | 53 => 27 | 3 => 3 | 4 => 4 | 46 => 99 | 5 => 5 | 9 => 9 | n => n, fun | n => n⟩
theorem Tryz.lays129 : Go.Proofs.Lays.n129 Tryz.prog Tryz.lays129_ren := {
  mixed := by kernel_rfl
  f129 := Tryz.func40.trans (congrArg some (by kernel_rfl))
  t3 := Tryz.underlying3
  a3 := Tryz.isAgg3
  z3 := Tryz.sizeOf3
  v3 := Tryz.zeroValue3
  t4 := Tryz.underlying4
  a4 := Tryz.isAgg4
  z4 := Tryz.sizeOf4
  v4 := Tryz.zeroValue4
  t5 := Tryz.underlying5
  a5 := Tryz.isAgg5
  z5 := Tryz.sizeOf5
  v5 := Tryz.zeroValue5
  t9 := Tryz.underlying9
  a9 := Tryz.isAgg9
  z9 := Tryz.sizeOf9
  v9 := Tryz.zeroValue9
  t46 := Tryz.underlying99
  a46 := Tryz.isAgg99
  z46 := Tryz.sizeOf99
  v46 := Tryz.zeroValue99
  t53 := Tryz.underlying27
  a53 := Tryz.isAgg27
  z53 := Tryz.sizeOf27
  v53 := Tryz.zeroValue27 }
theorem Tryz.bits_Len64 (x : Int) (w : World) (h0 : 0 ≤ x) (h1 : x ≤ 18446744073709551615) :
    Calls Tryz.prog 40 #[.int .u64 x] w fun e w' => e = .returned (.int .i64 (Lib.bitLen x.toNat)) ∧ w' = w := Any.bits_Len64 Tryz.lays129 x w h0 h1
def Tryz.lays317_ren : Go.Shelf.Ren := ⟨fun | 317 => 39 | n => n, fun | 3 => 3 | 46 => 99 | n => n, fun | n => n⟩
theorem Tryz.lays317 : Go.Proofs.Lays.n317 Tryz.prog Tryz.lays317_ren := {
  mixed := by kernel_rfl
  f317 := Tryz.func39.trans (congrArg some (by kernel_rfl))
  t3 := Tryz.underlying3
  a3 := Tryz.isAgg3
  z3 := Tryz.sizeOf3
  v3 := Tryz.zeroValue3
  t46 := Tryz.underlying99
  a46 := Tryz.isAgg99
  z46 := Tryz.sizeOf99
  v46 := Tryz.zeroValue99 }
open Go.Lib in
theorem Tryz.internal_strconv_log10Pow2 (x : Nat) (h : x ≤ 64) (w : World) :
    Calls Tryz.prog 39 #[.int .i64 x] w fun e w' => e = .returned (.int .i64 (Lib.l10 x)) ∧ w' = w := Any.internal_strconv_log10Pow2 Tryz.lays317 x h w
def Tryz.lays318_ren : Go.Shelf.Ren := ⟨fun | 318 => 41 | n => n, fun | 3 => 3 | 4 => 4 | n => n, fun | n => n⟩
theorem Tryz.lays318 : Go.Proofs.Lays.n318 Tryz.prog Tryz.lays318_ren := {
  mixed := by kernel_rfl
  f318 := Tryz.func41.trans (congrArg some (by kernel_rfl))
  t3 := Tryz.underlying3
  a3 := Tryz.isAgg3
  z3 := Tryz.sizeOf3
  v3 := Tryz.zeroValue3
  t4 := Tryz.underlying4
  a4 := Tryz.isAgg4
  z4 := Tryz.sizeOf4
  v4 := Tryz.zeroValue4 }
open Go.Lib in
theorem Tryz.internal_strconv_bool2_int (b : Bool) (w : World) :
    Calls Tryz.prog 41 #[.bool b] w fun e w' => e = .returned (.int .i64 (if b then 1 else 0)) ∧ w' = w := Any.internal_strconv_bool2_int Tryz.lays318 b w
def Tryz.lays283_ren : Go.Shelf.Ren := ⟨fun | 283 => 26 | n => n, fun | 3 => 3 | 9 => 9 | 4 => 4 | n => n, fun | n => n⟩
theorem Tryz.lays283 : Go.Proofs.Lays.n283 Tryz.prog Tryz.lays283_ren := {
  mixed := by kernel_rfl
  f283 := Tryz.func26.trans (congrArg some (by kernel_rfl))
  t3 := Tryz.underlying3
  a3 := Tryz.isAgg3
  z3 := Tryz.sizeOf3
  v3 := Tryz.zeroValue3
  t4 := Tryz.underlying4
  a4 := Tryz.isAgg4
  z4 := Tryz.sizeOf4
  v4 := Tryz.zeroValue4
  t9 := Tryz.underlying9
  a9 := Tryz.isAgg9
  z9 := Tryz.sizeOf9
  v9 := Tryz.zeroValue9 }
open Go.Lib in
theorem Tryz.internal_strconv_small (i : Nat) (h : i < 100) (w : World) :
    Calls Tryz.prog 26 #[.int .i64 i] w fun e w' => e = .returned (.string ⟨(Lib.decDigits i).toArray⟩) ∧ w' = w := Any.internal_strconv_small Tryz.lays283 i h w
def Tryz.laysM284_ren : Go.Shelf.Ren := ⟨fun | 284 => 27 | 129 => 40 | 317 => 39 | 318 => 41 | n => n, fun | 53 => 27 | 3 => 3 | 212 => 95 | 0 => 0 | 4 => 4 | 46 => 99 | 5 => 5 | 9 => 9 | n => n, fun | 17 => 0 | n => n⟩
theorem Tryz.laysM284 : Go.Proofs.LaysM.n284 Tryz.prog Tryz.laysM284_ren := {
  mixed := by kernel_rfl
  f129 := Tryz.func40.trans (congrArg some (by kernel_rfl))
  f284 := Tryz.func27.trans (congrArg some (by kernel_rfl))
  f317 := Tryz.func39.trans (congrArg some (by kernel_rfl))
  f318 := Tryz.func41.trans (congrArg some (by kernel_rfl))
  t0 := Tryz.underlying0
  a0 := Tryz.isAgg0
  z0 := Tryz.sizeOf0
  v0 := Tryz.zeroValue0
  t3 := Tryz.underlying3
  a3 := Tryz.isAgg3
  z3 := Tryz.sizeOf3
  v3 := Tryz.zeroValue3
  t4 := Tryz.underlying4
  a4 := Tryz.isAgg4
  z4 := Tryz.sizeOf4
  v4 := Tryz.zeroValue4
  t5 := Tryz.underlying5
  a5 := Tryz.isAgg5
  z5 := Tryz.sizeOf5
  v5 := Tryz.zeroValue5
  t9 := Tryz.underlying9
  a9 := Tryz.isAgg9
  z9 := Tryz.sizeOf9
  v9 := Tryz.zeroValue9
  t46 := Tryz.underlying99
  a46 := Tryz.isAgg99
  z46 := Tryz.sizeOf99
  v46 := Tryz.zeroValue99
  t53 := Tryz.underlying27
  a53 := Tryz.isAgg27
  z53 := Tryz.sizeOf27
  v53 := Tryz.zeroValue27
  t212 := Tryz.underlying95
  a212 := Tryz.isAgg95
  z212 := Tryz.sizeOf95
  v212 := Tryz.zeroValue95
  g17 := by kernel_rfl
  i0 := by kernel_rfl
  i3 := by kernel_rfl
  i4 := by kernel_rfl
  i5 := by kernel_rfl
  i9 := by kernel_rfl
  i46 := by kernel_rfl
  i53 := by kernel_rfl
  i212 := by kernel_rfl
  m17 := by kernel_rfl }
open Go.Lib in
theorem Tryz.internal_strconv_numDigits (u : Nat) (h1 : 1 ≤ u) (h2 : u < 18446744073709551616) (w : World) (htab : Lib.TabIs Tryz.prog w "internal/strconv.uint64pow10" .u64 Lib.pow10Tab) :
    Calls Tryz.prog 27 #[.int .u64 u] w fun e w' => e = .returned (.int .i64 (Lib.nDigits u)) ∧ w' = w := Any.internal_strconv_numDigits Tryz.laysM284 u h1 h2 w htab
def Tryz.lays285_ren : Go.Shelf.Ren := ⟨fun | 285 => 28 | n => n, fun | 37 => 23 | 53 => 27 | 3 => 3 | 4 => 4 | 51 => 96 | 9 => 9 | 5 => 5 | 0 => 0 | n => n, fun | n => n⟩
theorem Tryz.lays285 : Go.Proofs.Lays.n285 Tryz.prog Tryz.lays285_ren := {
  mixed := by kernel_rfl
  f285 := Tryz.func28.trans (congrArg some (by kernel_rfl))
  t0 := Tryz.underlying0
  a0 := Tryz.isAgg0
  z0 := Tryz.sizeOf0
  v0 := Tryz.zeroValue0
  t3 := Tryz.underlying3
  a3 := Tryz.isAgg3
  z3 := Tryz.sizeOf3
  v3 := Tryz.zeroValue3
  t4 := Tryz.underlying4
  a4 := Tryz.isAgg4
  z4 := Tryz.sizeOf4
  v4 := Tryz.zeroValue4
  t5 := Tryz.underlying5
  a5 := Tryz.isAgg5
  z5 := Tryz.sizeOf5
  v5 := Tryz.zeroValue5
  t9 := Tryz.underlying9
  a9 := Tryz.isAgg9
  z9 := Tryz.sizeOf9
  v9 := Tryz.zeroValue9
  t37 := Tryz.underlying23
  a37 := Tryz.isAgg23
  z37 := Tryz.sizeOf23
  v37 := Tryz.zeroValue23
  t51 := Tryz.underlying96
  a51 := Tryz.isAgg96
  z51 := Tryz.sizeOf96
  v51 := Tryz.zeroValue96
  t53 := Tryz.underlying27
  a53 := Tryz.isAgg27
  z53 := Tryz.sizeOf27
  v53 := Tryz.zeroValue27 }
open Go.RowKit Go.Sort Go.Lib in
theorem Tryz.internal_strconv_formatBase10 (blk off cap : Nat) (u : Nat) (d : Array UInt8) (w : World) (hH : Holds (fun (b : UInt8) => Value.int .u8 (b.toNat : Int)) w blk off d) (hu : u < 10 ^ d.size) (hu64 : u < 18446744073709551616) (hsz : d.size < 4611686018427387904) :
    Calls Tryz.prog 28 #[.slice (some ⟨blk, off, none⟩) d.size cap, .int .u64 u] w fun e w' =>
      e = .returned (.tuple #[]) ∧ ∃ (n v' : Nat) (dk : Array UInt8), w' = (putRow (fun (b : UInt8) => Value.int .u8 (b.toNat : Int)) w blk off dk).drewN n ∧ FmtInv d.size u 0 v' dk := Any.internal_strconv_formatBase10 Tryz.lays285 blk off cap u d w hH hu hu64 hsz
def Tryz.laysM246_ren : Go.Shelf.Ren := ⟨fun | 246 => 84 | 283 => 26 | 284 => 27 | 285 => 28 | 286 => 29 | 129 => 40 | 317 => 39 | 318 => 41 | 319 => 42 | 320 => 43 | 337 => 50 | 338 => 51 | n => n, fun | 2 => 2 | 3 => 3 | 9 => 9 | 4 => 4 | 171 => 67 | 0 => 0 | 53 => 27 | 37 => 23 | 5 => 5 | 173 => 70 | 212 => 95 | 51 => 96 | 20 => 20 | 213 => 97 | 46 => 99 | 232 => 114 | 233 => 115 | n => n, fun | 17 => 0 | 18 => 3 | 19 => 4 | n => n⟩
theorem Tryz.laysM246 : Go.Proofs.LaysM.n246 Tryz.prog Tryz.laysM246_ren := {
  mixed := by kernel_rfl
  f129 := Tryz.func40.trans (congrArg some (by kernel_rfl))
  f246 := Tryz.func84.trans (congrArg some (by kernel_rfl))
  f283 := Tryz.func26.trans (congrArg some (by kernel_rfl))
  f284 := Tryz.func27.trans (congrArg some (by kernel_rfl))
  f285 := Tryz.func28.trans (congrArg some (by kernel_rfl))
  f286 := Tryz.func29.trans (congrArg some (by kernel_rfl))
  f317 := Tryz.func39.trans (congrArg some (by kernel_rfl))
  f318 := Tryz.func41.trans (congrArg some (by kernel_rfl))
  f319 := Tryz.func42.trans (congrArg some (by kernel_rfl))
  f320 := Tryz.func43.trans (congrArg some (by kernel_rfl))
  f337 := Tryz.func50.trans (congrArg some (by kernel_rfl))
  f338 := Tryz.func51.trans (congrArg some (by kernel_rfl))
  t0 := Tryz.underlying0
  a0 := Tryz.isAgg0
  z0 := Tryz.sizeOf0
  v0 := Tryz.zeroValue0
  t2 := Tryz.underlying2
  a2 := Tryz.isAgg2
  z2 := Tryz.sizeOf2
  v2 := Tryz.zeroValue2
  t3 := Tryz.underlying3
  a3 := Tryz.isAgg3
  z3 := Tryz.sizeOf3
  v3 := Tryz.zeroValue3
  t4 := Tryz.underlying4
  a4 := Tryz.isAgg4
  z4 := Tryz.sizeOf4
  v4 := Tryz.zeroValue4
  t5 := Tryz.underlying5
  a5 := Tryz.isAgg5
  z5 := Tryz.sizeOf5
  v5 := Tryz.zeroValue5
  t9 := Tryz.underlying9
  a9 := Tryz.isAgg9
  z9 := Tryz.sizeOf9
  v9 := Tryz.zeroValue9
  t20 := Tryz.underlying20
  a20 := Tryz.isAgg20
  z20 := Tryz.sizeOf20
  v20 := Tryz.zeroValue20
  t37 := Tryz.underlying23
  a37 := Tryz.isAgg23
  z37 := Tryz.sizeOf23
  v37 := Tryz.zeroValue23
  t46 := Tryz.underlying99
  a46 := Tryz.isAgg99
  z46 := Tryz.sizeOf99
  v46 := Tryz.zeroValue99
  t51 := Tryz.underlying96
  a51 := Tryz.isAgg96
  z51 := Tryz.sizeOf96
  v51 := Tryz.zeroValue96
  t53 := Tryz.underlying27
  a53 := Tryz.isAgg27
  z53 := Tryz.sizeOf27
  v53 := Tryz.zeroValue27
  t171 := Tryz.underlying67
  a171 := Tryz.isAgg67
  z171 := Tryz.sizeOf67
  v171 := Tryz.zeroValue67
  t173 := Tryz.underlying70
  a173 := Tryz.isAgg70
  z173 := Tryz.sizeOf70
  v173 := Tryz.zeroValue70
  t212 := Tryz.underlying95
  a212 := Tryz.isAgg95
  z212 := Tryz.sizeOf95
  v212 := Tryz.zeroValue95
  t213 := Tryz.underlying97
  a213 := Tryz.isAgg97
  z213 := Tryz.sizeOf97
  t232 := Tryz.underlying114
  a232 := Tryz.isAgg114
  z232 := Tryz.sizeOf114
  v232 := Tryz.zeroValue114
  t233 := Tryz.underlying115
  a233 := Tryz.isAgg115
  z233 := Tryz.sizeOf115
  v233 := Tryz.zeroValue115
  g17 := by kernel_rfl
  g18 := by kernel_rfl
  g19 := by kernel_rfl
  i0 := by kernel_rfl
  i2 := by kernel_rfl
  i3 := by kernel_rfl
  i4 := by kernel_rfl
  i5 := by kernel_rfl
  i9 := by kernel_rfl
  i20 := by kernel_rfl
  i37 := by kernel_rfl
  i46 := by kernel_rfl
  i51 := by kernel_rfl
  i53 := by kernel_rfl
  i171 := by kernel_rfl
  i173 := by kernel_rfl
  i212 := by kernel_rfl
  i232 := by kernel_rfl
  i233 := by kernel_rfl
  m17 := by kernel_rfl
  m18 := by kernel_rfl
  m19 := by kernel_rfl }
open Go.RowKit Go.Sort Go.Lib in
theorem Tryz.internal_strconv_FormatInt_10 (n : Int) (h0 : -9223372036854775808 ≤ n) (h1 : n ≤ 9223372036854775807) (w : World) (htab : Lib.TabIs Tryz.prog w "internal/strconv.uint64pow10" .u64 Lib.pow10Tab) :
    Calls Tryz.prog 84 #[.int .i64 n, .int .i64 10] w fun e w' => e = .returned (.string ⟨(Lib.itoa n).toArray⟩) ∧ ∃ k os, w' = grow (w.drewN k) os := Any.internal_strconv_FormatInt_10 Tryz.laysM246 n h0 h1 w htab
def Tryz.lays246_ren : Go.Shelf.Ren := ⟨fun | 246 => 84 | 283 => 26 | 284 => 27 | 285 => 28 | 286 => 29 | 129 => 40 | 317 => 39 | 318 => 41 | 319 => 42 | 320 => 43 | 337 => 50 | 338 => 51 | n => n, fun | 2 => 2 | 3 => 3 | 9 => 9 | 4 => 4 | 171 => 67 | 0 => 0 | 53 => 27 | 37 => 23 | 5 => 5 | 173 => 70 | 212 => 95 | 51 => 96 | 20 => 20 | 213 => 97 | 46 => 99 | 232 => 114 | 233 => 115 | n => n, fun | 17 => 0 | 18 => 3 | 19 => 4 | n => n⟩
theorem Tryz.lays246 : Go.Proofs.Lays.n246 Tryz.prog Tryz.lays246_ren := {
  mixed := by kernel_rfl
  f129 := Tryz.func40.trans (congrArg some (by kernel_rfl))
  f246 := Tryz.func84.trans (congrArg some (by kernel_rfl))
  f283 := Tryz.func26.trans (congrArg some (by kernel_rfl))
  f284 := Tryz.func27.trans (congrArg some (by kernel_rfl))
  f285 := Tryz.func28.trans (congrArg some (by kernel_rfl))
  f286 := Tryz.func29.trans (congrArg some (by kernel_rfl))
  f317 := Tryz.func39.trans (congrArg some (by kernel_rfl))
  f318 := Tryz.func41.trans (congrArg some (by kernel_rfl))
  f319 := Tryz.func42.trans (congrArg some (by kernel_rfl))
  f320 := Tryz.func43.trans (congrArg some (by kernel_rfl))
  f337 := Tryz.func50.trans (congrArg some (by kernel_rfl))
  f338 := Tryz.func51.trans (congrArg some (by kernel_rfl))
  t0 := Tryz.underlying0
  a0 := Tryz.isAgg0
  z0 := Tryz.sizeOf0
  v0 := Tryz.zeroValue0
  t2 := Tryz.underlying2
  a2 := Tryz.isAgg2
  z2 := Tryz.sizeOf2
  v2 := Tryz.zeroValue2
  t3 := Tryz.underlying3
  a3 := Tryz.isAgg3
  z3 := Tryz.sizeOf3
  v3 := Tryz.zeroValue3
  t4 := Tryz.underlying4
  a4 := Tryz.isAgg4
  z4 := Tryz.sizeOf4
  v4 := Tryz.zeroValue4
  t5 := Tryz.underlying5
  a5 := Tryz.isAgg5
  z5 := Tryz.sizeOf5
  v5 := Tryz.zeroValue5
  t9 := Tryz.underlying9
  a9 := Tryz.isAgg9
  z9 := Tryz.sizeOf9
  v9 := Tryz.zeroValue9
  t20 := Tryz.underlying20
  a20 := Tryz.isAgg20
  z20 := Tryz.sizeOf20
  v20 := Tryz.zeroValue20
  t37 := Tryz.underlying23
  a37 := Tryz.isAgg23
  z37 := Tryz.sizeOf23
  v37 := Tryz.zeroValue23
  t46 := Tryz.underlying99
  a46 := Tryz.isAgg99
  z46 := Tryz.sizeOf99
  v46 := Tryz.zeroValue99
  t51 := Tryz.underlying96
  a51 := Tryz.isAgg96
  z51 := Tryz.sizeOf96
  v51 := Tryz.zeroValue96
  t53 := Tryz.underlying27
  a53 := Tryz.isAgg27
  z53 := Tryz.sizeOf27
  v53 := Tryz.zeroValue27
  t171 := Tryz.underlying67
  a171 := Tryz.isAgg67
  z171 := Tryz.sizeOf67
  v171 := Tryz.zeroValue67
  t173 := Tryz.underlying70
  a173 := Tryz.isAgg70
  z173 := Tryz.sizeOf70
  v173 := Tryz.zeroValue70
  t212 := Tryz.underlying95
  a212 := Tryz.isAgg95
  z212 := Tryz.sizeOf95
  v212 := Tryz.zeroValue95
  t213 := Tryz.underlying97
  a213 := Tryz.isAgg97
  z213 := Tryz.sizeOf97
  t232 := Tryz.underlying114
  a232 := Tryz.isAgg114
  z232 := Tryz.sizeOf114
  v232 := Tryz.zeroValue114
  t233 := Tryz.underlying115
  a233 := Tryz.isAgg115
  z233 := Tryz.sizeOf115
  v233 := Tryz.zeroValue115
  g17 := by kernel_rfl
  g18 := by kernel_rfl
  g19 := by kernel_rfl }
open Go.RowKit Go.Sort Go.Lib in
theorem Tryz.internal_strconv_FormatInt_10_small (i : Nat) (hi : i < 100) (w : World) :
    Calls Tryz.prog 84 #[.int .i64 i, .int .i64 10] w fun e w' => e = .returned (.string ⟨(Lib.decDigits i).toArray⟩) ∧ w' = w := Any.internal_strconv_FormatInt_10_small Tryz.lays246 i hi w
def Tryz.laysM173_ren : Go.Shelf.Ren := ⟨fun | 173 => 82 | 246 => 84 | 283 => 26 | 284 => 27 | 285 => 28 | 286 => 29 | 129 => 40 | 317 => 39 | 318 => 41 | 319 => 42 | 320 => 43 | 337 => 50 | 338 => 51 | n => n, fun | 2 => 2 | 3 => 3 | 9 => 9 | 4 => 4 | 171 => 67 | 0 => 0 | 53 => 27 | 37 => 23 | 5 => 5 | 173 => 70 | 212 => 95 | 51 => 96 | 20 => 20 | 213 => 97 | 46 => 99 | 232 => 114 | 233 => 115 | n => n, fun | 17 => 0 | 18 => 3 | 19 => 4 | n => n⟩
theorem Tryz.laysM173 : Go.Proofs.LaysM.n173 Tryz.prog Tryz.laysM173_ren := {
  mixed := by kernel_rfl
  f129 := Tryz.func40.trans (congrArg some (by kernel_rfl))
  f173 := Tryz.func82.trans (congrArg some (by kernel_rfl))
  f246 := Tryz.func84.trans (congrArg some (by kernel_rfl))
  f283 := Tryz.func26.trans (congrArg some (by kernel_rfl))
  f284 := Tryz.func27.trans (congrArg some (by kernel_rfl))
  f285 := Tryz.func28.trans (congrArg some (by kernel_rfl))
  f286 := Tryz.func29.trans (congrArg some (by kernel_rfl))
  f317 := Tryz.func39.trans (congrArg some (by kernel_rfl))
  f318 := Tryz.func41.trans (congrArg some (by kernel_rfl))
  f319 := Tryz.func42.trans (congrArg some (by kernel_rfl))
  f320 := Tryz.func43.trans (congrArg some (by kernel_rfl))
  f337 := Tryz.func50.trans (congrArg some (by kernel_rfl))
  f338 := Tryz.func51.trans (congrArg some (by kernel_rfl))
  t0 := Tryz.underlying0
  a0 := Tryz.isAgg0
  z0 := Tryz.sizeOf0
  v0 := Tryz.zeroValue0
  t2 := Tryz.underlying2
  a2 := Tryz.isAgg2
  z2 := Tryz.sizeOf2
  v2 := Tryz.zeroValue2
  t3 := Tryz.underlying3
  a3 := Tryz.isAgg3
  z3 := Tryz.sizeOf3
  v3 := Tryz.zeroValue3
  t4 := Tryz.underlying4
  a4 := Tryz.isAgg4
  z4 := Tryz.sizeOf4
  v4 := Tryz.zeroValue4
  t5 := Tryz.underlying5
  a5 := Tryz.isAgg5
  z5 := Tryz.sizeOf5
  v5 := Tryz.zeroValue5
  t9 := Tryz.underlying9
  a9 := Tryz.isAgg9
  z9 := Tryz.sizeOf9
  v9 := Tryz.zeroValue9
  t20 := Tryz.underlying20
  a20 := Tryz.isAgg20
  z20 := Tryz.sizeOf20
  v20 := Tryz.zeroValue20
  t37 := Tryz.underlying23
  a37 := Tryz.isAgg23
  z37 := Tryz.sizeOf23
  v37 := Tryz.zeroValue23
  t46 := Tryz.underlying99
  a46 := Tryz.isAgg99
  z46 := Tryz.sizeOf99
  v46 := Tryz.zeroValue99
  t51 := Tryz.underlying96
  a51 := Tryz.isAgg96
  z51 := Tryz.sizeOf96
  v51 := Tryz.zeroValue96
  t53 := Tryz.underlying27
  a53 := Tryz.isAgg27
  z53 := Tryz.sizeOf27
  v53 := Tryz.zeroValue27
  t171 := Tryz.underlying67
  a171 := Tryz.isAgg67
  z171 := Tryz.sizeOf67
  v171 := Tryz.zeroValue67
  t173 := Tryz.underlying70
  a173 := Tryz.isAgg70
  z173 := Tryz.sizeOf70
  v173 := Tryz.zeroValue70
  t212 := Tryz.underlying95
  a212 := Tryz.isAgg95
  z212 := Tryz.sizeOf95
  v212 := Tryz.zeroValue95
  t213 := Tryz.underlying97
  a213 := Tryz.isAgg97
  z213 := Tryz.sizeOf97
  t232 := Tryz.underlying114
  a232 := Tryz.isAgg114
  z232 := Tryz.sizeOf114
  v232 := Tryz.zeroValue114
  t233 := Tryz.underlying115
  a233 := Tryz.isAgg115
  z233 := Tryz.sizeOf115
  v233 := Tryz.zeroValue115
  g17 := by kernel_rfl
  g18 := by kernel_rfl
  g19 := by kernel_rfl
  i0 := by kernel_rfl
  i2 := by kernel_rfl
  i3 := by kernel_rfl
  i4 := by kernel_rfl
  i5 := by kernel_rfl
  i9 := by kernel_rfl
  i20 := by kernel_rfl
  i37 := by kernel_rfl
  i46 := by kernel_rfl
  i51 := by kernel_rfl
  i53 := by kernel_rfl
  i171 := by kernel_rfl
  i173 := by kernel_rfl
  i212 := by kernel_rfl
  i232 := by kernel_rfl
  i233 := by kernel_rfl
  m17 := by kernel_rfl
  m18 := by kernel_rfl
  m19 := by kernel_rfl }
open Go.RowKit Go.Sort Go.Lib in
theorem Tryz.strconv_FormatInt_10 (n : Int) (h0 : -9223372036854775808 ≤ n) (h1 : n ≤ 9223372036854775807) (w : World) (htab : Lib.TabIs Tryz.prog w "internal/strconv.uint64pow10" .u64 Lib.pow10Tab) :
    Calls Tryz.prog 82 #[.int .i64 n, .int .i64 10] w fun e w' => e = .returned (.string ⟨(Lib.itoa n).toArray⟩) ∧ ∃ k os, w' = grow (w.drewN k) os := Any.strconv_FormatInt_10 Tryz.laysM173 n h0 h1 w htab
def Tryz.lays173_ren : Go.Shelf.Ren := ⟨fun | 173 => 82 | 246 => 84 | 283 => 26 | 284 => 27 | 285 => 28 | 286 => 29 | 129 => 40 | 317 => 39 | 318 => 41 | 319 => 42 | 320 => 43 | 337 => 50 | 338 => 51 | n => n, fun | 2 => 2 | 3 => 3 | 9 => 9 | 4 => 4 | 171 => 67 | 0 => 0 | 53 => 27 | 37 => 23 | 5 => 5 | 173 => 70 | 212 => 95 | 51 => 96 | 20 => 20 | 213 => 97 | 46 => 99 | 232 => 114 | 233 => 115 | n => n, fun | 17 => 0 | 18 => 3 | 19 => 4 | n => n⟩
theorem Tryz.lays173 : Go.Proofs.Lays.n173 Tryz.prog Tryz.lays173_ren := {
  mixed := by kernel_rfl
  f129 := Tryz.func40.trans (congrArg some (by kernel_rfl))
  f173 := Tryz.func82.trans (congrArg some (by kernel_rfl))
  f246 := Tryz.func84.trans (congrArg some (by kernel_rfl))
  f283 := Tryz.func26.trans (congrArg some (by kernel_rfl))
  f284 := Tryz.func27.trans (congrArg some (by kernel_rfl))
  f285 := Tryz.func28.trans (congrArg some (by kernel_rfl))
  f286 := Tryz.func29.trans (congrArg some (by kernel_rfl))
  f317 := Tryz.func39.trans (congrArg some (by kernel_rfl))
  f318 := Tryz.func41.trans (congrArg some (by kernel_rfl))
  f319 := Tryz.func42.trans (congrArg some (by kernel_rfl))
  f320 := Tryz.func43.trans (congrArg some (by kernel_rfl))
  f337 := Tryz.func50.trans (congrArg some (by kernel_rfl))
  f338 := Tryz.func51.trans (congrArg some (by kernel_rfl))
  t0 := Tryz.underlying0
  a0 := Tryz.isAgg0
  z0 := Tryz.sizeOf0
  v0 := Tryz.zeroValue0
  t2 := Tryz.underlying2
  a2 := Tryz.isAgg2
  z2 := Tryz.sizeOf2
  v2 := Tryz.zeroValue2
  t3 := Tryz.underlying3
  a3 := Tryz.isAgg3
  z3 := Tryz.sizeOf3
  v3 := Tryz.zeroValue3
  t4 := Tryz.underlying4
  a4 := Tryz.isAgg4
  z4 := Tryz.sizeOf4
  v4 := Tryz.zeroValue4
  t5 := Tryz.underlying5
  a5 := Tryz.isAgg5
  z5 := Tryz.sizeOf5
  v5 := Tryz.zeroValue5
  t9 := Tryz.underlying9
  a9 := Tryz.isAgg9
  z9 := Tryz.sizeOf9
  v9 := Tryz.zeroValue9
  t20 := Tryz.underlying20
  a20 := Tryz.isAgg20
  z20 := Tryz.sizeOf20
  v20 := Tryz.zeroValue20
  t37 := Tryz.underlying23
  a37 := Tryz.isAgg23
  z37 := Tryz.sizeOf23
  v37 := Tryz.zeroValue23
  t46 := Tryz.underlying99
  a46 := Tryz.isAgg99
  z46 := Tryz.sizeOf99
  v46 := Tryz.zeroValue99
  t51 := Tryz.underlying96
  a51 := Tryz.isAgg96
  z51 := Tryz.sizeOf96
  v51 := Tryz.zeroValue96
  t53 := Tryz.underlying27
  a53 := Tryz.isAgg27
  z53 := Tryz.sizeOf27
  v53 := Tryz.zeroValue27
  t171 := Tryz.underlying67
  a171 := Tryz.isAgg67
  z171 := Tryz.sizeOf67
  v171 := Tryz.zeroValue67
  t173 := Tryz.underlying70
  a173 := Tryz.isAgg70
  z173 := Tryz.sizeOf70
  v173 := Tryz.zeroValue70
  t212 := Tryz.underlying95
  a212 := Tryz.isAgg95
  z212 := Tryz.sizeOf95
  v212 := Tryz.zeroValue95
  t213 := Tryz.underlying97
  a213 := Tryz.isAgg97
  z213 := Tryz.sizeOf97
  t232 := Tryz.underlying114
  a232 := Tryz.isAgg114
  z232 := Tryz.sizeOf114
  v232 := Tryz.zeroValue114
  t233 := Tryz.underlying115
  a233 := Tryz.isAgg115
  z233 := Tryz.sizeOf115
  v233 := Tryz.zeroValue115
  g17 := by kernel_rfl
  g18 := by kernel_rfl
  g19 := by kernel_rfl }
open Go.RowKit Go.Sort Go.Lib in
theorem Tryz.strconv_FormatInt_10_small (i : Nat) (hi : i < 100) (w : World) :
    Calls Tryz.prog 82 #[.int .i64 i, .int .i64 10] w fun e w' => e = .returned (.string ⟨(Lib.decDigits i).toArray⟩) ∧ w' = w := Any.strconv_FormatInt_10_small Tryz.lays173 i hi w
def Tryz.lays217_ren : Go.Shelf.Ren := ⟨fun | 217 => 52 | 266 => 59 | n => n, fun | 9 => 9 | 5 => 5 | 3 => 3 | n => n, fun | n => n⟩
theorem Tryz.lays217 : Go.Proofs.Lays.n217 Tryz.prog Tryz.lays217_ren := {
  mixed := by kernel_rfl
  f217 := Tryz.func52.trans (congrArg some (by kernel_rfl))
  f266 := Tryz.func59.trans (congrArg some (by kernel_rfl))
  t3 := Tryz.underlying3
  a3 := Tryz.isAgg3
  z3 := Tryz.sizeOf3
  v3 := Tryz.zeroValue3
  t5 := Tryz.underlying5
  a5 := Tryz.isAgg5
  z5 := Tryz.sizeOf5
  v5 := Tryz.zeroValue5
  t9 := Tryz.underlying9
  a9 := Tryz.isAgg9
  z9 := Tryz.sizeOf9
  v9 := Tryz.zeroValue9 }
open Go.RowKit Go.Lib in
theorem Tryz.stringslite_IndexByte (s : ByteArray) (c : Int) (w : World) :
    Calls Tryz.prog 52 #[.string s, .int .u8 c] w fun e w' => e = .returned (.int .i64 (Lib.indexByte s.data.toList c.toNat.toUInt8)) ∧ w' = w := Any.stringslite_IndexByte Tryz.lays217 s c w
def Tryz.lays206_ren : Go.Shelf.Ren := ⟨fun | 206 => 60 | n => n, fun | 9 => 9 | 4 => 4 | 3 => 3 | n => n, fun | n => n⟩
theorem Tryz.lays206 : Go.Proofs.Lays.n206 Tryz.prog Tryz.lays206_ren := {
  mixed := by kernel_rfl
  f206 := Tryz.func60.trans (congrArg some (by kernel_rfl))
  t3 := Tryz.underlying3
  a3 := Tryz.isAgg3
  z3 := Tryz.sizeOf3
  v3 := Tryz.zeroValue3
  t4 := Tryz.underlying4
  a4 := Tryz.isAgg4
  z4 := Tryz.sizeOf4
  v4 := Tryz.zeroValue4
  t9 := Tryz.underlying9
  a9 := Tryz.isAgg9
  z9 := Tryz.sizeOf9
  v9 := Tryz.zeroValue9 }
open Go.RowKit Go.Lib in
theorem Tryz.stringslite_HasPrefix (s p : ByteArray) (w : World) :
    Calls Tryz.prog 60 #[.string s, .string p] w fun e w' => e = .returned (.bool (Lib.hasPrefix s.data.toList p.data.toList)) ∧ w' = w := Any.stringslite_HasPrefix Tryz.lays206 s p w
def Tryz.lays99_ren : Go.Shelf.Ren := ⟨fun | 99 => 54 | 206 => 60 | n => n, fun | 9 => 9 | 4 => 4 | 3 => 3 | n => n, fun | n => n⟩
theorem Tryz.lays99 : Go.Proofs.Lays.n99 Tryz.prog Tryz.lays99_ren := {
  mixed := by kernel_rfl
  f99 := Tryz.func54.trans (congrArg some (by kernel_rfl))
  f206 := Tryz.func60.trans (congrArg some (by kernel_rfl))
  t3 := Tryz.underlying3
  a3 := Tryz.isAgg3
  z3 := Tryz.sizeOf3
  v3 := Tryz.zeroValue3
  t4 := Tryz.underlying4
  a4 := Tryz.isAgg4
  z4 := Tryz.sizeOf4
  v4 := Tryz.zeroValue4
  t9 := Tryz.underlying9
  a9 := Tryz.isAgg9
  z9 := Tryz.sizeOf9
  v9 := Tryz.zeroValue9 }
open Go.RowKit Go.Lib in
theorem Tryz.strings_HasPrefix (s p : ByteArray) (w : World) :
    Calls Tryz.prog 54 #[.string s, .string p] w fun e w' => e = .returned (.bool (Lib.hasPrefix s.data.toList p.data.toList)) ∧ w' = w := Any.strings_HasPrefix Tryz.lays99 s p w
def Tryz.lays264_ren : Go.Shelf.Ren := ⟨fun | 264 => 120 | n => n, fun | 53 => 27 | 46 => 99 | n => n, fun | n => n⟩
theorem Tryz.lays264 : Go.Proofs.Lays.n264 Tryz.prog Tryz.lays264_ren := {
  mixed := by kernel_rfl
  f264 := Tryz.func120.trans (congrArg some (by kernel_rfl))
  t46 := Tryz.underlying99
  a46 := Tryz.isAgg99
  z46 := Tryz.sizeOf99
  v46 := Tryz.zeroValue99
  t53 := Tryz.underlying27
  a53 := Tryz.isAgg27
  z53 := Tryz.sizeOf27
  v53 := Tryz.zeroValue27 }
open Go.RowKit Go.Lib in
theorem Tryz.bits_Mul64 (x y : Nat) (hx : x < 18446744073709551616) (hy : y < 18446744073709551616) (w : World) :
    Calls Tryz.prog 120 #[.int .u64 x, .int .u64 y] w fun e w' => e = .returned (.tuple #[.int .u64 ((x * y / 18446744073709551616 : Nat) : Int), .int .u64 ((x * y % 18446744073709551616 : Nat) : Int)]) ∧ w' = w := Any.bits_Mul64 Tryz.lays264 x y hx hy w
def Tryz.laysIns_ren : Go.Shelf.Ren := ⟨fun | 20 => 56 | n => n, fun | 24 => 79 | 22 => 44 | 3 => 3 | 25 => 83 | 4 => 4 | 0 => 0 | n => n, fun | n => n⟩
theorem Tryz.laysIns : Go.Proofs.SlLaysF.n20 Tryz.prog Tryz.laysIns_ren := {
  mixed := by kernel_rfl
  f20 := ⟨Tryz.f56.name, by decide, Tryz.func56.trans (congrArg some (by kernel_rfl))⟩
  t0 := Tryz.underlying0
  a0 := Tryz.isAgg0
  z0 := Tryz.sizeOf0
  v0 := Tryz.zeroValue0
  t3 := Tryz.underlying3
  a3 := Tryz.isAgg3
  z3 := Tryz.sizeOf3
  v3 := Tryz.zeroValue3
  t4 := Tryz.underlying4
  a4 := Tryz.isAgg4
  z4 := Tryz.sizeOf4
  v4 := Tryz.zeroValue4
  t22 := Tryz.underlying44
  a22 := Tryz.isAgg44
  z22 := Tryz.sizeOf44
  v22 := Tryz.zeroValue44
  a24 := Tryz.isAgg79
  z24 := Tryz.sizeOf79
  t25 := Tryz.underlying83
  a25 := Tryz.isAgg83
  z25 := Tryz.sizeOf83
  v25 := Tryz.zeroValue83 }
open Go.RowKit Go.Sort Go.Lib in
theorem Tryz.insertionSortCmp {α : Type} [Inhabited α] (enc : α → Value) (cf : α → α → Int) (g : Nat) (cb : Array Value) (blk off cap a b : Nat) (d0 d : Array α) (w0 w : World)
    (eg : ∀ args w, (callFunc g args).run Tryz.prog w = .ok (.enter g args) w) (hcmp : CmpLays1 Tryz.prog g cb enc cf blk off d0.size w0) (R : Row1 enc w0 blk off d0) (hs : d0.size = d.size) (S : SW enc w0 blk off d w) (hab : a ≤ b) (hb : b ≤ d.size) (hsz : d.size < 4611686018427387904) :
    Calls Tryz.prog 56 #[.slice (some ⟨blk, off, none⟩) d.size cap, .int .i64 a, .int .i64 b, .func (.func g) #[] cb] w fun e w' => e = .returned (.tuple #[]) ∧ SW enc w0 blk off (Sort.insertionSort (ltOf cf) d a b) w' :=
  Any.insertionSortCmpFunc_s Tryz.laysIns enc cf g cb blk off cap a b d0 d w0 w eg hcmp R hs S hab hb hsz
end Go.Proofs
