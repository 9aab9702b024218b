/-
  DERIVED: THE SHELF's CONTRACTS AT THIS DUMP, IN PLAIN WORDS (tools/lay-plain.mjs out of 'TrydShelf.lean', which tools/lay-shelf.mjs wrote): THE SAME DECLARATIONS UNDER THE SAME NAMES: 'import', 'namespace', 'open', 'def', 'theorem' AND NOTHING ELSE: no command of the shelf's: FOR A HAND-IN. Each laying: the table of numbers ('.._ren') and one theorem, a field a fact of the dump's own or the kernel's comparison; each contract: ONE APPLICATION.
-/
import Derived.Shelf.Strconv.Itoa0
import Derived.Shelf.Strconv.Itoa1
import Derived.Shelf.LaysM
import Derived.Shelf.Strconv.Itoa2
import Derived.Shelf.Strconv.Itoa3
import Derived.Shelf.Strings.Fields
import Derived.Shelf.Unicode.Latin
import Derived.Shelf.Unicode.Is16White
import Derived.Shelf.Unicode.IsSpaceAny
import Derived.Shelf.Unicode.Is16Any
import Derived.Shelf.Unicode.Is32Any
import Derived.Shelf.Unicode.ExclAny
import Derived.Shelf.Slices.Turned
import Derived.Test.YteoefhjjcimknaaDoorProg
namespace Go.Proofs
open Go.Shelf
def Tryd.lays129_ren : Go.Shelf.Ren := ⟨fun | 129 => 52 | n => n, fun | 53 => 144 | 3 => 3 | 4 => 4 | 46 => 141 | 5 => 5 | 9 => 9 | n => n, fun | n => n⟩
theorem Tryd.lays129 : Go.Proofs.Lays.n129 Tryd.prog Tryd.lays129_ren := {
  mixed := by kernel_rfl
  f129 := Tryd.func52.trans (congrArg some (by kernel_rfl))
  t3 := Tryd.underlying3
  a3 := Tryd.isAgg3
  z3 := Tryd.sizeOf3
  v3 := Tryd.zeroValue3
  t4 := Tryd.underlying4
  a4 := Tryd.isAgg4
  z4 := Tryd.sizeOf4
  v4 := Tryd.zeroValue4
  t5 := Tryd.underlying5
  a5 := Tryd.isAgg5
  z5 := Tryd.sizeOf5
  v5 := Tryd.zeroValue5
  t9 := Tryd.underlying9
  a9 := Tryd.isAgg9
  z9 := Tryd.sizeOf9
  v9 := Tryd.zeroValue9
  t46 := Tryd.underlying141
  a46 := Tryd.isAgg141
  z46 := Tryd.sizeOf141
  v46 := Tryd.zeroValue141
  t53 := Tryd.underlying144
  a53 := Tryd.isAgg144
  z53 := Tryd.sizeOf144
  v53 := Tryd.zeroValue144 }
/-- bits.Len64: "Len64 returns the minimum number of bits required to represent x; the result is 0 for x == 0.": IT RETURNS 'Lib.bitLen x'; the world is as it was. ('h0', 'h1': x is a uint64.) (LAID: no walk: one application.) -/
theorem Tryd.bits_Len64 (x : Int) (w : World) (h0 : 0 ≤ x) (h1 : x ≤ 18446744073709551615) :
    Calls Tryd.prog 52 #[.int .u64 x] w fun e w' => e = .returned (.int .i64 (Lib.bitLen x.toNat)) ∧ w' = w := Any.bits_Len64 Tryd.lays129 x w h0 h1
def Tryd.lays317_ren : Go.Shelf.Ren := ⟨fun | 317 => 51 | n => n, fun | 3 => 3 | 46 => 141 | n => n, fun | n => n⟩
theorem Tryd.lays317 : Go.Proofs.Lays.n317 Tryd.prog Tryd.lays317_ren := {
  mixed := by kernel_rfl
  f317 := Tryd.func51.trans (congrArg some (by kernel_rfl))
  t3 := Tryd.underlying3
  a3 := Tryd.isAgg3
  z3 := Tryd.sizeOf3
  v3 := Tryd.zeroValue3
  t46 := Tryd.underlying141
  a46 := Tryd.isAgg141
  z46 := Tryd.sizeOf141
  v46 := Tryd.zeroValue141 }
open Go.Lib in
/-- internal/strconv.log10Pow2: "log10Pow2(x) returns ⌊log₁₀ 2**x⌋ = ⌊x * log₁₀ 2⌋.": '(x * 78913) >> 18', at an x up to 64 (a length in bits). The world is as it was. (LAID: no walk: one application.) -/
theorem Tryd.internal_strconv_log10Pow2 (x : Nat) (h : x ≤ 64) (w : World) :
    Calls Tryd.prog 51 #[.int .i64 x] w fun e w' => e = .returned (.int .i64 (Lib.l10 x)) ∧ w' = w := Any.internal_strconv_log10Pow2 Tryd.lays317 x h w
def Tryd.lays318_ren : Go.Shelf.Ren := ⟨fun | 318 => 53 | n => n, fun | 3 => 3 | 4 => 4 | n => n, fun | n => n⟩
theorem Tryd.lays318 : Go.Proofs.Lays.n318 Tryd.prog Tryd.lays318_ren := {
  mixed := by kernel_rfl
  f318 := Tryd.func53.trans (congrArg some (by kernel_rfl))
  t3 := Tryd.underlying3
  a3 := Tryd.isAgg3
  z3 := Tryd.sizeOf3
  v3 := Tryd.zeroValue3
  t4 := Tryd.underlying4
  a4 := Tryd.isAgg4
  z4 := Tryd.sizeOf4
  v4 := Tryd.zeroValue4 }
open Go.Lib in
/-- internal/strconv.bool2: "bool2 converts b to an integer: 1 for true, 0 for false." The world is as it was. (LAID: no walk: one application.) -/
theorem Tryd.internal_strconv_bool2_int (b : Bool) (w : World) :
    Calls Tryd.prog 53 #[.bool b] w fun e w' => e = .returned (.int .i64 (if b then 1 else 0)) ∧ w' = w := Any.internal_strconv_bool2_int Tryd.lays318 b w
def Tryd.lays283_ren : Go.Shelf.Ren := ⟨fun | 283 => 47 | n => n, fun | 3 => 3 | 9 => 9 | 4 => 4 | n => n, fun | n => n⟩
theorem Tryd.lays283 : Go.Proofs.Lays.n283 Tryd.prog Tryd.lays283_ren := {
  mixed := by kernel_rfl
  f283 := Tryd.func47.trans (congrArg some (by kernel_rfl))
  t3 := Tryd.underlying3
  a3 := Tryd.isAgg3
  z3 := Tryd.sizeOf3
  v3 := Tryd.zeroValue3
  t4 := Tryd.underlying4
  a4 := Tryd.isAgg4
  z4 := Tryd.sizeOf4
  v4 := Tryd.zeroValue4
  t9 := Tryd.underlying9
  a9 := Tryd.isAgg9
  z9 := Tryd.sizeOf9
  v9 := Tryd.zeroValue9 }
open Go.Lib in
/-- internal/strconv.small: "small returns the string for an i with 0 <= i < nSmalls.": i's decimal numeral. The world is as it was. (LAID: no walk: one application.) -/
theorem Tryd.internal_strconv_small (i : Nat) (h : i < 100) (w : World) :
    Calls Tryd.prog 47 #[.int .i64 i] w fun e w' => e = .returned (.string ⟨(Lib.decDigits i).toArray⟩) ∧ w' = w := Any.internal_strconv_small Tryd.lays283 i h w
def Tryd.laysM284_ren : Go.Shelf.Ren := ⟨fun | 284 => 48 | 129 => 52 | 317 => 51 | 318 => 53 | n => n, fun | 53 => 144 | 3 => 3 | 212 => 151 | 0 => 0 | 4 => 4 | 46 => 141 | 5 => 5 | 9 => 9 | n => n, fun | 17 => 3 | n => n⟩
theorem Tryd.laysM284 : Go.Proofs.LaysM.n284 Tryd.prog Tryd.laysM284_ren := {
  mixed := by kernel_rfl
  f129 := Tryd.func52.trans (congrArg some (by kernel_rfl))
  f284 := Tryd.func48.trans (congrArg some (by kernel_rfl))
  f317 := Tryd.func51.trans (congrArg some (by kernel_rfl))
  f318 := Tryd.func53.trans (congrArg some (by kernel_rfl))
  t0 := Tryd.underlying0
  a0 := Tryd.isAgg0
  z0 := Tryd.sizeOf0
  v0 := Tryd.zeroValue0
  t3 := Tryd.underlying3
  a3 := Tryd.isAgg3
  z3 := Tryd.sizeOf3
  v3 := Tryd.zeroValue3
  t4 := Tryd.underlying4
  a4 := Tryd.isAgg4
  z4 := Tryd.sizeOf4
  v4 := Tryd.zeroValue4
  t5 := Tryd.underlying5
  a5 := Tryd.isAgg5
  z5 := Tryd.sizeOf5
  v5 := Tryd.zeroValue5
  t9 := Tryd.underlying9
  a9 := Tryd.isAgg9
  z9 := Tryd.sizeOf9
  v9 := Tryd.zeroValue9
  t46 := Tryd.underlying141
  a46 := Tryd.isAgg141
  z46 := Tryd.sizeOf141
  v46 := Tryd.zeroValue141
  t53 := Tryd.underlying144
  a53 := Tryd.isAgg144
  z53 := Tryd.sizeOf144
  v53 := Tryd.zeroValue144
  t212 := Tryd.underlying151
  a212 := Tryd.isAgg151
  z212 := Tryd.sizeOf151
  v212 := Tryd.zeroValue151
  g17 := by kernel_rfl
  i0 := by kernel_rfl
  i3 := by kernel_rfl
  i4 := by kernel_rfl
  i5 := by kernel_rfl
  i9 := by kernel_rfl
  i46 := by kernel_rfl
  i53 := by kernel_rfl
  i212 := by kernel_rfl
  m17 := by kernel_rfl }
open Go.Lib in
/-- internal/strconv.numDigits, at a d that is not 0: THE NUMBER OF d's DECIMAL DIGITS. The world is as it was. (LAID: no walk: one application.) -/
theorem Tryd.internal_strconv_numDigits (u : Nat) (h1 : 1 ≤ u) (h2 : u < 18446744073709551616) (w : World) (htab : Lib.TabIs Tryd.prog w "internal/strconv.uint64pow10" .u64 Lib.pow10Tab) :
    Calls Tryd.prog 48 #[.int .u64 u] w fun e w' => e = .returned (.int .i64 (Lib.nDigits u)) ∧ w' = w := Any.internal_strconv_numDigits Tryd.laysM284 u h1 h2 w htab
def Tryd.lays285_ren : Go.Shelf.Ren := ⟨fun | 285 => 49 | n => n, fun | 37 => 147 | 53 => 144 | 3 => 3 | 4 => 4 | 51 => 118 | 9 => 9 | 5 => 5 | 0 => 0 | n => n, fun | n => n⟩
theorem Tryd.lays285 : Go.Proofs.Lays.n285 Tryd.prog Tryd.lays285_ren := {
  mixed := by kernel_rfl
  f285 := Tryd.func49.trans (congrArg some (by kernel_rfl))
  t0 := Tryd.underlying0
  a0 := Tryd.isAgg0
  z0 := Tryd.sizeOf0
  v0 := Tryd.zeroValue0
  t3 := Tryd.underlying3
  a3 := Tryd.isAgg3
  z3 := Tryd.sizeOf3
  v3 := Tryd.zeroValue3
  t4 := Tryd.underlying4
  a4 := Tryd.isAgg4
  z4 := Tryd.sizeOf4
  v4 := Tryd.zeroValue4
  t5 := Tryd.underlying5
  a5 := Tryd.isAgg5
  z5 := Tryd.sizeOf5
  v5 := Tryd.zeroValue5
  t9 := Tryd.underlying9
  a9 := Tryd.isAgg9
  z9 := Tryd.sizeOf9
  v9 := Tryd.zeroValue9
  t37 := Tryd.underlying147
  a37 := Tryd.isAgg147
  z37 := Tryd.sizeOf147
  v37 := Tryd.zeroValue147
  t51 := Tryd.underlying118
  a51 := Tryd.isAgg118
  z51 := Tryd.sizeOf118
  v51 := Tryd.zeroValue118
  t53 := Tryd.underlying144
  a53 := Tryd.isAgg144
  z53 := Tryd.sizeOf144
  v53 := Tryd.zeroValue144 }
open Go.RowKit Go.Sort Go.Lib in
/-- internal/strconv.formatBase10: "formatBase10 formats the decimal representation of u into a. The caller is responsible for ensuring that a is big enough to hold u. If a is too big, leading zeros will be filled in as needed.": THE ROW HOLDS u's DIGITS ('FmtInv .. 0 ..': every place t holds 'dg u (len - 1 - t)'); all else is as it was but for the count of draws. (LAID: no walk: one application.) -/
theorem Tryd.internal_strconv_formatBase10 (blk off cap : Nat) (u : Nat) (d : Array UInt8) (w : World) (hH : Holds (fun (b : UInt8) => Value.int .u8 (b.toNat : Int)) w blk off d) (hu : u < 10 ^ d.size) (hu64 : u < 18446744073709551616) (hsz : d.size < 4611686018427387904) :
    Calls Tryd.prog 49 #[.slice (some ⟨blk, off, none⟩) d.size cap, .int .u64 u] w fun e w' =>
      e = .returned (.tuple #[]) ∧ ∃ (n v' : Nat) (dk : Array UInt8), w' = (putRow (fun (b : UInt8) => Value.int .u8 (b.toNat : Int)) w blk off dk).drewN n ∧ FmtInv d.size u 0 v' dk := Any.internal_strconv_formatBase10 Tryd.lays285 blk off cap u d w hH hu hu64 hsz
def Tryd.laysM246_ren : Go.Shelf.Ren := ⟨fun | 246 => 46 | 283 => 47 | 284 => 48 | 285 => 49 | 286 => 50 | 129 => 52 | 317 => 51 | 318 => 53 | 319 => 54 | 320 => 55 | 337 => 56 | 338 => 57 | n => n, fun | 2 => 2 | 3 => 3 | 9 => 9 | 4 => 4 | 171 => 143 | 0 => 0 | 53 => 144 | 37 => 147 | 5 => 5 | 173 => 148 | 212 => 151 | 51 => 118 | 20 => 20 | 213 => 152 | 46 => 141 | 232 => 155 | 233 => 156 | n => n, fun | 17 => 3 | 18 => 4 | 19 => 5 | n => n⟩
theorem Tryd.laysM246 : Go.Proofs.LaysM.n246 Tryd.prog Tryd.laysM246_ren := {
  mixed := by kernel_rfl
  f129 := Tryd.func52.trans (congrArg some (by kernel_rfl))
  f246 := Tryd.func46.trans (congrArg some (by kernel_rfl))
  f283 := Tryd.func47.trans (congrArg some (by kernel_rfl))
  f284 := Tryd.func48.trans (congrArg some (by kernel_rfl))
  f285 := Tryd.func49.trans (congrArg some (by kernel_rfl))
  f286 := Tryd.func50.trans (congrArg some (by kernel_rfl))
  f317 := Tryd.func51.trans (congrArg some (by kernel_rfl))
  f318 := Tryd.func53.trans (congrArg some (by kernel_rfl))
  f319 := Tryd.func54.trans (congrArg some (by kernel_rfl))
  f320 := Tryd.func55.trans (congrArg some (by kernel_rfl))
  f337 := Tryd.func56.trans (congrArg some (by kernel_rfl))
  f338 := Tryd.func57.trans (congrArg some (by kernel_rfl))
  t0 := Tryd.underlying0
  a0 := Tryd.isAgg0
  z0 := Tryd.sizeOf0
  v0 := Tryd.zeroValue0
  t2 := Tryd.underlying2
  a2 := Tryd.isAgg2
  z2 := Tryd.sizeOf2
  v2 := Tryd.zeroValue2
  t3 := Tryd.underlying3
  a3 := Tryd.isAgg3
  z3 := Tryd.sizeOf3
  v3 := Tryd.zeroValue3
  t4 := Tryd.underlying4
  a4 := Tryd.isAgg4
  z4 := Tryd.sizeOf4
  v4 := Tryd.zeroValue4
  t5 := Tryd.underlying5
  a5 := Tryd.isAgg5
  z5 := Tryd.sizeOf5
  v5 := Tryd.zeroValue5
  t9 := Tryd.underlying9
  a9 := Tryd.isAgg9
  z9 := Tryd.sizeOf9
  v9 := Tryd.zeroValue9
  t20 := Tryd.underlying20
  a20 := Tryd.isAgg20
  z20 := Tryd.sizeOf20
  v20 := Tryd.zeroValue20
  t37 := Tryd.underlying147
  a37 := Tryd.isAgg147
  z37 := Tryd.sizeOf147
  v37 := Tryd.zeroValue147
  t46 := Tryd.underlying141
  a46 := Tryd.isAgg141
  z46 := Tryd.sizeOf141
  v46 := Tryd.zeroValue141
  t51 := Tryd.underlying118
  a51 := Tryd.isAgg118
  z51 := Tryd.sizeOf118
  v51 := Tryd.zeroValue118
  t53 := Tryd.underlying144
  a53 := Tryd.isAgg144
  z53 := Tryd.sizeOf144
  v53 := Tryd.zeroValue144
  t171 := Tryd.underlying143
  a171 := Tryd.isAgg143
  z171 := Tryd.sizeOf143
  v171 := Tryd.zeroValue143
  t173 := Tryd.underlying148
  a173 := Tryd.isAgg148
  z173 := Tryd.sizeOf148
  v173 := Tryd.zeroValue148
  t212 := Tryd.underlying151
  a212 := Tryd.isAgg151
  z212 := Tryd.sizeOf151
  v212 := Tryd.zeroValue151
  t213 := Tryd.underlying152
  a213 := Tryd.isAgg152
  z213 := Tryd.sizeOf152
  t232 := Tryd.underlying155
  a232 := Tryd.isAgg155
  z232 := Tryd.sizeOf155
  v232 := Tryd.zeroValue155
  t233 := Tryd.underlying156
  a233 := Tryd.isAgg156
  z233 := Tryd.sizeOf156
  v233 := Tryd.zeroValue156
  g17 := by kernel_rfl
  g18 := by kernel_rfl
  g19 := by kernel_rfl
  i0 := by kernel_rfl
  i2 := by kernel_rfl
  i3 := by kernel_rfl
  i4 := by kernel_rfl
  i5 := by kernel_rfl
  i9 := by kernel_rfl
  i20 := by kernel_rfl
  i37 := by kernel_rfl
  i46 := by kernel_rfl
  i51 := by kernel_rfl
  i53 := by kernel_rfl
  i171 := by kernel_rfl
  i173 := by kernel_rfl
  i212 := by kernel_rfl
  i232 := by kernel_rfl
  i233 := by kernel_rfl
  m17 := by kernel_rfl
  m18 := by kernel_rfl
  m19 := by kernel_rfl }
open Go.RowKit Go.Sort Go.Lib in
/-- internal/strconv.FormatInt: "FormatInt returns the string representation of i in the given base": AT BASE 10: i's decimal numeral, for every int64. The world behind the call: the world before it, new blocks behind the heap, draws. (LAID: no walk: one application.) -/
theorem Tryd.internal_strconv_FormatInt_10 (n : Int) (h0 : -9223372036854775808 ≤ n) (h1 : n ≤ 9223372036854775807) (w : World) (htab : Lib.TabIs Tryd.prog w "internal/strconv.uint64pow10" .u64 Lib.pow10Tab) :
    Calls Tryd.prog 46 #[.int .i64 n, .int .i64 10] w fun e w' => e = .returned (.string ⟨(Lib.itoa n).toArray⟩) ∧ ∃ k os, w' = grow (w.drewN k) os := Any.internal_strconv_FormatInt_10 Tryd.laysM246 n h0 h1 w htab
def Tryd.lays246_ren : Go.Shelf.Ren := ⟨fun | 246 => 46 | 283 => 47 | 284 => 48 | 285 => 49 | 286 => 50 | 129 => 52 | 317 => 51 | 318 => 53 | 319 => 54 | 320 => 55 | 337 => 56 | 338 => 57 | n => n, fun | 2 => 2 | 3 => 3 | 9 => 9 | 4 => 4 | 171 => 143 | 0 => 0 | 53 => 144 | 37 => 147 | 5 => 5 | 173 => 148 | 212 => 151 | 51 => 118 | 20 => 20 | 213 => 152 | 46 => 141 | 232 => 155 | 233 => 156 | n => n, fun | 17 => 3 | 18 => 4 | 19 => 5 | n => n⟩
theorem Tryd.lays246 : Go.Proofs.Lays.n246 Tryd.prog Tryd.lays246_ren := {
  mixed := by kernel_rfl
  f129 := Tryd.func52.trans (congrArg some (by kernel_rfl))
  f246 := Tryd.func46.trans (congrArg some (by kernel_rfl))
  f283 := Tryd.func47.trans (congrArg some (by kernel_rfl))
  f284 := Tryd.func48.trans (congrArg some (by kernel_rfl))
  f285 := Tryd.func49.trans (congrArg some (by kernel_rfl))
  f286 := Tryd.func50.trans (congrArg some (by kernel_rfl))
  f317 := Tryd.func51.trans (congrArg some (by kernel_rfl))
  f318 := Tryd.func53.trans (congrArg some (by kernel_rfl))
  f319 := Tryd.func54.trans (congrArg some (by kernel_rfl))
  f320 := Tryd.func55.trans (congrArg some (by kernel_rfl))
  f337 := Tryd.func56.trans (congrArg some (by kernel_rfl))
  f338 := Tryd.func57.trans (congrArg some (by kernel_rfl))
  t0 := Tryd.underlying0
  a0 := Tryd.isAgg0
  z0 := Tryd.sizeOf0
  v0 := Tryd.zeroValue0
  t2 := Tryd.underlying2
  a2 := Tryd.isAgg2
  z2 := Tryd.sizeOf2
  v2 := Tryd.zeroValue2
  t3 := Tryd.underlying3
  a3 := Tryd.isAgg3
  z3 := Tryd.sizeOf3
  v3 := Tryd.zeroValue3
  t4 := Tryd.underlying4
  a4 := Tryd.isAgg4
  z4 := Tryd.sizeOf4
  v4 := Tryd.zeroValue4
  t5 := Tryd.underlying5
  a5 := Tryd.isAgg5
  z5 := Tryd.sizeOf5
  v5 := Tryd.zeroValue5
  t9 := Tryd.underlying9
  a9 := Tryd.isAgg9
  z9 := Tryd.sizeOf9
  v9 := Tryd.zeroValue9
  t20 := Tryd.underlying20
  a20 := Tryd.isAgg20
  z20 := Tryd.sizeOf20
  v20 := Tryd.zeroValue20
  t37 := Tryd.underlying147
  a37 := Tryd.isAgg147
  z37 := Tryd.sizeOf147
  v37 := Tryd.zeroValue147
  t46 := Tryd.underlying141
  a46 := Tryd.isAgg141
  z46 := Tryd.sizeOf141
  v46 := Tryd.zeroValue141
  t51 := Tryd.underlying118
  a51 := Tryd.isAgg118
  z51 := Tryd.sizeOf118
  v51 := Tryd.zeroValue118
  t53 := Tryd.underlying144
  a53 := Tryd.isAgg144
  z53 := Tryd.sizeOf144
  v53 := Tryd.zeroValue144
  t171 := Tryd.underlying143
  a171 := Tryd.isAgg143
  z171 := Tryd.sizeOf143
  v171 := Tryd.zeroValue143
  t173 := Tryd.underlying148
  a173 := Tryd.isAgg148
  z173 := Tryd.sizeOf148
  v173 := Tryd.zeroValue148
  t212 := Tryd.underlying151
  a212 := Tryd.isAgg151
  z212 := Tryd.sizeOf151
  v212 := Tryd.zeroValue151
  t213 := Tryd.underlying152
  a213 := Tryd.isAgg152
  z213 := Tryd.sizeOf152
  t232 := Tryd.underlying155
  a232 := Tryd.isAgg155
  z232 := Tryd.sizeOf155
  v232 := Tryd.zeroValue155
  t233 := Tryd.underlying156
  a233 := Tryd.isAgg156
  z233 := Tryd.sizeOf156
  v233 := Tryd.zeroValue156
  g17 := by kernel_rfl
  g18 := by kernel_rfl
  g19 := by kernel_rfl }
open Go.RowKit Go.Sort Go.Lib in
/-- THE ROAD WITHOUT THE TABLE: 0 <= i < 100: two constants are read, nothing is laid: no premise on the world, and the world is as it was. (LAID: no walk: one application.) -/
theorem Tryd.internal_strconv_FormatInt_10_small (i : Nat) (hi : i < 100) (w : World) :
    Calls Tryd.prog 46 #[.int .i64 i, .int .i64 10] w fun e w' => e = .returned (.string ⟨(Lib.decDigits i).toArray⟩) ∧ w' = w := Any.internal_strconv_FormatInt_10_small Tryd.lays246 i hi w
def Tryd.laysM243_ren : Go.Shelf.Ren := ⟨fun | 243 => 37 | 246 => 46 | 283 => 47 | 284 => 48 | 285 => 49 | 286 => 50 | 129 => 52 | 317 => 51 | 318 => 53 | 319 => 54 | 320 => 55 | 337 => 56 | 338 => 57 | n => n, fun | 3 => 3 | 9 => 9 | 2 => 2 | 4 => 4 | 171 => 143 | 0 => 0 | 53 => 144 | 37 => 147 | 5 => 5 | 173 => 148 | 212 => 151 | 51 => 118 | 20 => 20 | 213 => 152 | 46 => 141 | 232 => 155 | 233 => 156 | n => n, fun | 17 => 3 | 18 => 4 | 19 => 5 | n => n⟩
theorem Tryd.laysM243 : Go.Proofs.LaysM.n243 Tryd.prog Tryd.laysM243_ren := {
  mixed := by kernel_rfl
  f129 := Tryd.func52.trans (congrArg some (by kernel_rfl))
  f243 := Tryd.func37.trans (congrArg some (by kernel_rfl))
  f246 := Tryd.func46.trans (congrArg some (by kernel_rfl))
  f283 := Tryd.func47.trans (congrArg some (by kernel_rfl))
  f284 := Tryd.func48.trans (congrArg some (by kernel_rfl))
  f285 := Tryd.func49.trans (congrArg some (by kernel_rfl))
  f286 := Tryd.func50.trans (congrArg some (by kernel_rfl))
  f317 := Tryd.func51.trans (congrArg some (by kernel_rfl))
  f318 := Tryd.func53.trans (congrArg some (by kernel_rfl))
  f319 := Tryd.func54.trans (congrArg some (by kernel_rfl))
  f320 := Tryd.func55.trans (congrArg some (by kernel_rfl))
  f337 := Tryd.func56.trans (congrArg some (by kernel_rfl))
  f338 := Tryd.func57.trans (congrArg some (by kernel_rfl))
  t0 := Tryd.underlying0
  a0 := Tryd.isAgg0
  z0 := Tryd.sizeOf0
  v0 := Tryd.zeroValue0
  t2 := Tryd.underlying2
  a2 := Tryd.isAgg2
  z2 := Tryd.sizeOf2
  v2 := Tryd.zeroValue2
  t3 := Tryd.underlying3
  a3 := Tryd.isAgg3
  z3 := Tryd.sizeOf3
  v3 := Tryd.zeroValue3
  t4 := Tryd.underlying4
  a4 := Tryd.isAgg4
  z4 := Tryd.sizeOf4
  v4 := Tryd.zeroValue4
  t5 := Tryd.underlying5
  a5 := Tryd.isAgg5
  z5 := Tryd.sizeOf5
  v5 := Tryd.zeroValue5
  t9 := Tryd.underlying9
  a9 := Tryd.isAgg9
  z9 := Tryd.sizeOf9
  v9 := Tryd.zeroValue9
  t20 := Tryd.underlying20
  a20 := Tryd.isAgg20
  z20 := Tryd.sizeOf20
  v20 := Tryd.zeroValue20
  t37 := Tryd.underlying147
  a37 := Tryd.isAgg147
  z37 := Tryd.sizeOf147
  v37 := Tryd.zeroValue147
  t46 := Tryd.underlying141
  a46 := Tryd.isAgg141
  z46 := Tryd.sizeOf141
  v46 := Tryd.zeroValue141
  t51 := Tryd.underlying118
  a51 := Tryd.isAgg118
  z51 := Tryd.sizeOf118
  v51 := Tryd.zeroValue118
  t53 := Tryd.underlying144
  a53 := Tryd.isAgg144
  z53 := Tryd.sizeOf144
  v53 := Tryd.zeroValue144
  t171 := Tryd.underlying143
  a171 := Tryd.isAgg143
  z171 := Tryd.sizeOf143
  v171 := Tryd.zeroValue143
  t173 := Tryd.underlying148
  a173 := Tryd.isAgg148
  z173 := Tryd.sizeOf148
  v173 := Tryd.zeroValue148
  t212 := Tryd.underlying151
  a212 := Tryd.isAgg151
  z212 := Tryd.sizeOf151
  v212 := Tryd.zeroValue151
  t213 := Tryd.underlying152
  a213 := Tryd.isAgg152
  z213 := Tryd.sizeOf152
  t232 := Tryd.underlying155
  a232 := Tryd.isAgg155
  z232 := Tryd.sizeOf155
  v232 := Tryd.zeroValue155
  t233 := Tryd.underlying156
  a233 := Tryd.isAgg156
  z233 := Tryd.sizeOf156
  v233 := Tryd.zeroValue156
  g17 := by kernel_rfl
  g18 := by kernel_rfl
  g19 := by kernel_rfl
  i0 := by kernel_rfl
  i2 := by kernel_rfl
  i3 := by kernel_rfl
  i4 := by kernel_rfl
  i5 := by kernel_rfl
  i9 := by kernel_rfl
  i20 := by kernel_rfl
  i37 := by kernel_rfl
  i46 := by kernel_rfl
  i51 := by kernel_rfl
  i53 := by kernel_rfl
  i171 := by kernel_rfl
  i173 := by kernel_rfl
  i212 := by kernel_rfl
  i232 := by kernel_rfl
  i233 := by kernel_rfl
  m17 := by kernel_rfl
  m18 := by kernel_rfl
  m19 := by kernel_rfl }
open Go.RowKit Go.Sort Go.Lib in
/-- internal/strconv.Itoa: "Itoa is equivalent to FormatInt(int64(i), 10).": i's decimal numeral, for every int. (LAID: no walk: one application.) -/
theorem Tryd.internal_strconv_Itoa (n : Int) (h0 : -9223372036854775808 ≤ n) (h1 : n ≤ 9223372036854775807) (w : World) (htab : Lib.TabIs Tryd.prog w "internal/strconv.uint64pow10" .u64 Lib.pow10Tab) :
    Calls Tryd.prog 37 #[.int .i64 n] w fun e w' => e = .returned (.string ⟨(Lib.itoa n).toArray⟩) ∧ ∃ k os, w' = grow (w.drewN k) os := Any.internal_strconv_Itoa Tryd.laysM243 n h0 h1 w htab
def Tryd.lays243_ren : Go.Shelf.Ren := ⟨fun | 243 => 37 | 246 => 46 | 283 => 47 | 284 => 48 | 285 => 49 | 286 => 50 | 129 => 52 | 317 => 51 | 318 => 53 | 319 => 54 | 320 => 55 | 337 => 56 | 338 => 57 | n => n, fun | 3 => 3 | 9 => 9 | 2 => 2 | 4 => 4 | 171 => 143 | 0 => 0 | 53 => 144 | 37 => 147 | 5 => 5 | 173 => 148 | 212 => 151 | 51 => 118 | 20 => 20 | 213 => 152 | 46 => 141 | 232 => 155 | 233 => 156 | n => n, fun | 17 => 3 | 18 => 4 | 19 => 5 | n => n⟩
theorem Tryd.lays243 : Go.Proofs.Lays.n243 Tryd.prog Tryd.lays243_ren := {
  mixed := by kernel_rfl
  f129 := Tryd.func52.trans (congrArg some (by kernel_rfl))
  f243 := Tryd.func37.trans (congrArg some (by kernel_rfl))
  f246 := Tryd.func46.trans (congrArg some (by kernel_rfl))
  f283 := Tryd.func47.trans (congrArg some (by kernel_rfl))
  f284 := Tryd.func48.trans (congrArg some (by kernel_rfl))
  f285 := Tryd.func49.trans (congrArg some (by kernel_rfl))
  f286 := Tryd.func50.trans (congrArg some (by kernel_rfl))
  f317 := Tryd.func51.trans (congrArg some (by kernel_rfl))
  f318 := Tryd.func53.trans (congrArg some (by kernel_rfl))
  f319 := Tryd.func54.trans (congrArg some (by kernel_rfl))
  f320 := Tryd.func55.trans (congrArg some (by kernel_rfl))
  f337 := Tryd.func56.trans (congrArg some (by kernel_rfl))
  f338 := Tryd.func57.trans (congrArg some (by kernel_rfl))
  t0 := Tryd.underlying0
  a0 := Tryd.isAgg0
  z0 := Tryd.sizeOf0
  v0 := Tryd.zeroValue0
  t2 := Tryd.underlying2
  a2 := Tryd.isAgg2
  z2 := Tryd.sizeOf2
  v2 := Tryd.zeroValue2
  t3 := Tryd.underlying3
  a3 := Tryd.isAgg3
  z3 := Tryd.sizeOf3
  v3 := Tryd.zeroValue3
  t4 := Tryd.underlying4
  a4 := Tryd.isAgg4
  z4 := Tryd.sizeOf4
  v4 := Tryd.zeroValue4
  t5 := Tryd.underlying5
  a5 := Tryd.isAgg5
  z5 := Tryd.sizeOf5
  v5 := Tryd.zeroValue5
  t9 := Tryd.underlying9
  a9 := Tryd.isAgg9
  z9 := Tryd.sizeOf9
  v9 := Tryd.zeroValue9
  t20 := Tryd.underlying20
  a20 := Tryd.isAgg20
  z20 := Tryd.sizeOf20
  v20 := Tryd.zeroValue20
  t37 := Tryd.underlying147
  a37 := Tryd.isAgg147
  z37 := Tryd.sizeOf147
  v37 := Tryd.zeroValue147
  t46 := Tryd.underlying141
  a46 := Tryd.isAgg141
  z46 := Tryd.sizeOf141
  v46 := Tryd.zeroValue141
  t51 := Tryd.underlying118
  a51 := Tryd.isAgg118
  z51 := Tryd.sizeOf118
  v51 := Tryd.zeroValue118
  t53 := Tryd.underlying144
  a53 := Tryd.isAgg144
  z53 := Tryd.sizeOf144
  v53 := Tryd.zeroValue144
  t171 := Tryd.underlying143
  a171 := Tryd.isAgg143
  z171 := Tryd.sizeOf143
  v171 := Tryd.zeroValue143
  t173 := Tryd.underlying148
  a173 := Tryd.isAgg148
  z173 := Tryd.sizeOf148
  v173 := Tryd.zeroValue148
  t212 := Tryd.underlying151
  a212 := Tryd.isAgg151
  z212 := Tryd.sizeOf151
  v212 := Tryd.zeroValue151
  t213 := Tryd.underlying152
  a213 := Tryd.isAgg152
  z213 := Tryd.sizeOf152
  t232 := Tryd.underlying155
  a232 := Tryd.isAgg155
  z232 := Tryd.sizeOf155
  v232 := Tryd.zeroValue155
  t233 := Tryd.underlying156
  a233 := Tryd.isAgg156
  z233 := Tryd.sizeOf156
  v233 := Tryd.zeroValue156
  g17 := by kernel_rfl
  g18 := by kernel_rfl
  g19 := by kernel_rfl }
open Go.RowKit Go.Sort Go.Lib in
/-- THE ROAD WITHOUT THE TABLE: 0 <= i < 100. (LAID: no walk: one application.) -/
theorem Tryd.internal_strconv_Itoa_small (i : Nat) (hi : i < 100) (w : World) :
    Calls Tryd.prog 37 #[.int .i64 i] w fun e w' => e = .returned (.string ⟨(Lib.decDigits i).toArray⟩) ∧ w' = w := Any.internal_strconv_Itoa_small Tryd.lays243 i hi w
def Tryd.laysM171_ren : Go.Shelf.Ren := ⟨fun | 171 => 29 | 243 => 37 | 246 => 46 | 283 => 47 | 284 => 48 | 285 => 49 | 286 => 50 | 129 => 52 | 317 => 51 | 318 => 53 | 319 => 54 | 320 => 55 | 337 => 56 | 338 => 57 | n => n, fun | 3 => 3 | 9 => 9 | 2 => 2 | 4 => 4 | 171 => 143 | 0 => 0 | 53 => 144 | 37 => 147 | 5 => 5 | 173 => 148 | 212 => 151 | 51 => 118 | 20 => 20 | 213 => 152 | 46 => 141 | 232 => 155 | 233 => 156 | n => n, fun | 17 => 3 | 18 => 4 | 19 => 5 | n => n⟩
theorem Tryd.laysM171 : Go.Proofs.LaysM.n171 Tryd.prog Tryd.laysM171_ren := {
  mixed := by kernel_rfl
  f129 := Tryd.func52.trans (congrArg some (by kernel_rfl))
  f171 := Tryd.func29.trans (congrArg some (by kernel_rfl))
  f243 := Tryd.func37.trans (congrArg some (by kernel_rfl))
  f246 := Tryd.func46.trans (congrArg some (by kernel_rfl))
  f283 := Tryd.func47.trans (congrArg some (by kernel_rfl))
  f284 := Tryd.func48.trans (congrArg some (by kernel_rfl))
  f285 := Tryd.func49.trans (congrArg some (by kernel_rfl))
  f286 := Tryd.func50.trans (congrArg some (by kernel_rfl))
  f317 := Tryd.func51.trans (congrArg some (by kernel_rfl))
  f318 := Tryd.func53.trans (congrArg some (by kernel_rfl))
  f319 := Tryd.func54.trans (congrArg some (by kernel_rfl))
  f320 := Tryd.func55.trans (congrArg some (by kernel_rfl))
  f337 := Tryd.func56.trans (congrArg some (by kernel_rfl))
  f338 := Tryd.func57.trans (congrArg some (by kernel_rfl))
  t0 := Tryd.underlying0
  a0 := Tryd.isAgg0
  z0 := Tryd.sizeOf0
  v0 := Tryd.zeroValue0
  t2 := Tryd.underlying2
  a2 := Tryd.isAgg2
  z2 := Tryd.sizeOf2
  v2 := Tryd.zeroValue2
  t3 := Tryd.underlying3
  a3 := Tryd.isAgg3
  z3 := Tryd.sizeOf3
  v3 := Tryd.zeroValue3
  t4 := Tryd.underlying4
  a4 := Tryd.isAgg4
  z4 := Tryd.sizeOf4
  v4 := Tryd.zeroValue4
  t5 := Tryd.underlying5
  a5 := Tryd.isAgg5
  z5 := Tryd.sizeOf5
  v5 := Tryd.zeroValue5
  t9 := Tryd.underlying9
  a9 := Tryd.isAgg9
  z9 := Tryd.sizeOf9
  v9 := Tryd.zeroValue9
  t20 := Tryd.underlying20
  a20 := Tryd.isAgg20
  z20 := Tryd.sizeOf20
  v20 := Tryd.zeroValue20
  t37 := Tryd.underlying147
  a37 := Tryd.isAgg147
  z37 := Tryd.sizeOf147
  v37 := Tryd.zeroValue147
  t46 := Tryd.underlying141
  a46 := Tryd.isAgg141
  z46 := Tryd.sizeOf141
  v46 := Tryd.zeroValue141
  t51 := Tryd.underlying118
  a51 := Tryd.isAgg118
  z51 := Tryd.sizeOf118
  v51 := Tryd.zeroValue118
  t53 := Tryd.underlying144
  a53 := Tryd.isAgg144
  z53 := Tryd.sizeOf144
  v53 := Tryd.zeroValue144
  t171 := Tryd.underlying143
  a171 := Tryd.isAgg143
  z171 := Tryd.sizeOf143
  v171 := Tryd.zeroValue143
  t173 := Tryd.underlying148
  a173 := Tryd.isAgg148
  z173 := Tryd.sizeOf148
  v173 := Tryd.zeroValue148
  t212 := Tryd.underlying151
  a212 := Tryd.isAgg151
  z212 := Tryd.sizeOf151
  v212 := Tryd.zeroValue151
  t213 := Tryd.underlying152
  a213 := Tryd.isAgg152
  z213 := Tryd.sizeOf152
  t232 := Tryd.underlying155
  a232 := Tryd.isAgg155
  z232 := Tryd.sizeOf155
  v232 := Tryd.zeroValue155
  t233 := Tryd.underlying156
  a233 := Tryd.isAgg156
  z233 := Tryd.sizeOf156
  v233 := Tryd.zeroValue156
  g17 := by kernel_rfl
  g18 := by kernel_rfl
  g19 := by kernel_rfl
  i0 := by kernel_rfl
  i2 := by kernel_rfl
  i3 := by kernel_rfl
  i4 := by kernel_rfl
  i5 := by kernel_rfl
  i9 := by kernel_rfl
  i20 := by kernel_rfl
  i37 := by kernel_rfl
  i46 := by kernel_rfl
  i51 := by kernel_rfl
  i53 := by kernel_rfl
  i171 := by kernel_rfl
  i173 := by kernel_rfl
  i212 := by kernel_rfl
  i232 := by kernel_rfl
  i233 := by kernel_rfl
  m17 := by kernel_rfl
  m18 := by kernel_rfl
  m19 := by kernel_rfl }
open Go.RowKit Go.Sort Go.Lib in
/-- strconv.Itoa: "Itoa is equivalent to FormatInt(int64(i), 10).": i's DECIMAL NUMERAL ('Lib.itoa': a '-' where i is negative, then the digits), FOR EVERY int. The world behind the call: the world before it, new blocks behind the heap (the library's 'var a [24]byte'), draws. (LAID: no walk: one application.) -/
theorem Tryd.strconv_Itoa (n : Int) (h0 : -9223372036854775808 ≤ n) (h1 : n ≤ 9223372036854775807) (w : World) (htab : Lib.TabIs Tryd.prog w "internal/strconv.uint64pow10" .u64 Lib.pow10Tab) :
    Calls Tryd.prog 29 #[.int .i64 n] w fun e w' => e = .returned (.string ⟨(Lib.itoa n).toArray⟩) ∧ ∃ k os, w' = grow (w.drewN k) os := Any.strconv_Itoa Tryd.laysM171 n h0 h1 w htab
def Tryd.lays171_ren : Go.Shelf.Ren := ⟨fun | 171 => 29 | 243 => 37 | 246 => 46 | 283 => 47 | 284 => 48 | 285 => 49 | 286 => 50 | 129 => 52 | 317 => 51 | 318 => 53 | 319 => 54 | 320 => 55 | 337 => 56 | 338 => 57 | n => n, fun | 3 => 3 | 9 => 9 | 2 => 2 | 4 => 4 | 171 => 143 | 0 => 0 | 53 => 144 | 37 => 147 | 5 => 5 | 173 => 148 | 212 => 151 | 51 => 118 | 20 => 20 | 213 => 152 | 46 => 141 | 232 => 155 | 233 => 156 | n => n, fun | 17 => 3 | 18 => 4 | 19 => 5 | n => n⟩
theorem Tryd.lays171 : Go.Proofs.Lays.n171 Tryd.prog Tryd.lays171_ren := {
  mixed := by kernel_rfl
  f129 := Tryd.func52.trans (congrArg some (by kernel_rfl))
  f171 := Tryd.func29.trans (congrArg some (by kernel_rfl))
  f243 := Tryd.func37.trans (congrArg some (by kernel_rfl))
  f246 := Tryd.func46.trans (congrArg some (by kernel_rfl))
  f283 := Tryd.func47.trans (congrArg some (by kernel_rfl))
  f284 := Tryd.func48.trans (congrArg some (by kernel_rfl))
  f285 := Tryd.func49.trans (congrArg some (by kernel_rfl))
  f286 := Tryd.func50.trans (congrArg some (by kernel_rfl))
  f317 := Tryd.func51.trans (congrArg some (by kernel_rfl))
  f318 := Tryd.func53.trans (congrArg some (by kernel_rfl))
  f319 := Tryd.func54.trans (congrArg some (by kernel_rfl))
  f320 := Tryd.func55.trans (congrArg some (by kernel_rfl))
  f337 := Tryd.func56.trans (congrArg some (by kernel_rfl))
  f338 := Tryd.func57.trans (congrArg some (by kernel_rfl))
  t0 := Tryd.underlying0
  a0 := Tryd.isAgg0
  z0 := Tryd.sizeOf0
  v0 := Tryd.zeroValue0
  t2 := Tryd.underlying2
  a2 := Tryd.isAgg2
  z2 := Tryd.sizeOf2
  v2 := Tryd.zeroValue2
  t3 := Tryd.underlying3
  a3 := Tryd.isAgg3
  z3 := Tryd.sizeOf3
  v3 := Tryd.zeroValue3
  t4 := Tryd.underlying4
  a4 := Tryd.isAgg4
  z4 := Tryd.sizeOf4
  v4 := Tryd.zeroValue4
  t5 := Tryd.underlying5
  a5 := Tryd.isAgg5
  z5 := Tryd.sizeOf5
  v5 := Tryd.zeroValue5
  t9 := Tryd.underlying9
  a9 := Tryd.isAgg9
  z9 := Tryd.sizeOf9
  v9 := Tryd.zeroValue9
  t20 := Tryd.underlying20
  a20 := Tryd.isAgg20
  z20 := Tryd.sizeOf20
  v20 := Tryd.zeroValue20
  t37 := Tryd.underlying147
  a37 := Tryd.isAgg147
  z37 := Tryd.sizeOf147
  v37 := Tryd.zeroValue147
  t46 := Tryd.underlying141
  a46 := Tryd.isAgg141
  z46 := Tryd.sizeOf141
  v46 := Tryd.zeroValue141
  t51 := Tryd.underlying118
  a51 := Tryd.isAgg118
  z51 := Tryd.sizeOf118
  v51 := Tryd.zeroValue118
  t53 := Tryd.underlying144
  a53 := Tryd.isAgg144
  z53 := Tryd.sizeOf144
  v53 := Tryd.zeroValue144
  t171 := Tryd.underlying143
  a171 := Tryd.isAgg143
  z171 := Tryd.sizeOf143
  v171 := Tryd.zeroValue143
  t173 := Tryd.underlying148
  a173 := Tryd.isAgg148
  z173 := Tryd.sizeOf148
  v173 := Tryd.zeroValue148
  t212 := Tryd.underlying151
  a212 := Tryd.isAgg151
  z212 := Tryd.sizeOf151
  v212 := Tryd.zeroValue151
  t213 := Tryd.underlying152
  a213 := Tryd.isAgg152
  z213 := Tryd.sizeOf152
  t232 := Tryd.underlying155
  a232 := Tryd.isAgg155
  z232 := Tryd.sizeOf155
  v232 := Tryd.zeroValue155
  t233 := Tryd.underlying156
  a233 := Tryd.isAgg156
  z233 := Tryd.sizeOf156
  v233 := Tryd.zeroValue156
  g17 := by kernel_rfl
  g18 := by kernel_rfl
  g19 := by kernel_rfl }
open Go.RowKit Go.Sort Go.Lib in
/-- THE ROAD WITHOUT THE TABLE: 0 <= i < 100: NO PREMISE ON THE WORLD, AND THE WORLD IS AS IT WAS: a row that keeps its argument in that range need list no table ('laid = []'). (LAID: no walk: one application.) -/
theorem Tryd.strconv_Itoa_small (i : Nat) (hi : i < 100) (w : World) :
    Calls Tryd.prog 29 #[.int .i64 i] w fun e w' => e = .returned (.string ⟨(Lib.decDigits i).toArray⟩) ∧ w' = w := Any.strconv_Itoa_small Tryd.lays171 i hi w
def Tryd.lays157_ren : Go.Shelf.Ren := ⟨fun | 157 => 15 | 229 => 27 | 199 => 28 | 261 => 36 | 311 => 44 | 312 => 45 | n => n, fun | 9 => 9 | 31 => 22 | 3 => 3 | 5 => 5 | 4 => 4 | 119 => 49 | 0 => 0 | 40 => 51 | 152 => 115 | 21 => 21 | 154 => 117 | 51 => 118 | 141 => 120 | 196 => 129 | 193 => 126 | 198 => 132 | 49 => 130 | 194 => 127 | 201 => 135 | 226 => 140 | 46 => 141 | 227 => 142 | n => n, fun | 0 => 0 | 6 => 2 | n => n⟩
theorem Tryd.lays157 : Go.Proofs.Lays.n157 Tryd.prog Tryd.lays157_ren := {
  mixed := by kernel_rfl
  f157 := Tryd.func15.trans (congrArg some (by kernel_rfl))
  f199 := Tryd.func28.trans (congrArg some (by kernel_rfl))
  f229 := Tryd.func27.trans (congrArg some (by kernel_rfl))
  f261 := Tryd.func36.trans (congrArg some (by kernel_rfl))
  f311 := Tryd.func44.trans (congrArg some (by kernel_rfl))
  f312 := Tryd.func45.trans (congrArg some (by kernel_rfl))
  t0 := Tryd.underlying0
  a0 := Tryd.isAgg0
  z0 := Tryd.sizeOf0
  v0 := Tryd.zeroValue0
  t3 := Tryd.underlying3
  a3 := Tryd.isAgg3
  z3 := Tryd.sizeOf3
  v3 := Tryd.zeroValue3
  t4 := Tryd.underlying4
  a4 := Tryd.isAgg4
  z4 := Tryd.sizeOf4
  v4 := Tryd.zeroValue4
  t5 := Tryd.underlying5
  a5 := Tryd.isAgg5
  z5 := Tryd.sizeOf5
  v5 := Tryd.zeroValue5
  t9 := Tryd.underlying9
  a9 := Tryd.isAgg9
  z9 := Tryd.sizeOf9
  v9 := Tryd.zeroValue9
  t21 := Tryd.underlying21
  a21 := Tryd.isAgg21
  z21 := Tryd.sizeOf21
  v21 := Tryd.zeroValue21
  t31 := Tryd.underlying22
  a31 := Tryd.isAgg22
  z31 := Tryd.sizeOf22
  v31 := Tryd.zeroValue22
  t40 := Tryd.underlying51
  a40 := Tryd.isAgg51
  z40 := Tryd.sizeOf51
  v40 := Tryd.zeroValue51
  t46 := Tryd.underlying141
  a46 := Tryd.isAgg141
  z46 := Tryd.sizeOf141
  v46 := Tryd.zeroValue141
  t49 := Tryd.underlying130
  a49 := Tryd.isAgg130
  z49 := Tryd.sizeOf130
  v49 := Tryd.zeroValue130
  t51 := Tryd.underlying118
  a51 := Tryd.isAgg118
  z51 := Tryd.sizeOf118
  v51 := Tryd.zeroValue118
  t119 := Tryd.underlying49
  a119 := Tryd.isAgg49
  z119 := Tryd.sizeOf49
  t141 := Tryd.underlying120
  a141 := Tryd.isAgg120
  z141 := Tryd.sizeOf120
  v141 := Tryd.zeroValue120
  t152 := Tryd.underlying115
  a152 := Tryd.isAgg115
  z152 := Tryd.sizeOf115
  v152 := Tryd.zeroValue115
  t154 := Tryd.underlying117
  a154 := Tryd.isAgg117
  z154 := Tryd.sizeOf117
  v154 := Tryd.zeroValue117
  t193 := Tryd.underlying126
  a193 := Tryd.isAgg126
  z193 := Tryd.sizeOf126
  v193 := Tryd.zeroValue126
  t194 := Tryd.underlying127
  a194 := Tryd.isAgg127
  z194 := Tryd.sizeOf127
  v194 := Tryd.zeroValue127
  t196 := Tryd.underlying129
  a196 := Tryd.isAgg129
  z196 := Tryd.sizeOf129
  v196 := Tryd.zeroValue129
  t198 := Tryd.underlying132
  a198 := Tryd.isAgg132
  z198 := Tryd.sizeOf132
  v198 := Tryd.zeroValue132
  t201 := Tryd.underlying135
  a201 := Tryd.isAgg135
  z201 := Tryd.sizeOf135
  v201 := Tryd.zeroValue135
  t226 := Tryd.underlying140
  a226 := Tryd.isAgg140
  z226 := Tryd.sizeOf140
  v226 := Tryd.zeroValue140
  t227 := Tryd.underlying142
  a227 := Tryd.isAgg142
  z227 := Tryd.sizeOf142
  v227 := Tryd.zeroValue142
  g0 := by kernel_rfl
  g6 := by kernel_rfl }
open Go.RowKit Go.Lib in
/-- strings.Fields, the table by 'Lib.TabIs' (as strings.TrimSpace's contract). 'hg': the table's number, by its name: at a dump 'by kernel_rfl'. (LAID: no walk: one application.) -/
theorem Tryd.strings_Fields (s : ByteArray) (w : World) (hs : s.size < 4294967281) (hascii : ∀ (j : Nat) b, s.data.toList[j]? = some b → b.toNat < 128) (htab : Lib.TabIs Tryd.prog w "strings.asciiSpace" .u8 Lib.asciiSpaceTab) :
    Calls Tryd.prog 15 #[.string s] w fun e w' =>
      e = .returned (.slice (some ⟨w.heap.size, 0, none⟩) (Lib.fields s.data.toList).length (Lib.fields s.data.toList).length) ∧ w' = w.alloc (.cells ((Lib.fields s.data.toList).map fun l => Value.string ⟨l.toArray⟩).toArray 9) := Any.strings_Fields Tryd.lays157 (by kernel_rfl) (by kernel_rfl) s w hs hascii htab
def Tryd.lays199_ren : Go.Shelf.Ren := ⟨fun | 199 => 28 | 261 => 36 | 311 => 44 | 312 => 45 | n => n, fun | 21 => 21 | 4 => 4 | 51 => 118 | 141 => 120 | 0 => 0 | 196 => 129 | 193 => 126 | 3 => 3 | 198 => 132 | 49 => 130 | 194 => 127 | 201 => 135 | 226 => 140 | 46 => 141 | 227 => 142 | n => n, fun | 6 => 2 | n => n⟩
theorem Tryd.lays199 : Go.Proofs.Lays.n199 Tryd.prog Tryd.lays199_ren := {
  mixed := by kernel_rfl
  f199 := Tryd.func28.trans (congrArg some (by kernel_rfl))
  f261 := Tryd.func36.trans (congrArg some (by kernel_rfl))
  f311 := Tryd.func44.trans (congrArg some (by kernel_rfl))
  f312 := Tryd.func45.trans (congrArg some (by kernel_rfl))
  t0 := Tryd.underlying0
  a0 := Tryd.isAgg0
  z0 := Tryd.sizeOf0
  v0 := Tryd.zeroValue0
  t3 := Tryd.underlying3
  a3 := Tryd.isAgg3
  z3 := Tryd.sizeOf3
  v3 := Tryd.zeroValue3
  t4 := Tryd.underlying4
  a4 := Tryd.isAgg4
  z4 := Tryd.sizeOf4
  v4 := Tryd.zeroValue4
  t21 := Tryd.underlying21
  a21 := Tryd.isAgg21
  z21 := Tryd.sizeOf21
  v21 := Tryd.zeroValue21
  t46 := Tryd.underlying141
  a46 := Tryd.isAgg141
  z46 := Tryd.sizeOf141
  v46 := Tryd.zeroValue141
  t49 := Tryd.underlying130
  a49 := Tryd.isAgg130
  z49 := Tryd.sizeOf130
  v49 := Tryd.zeroValue130
  t51 := Tryd.underlying118
  a51 := Tryd.isAgg118
  z51 := Tryd.sizeOf118
  v51 := Tryd.zeroValue118
  t141 := Tryd.underlying120
  a141 := Tryd.isAgg120
  z141 := Tryd.sizeOf120
  v141 := Tryd.zeroValue120
  t193 := Tryd.underlying126
  a193 := Tryd.isAgg126
  z193 := Tryd.sizeOf126
  v193 := Tryd.zeroValue126
  t194 := Tryd.underlying127
  a194 := Tryd.isAgg127
  z194 := Tryd.sizeOf127
  v194 := Tryd.zeroValue127
  t196 := Tryd.underlying129
  a196 := Tryd.isAgg129
  z196 := Tryd.sizeOf129
  v196 := Tryd.zeroValue129
  t198 := Tryd.underlying132
  a198 := Tryd.isAgg132
  z198 := Tryd.sizeOf132
  v198 := Tryd.zeroValue132
  t201 := Tryd.underlying135
  a201 := Tryd.isAgg135
  z201 := Tryd.sizeOf135
  v201 := Tryd.zeroValue135
  t226 := Tryd.underlying140
  a226 := Tryd.isAgg140
  z226 := Tryd.sizeOf140
  v226 := Tryd.zeroValue140
  t227 := Tryd.underlying142
  a227 := Tryd.isAgg142
  z227 := Tryd.sizeOf142
  v227 := Tryd.zeroValue142
  g6 := by kernel_rfl }
open Go.RowKit Go.Lib in
theorem Tryd.unicode_IsSpace (r : Int) (w : World) (h0 : 0 ≤ r) (h : r ≤ 255) :
    Calls Tryd.prog 28 #[.int .i32 r] w fun e w' => e = .returned (.bool (Lib.isSpaceL r)) ∧ w' = w := Any.unicode_IsSpace Tryd.lays199 r w h0 h
def Tryd.lays311_ren : Go.Shelf.Ren := ⟨fun | 311 => 44 | n => n, fun | 193 => 126 | 49 => 130 | 4 => 4 | 3 => 3 | 0 => 0 | 226 => 140 | 198 => 132 | 46 => 141 | n => n, fun | n => n⟩
theorem Tryd.lays311 : Go.Proofs.Lays.n311 Tryd.prog Tryd.lays311_ren := {
  mixed := by kernel_rfl
  f311 := Tryd.func44.trans (congrArg some (by kernel_rfl))
  t0 := Tryd.underlying0
  a0 := Tryd.isAgg0
  z0 := Tryd.sizeOf0
  v0 := Tryd.zeroValue0
  t3 := Tryd.underlying3
  a3 := Tryd.isAgg3
  z3 := Tryd.sizeOf3
  v3 := Tryd.zeroValue3
  t4 := Tryd.underlying4
  a4 := Tryd.isAgg4
  z4 := Tryd.sizeOf4
  v4 := Tryd.zeroValue4
  t46 := Tryd.underlying141
  a46 := Tryd.isAgg141
  z46 := Tryd.sizeOf141
  v46 := Tryd.zeroValue141
  t49 := Tryd.underlying130
  a49 := Tryd.isAgg130
  z49 := Tryd.sizeOf130
  v49 := Tryd.zeroValue130
  t193 := Tryd.underlying126
  a193 := Tryd.isAgg126
  z193 := Tryd.sizeOf126
  v193 := Tryd.zeroValue126
  t198 := Tryd.underlying132
  a198 := Tryd.isAgg132
  z198 := Tryd.sizeOf132
  v198 := Tryd.zeroValue132
  t226 := Tryd.underlying140
  a226 := Tryd.isAgg140
  z226 := Tryd.sizeOf140
  v226 := Tryd.zeroValue140 }
open Go.RowKit Go.Lib in
theorem Tryd.unicode_is16_white (R oR : Nat) (z : Nat) (w : World) (hz : z < 65536) (hz0 : 255 < z) (c6 : w.cell? ⟨R, oR + 6, none⟩ = some (.int .u16 160)) (c7 : w.cell? ⟨R, oR + 7, none⟩ = some (.int .u16 5760)) (c8 : w.cell? ⟨R, oR + 8, none⟩ = some (.int .u16 5600)) (c9 : w.cell? ⟨R, oR + 9, none⟩ = some (.int .u16 8192)) (c10 : w.cell? ⟨R, oR + 10, none⟩ = some (.int .u16 8202)) (c11 : w.cell? ⟨R, oR + 11, none⟩ = some (.int .u16 1)) (c12 : w.cell? ⟨R, oR + 12, none⟩ = some (.int .u16 8232)) (c13 : w.cell? ⟨R, oR + 13, none⟩ = some (.int .u16 8233)) (c14 : w.cell? ⟨R, oR + 14, none⟩ = some (.int .u16 1)) (c15 : w.cell? ⟨R, oR + 15, none⟩ = some (.int .u16 8239)) (c16 : w.cell? ⟨R, oR + 16, none⟩ = some (.int .u16 8287)) (c17 : w.cell? ⟨R, oR + 17, none⟩ = some (.int .u16 48)) (c18 : w.cell? ⟨R, oR + 18, none⟩ = some (.int .u16 12288)) (c19 : w.cell? ⟨R, oR + 19, none⟩ = some (.int .u16 12288)) (c20 : w.cell? ⟨R, oR + 20, none⟩ = some (.int .u16 1)) :
    Calls Tryd.prog 44 #[.slice (some ⟨R, oR + 6, none⟩) 5 5, .int .u16 z] w fun e w' => e = .returned (.bool (Lib.isSpaceR z)) ∧ Below w.heap.size w w' := Any.unicode_is16_white Tryd.lays311 R oR z w hz hz0 c6 c7 c8 c9 c10 c11 c12 c13 c14 c15 c16 c17 c18 c19 c20
def Tryd.lays261_ren : Go.Shelf.Ren := ⟨fun | 261 => 36 | 311 => 44 | 312 => 45 | n => n, fun | 141 => 120 | 21 => 21 | 4 => 4 | 0 => 0 | 196 => 129 | 193 => 126 | 3 => 3 | 51 => 118 | 198 => 132 | 49 => 130 | 194 => 127 | 201 => 135 | 226 => 140 | 46 => 141 | 227 => 142 | n => n, fun | n => n⟩
theorem Tryd.lays261 : Go.Proofs.Lays.n261 Tryd.prog Tryd.lays261_ren := {
  mixed := by kernel_rfl
  f261 := Tryd.func36.trans (congrArg some (by kernel_rfl))
  f311 := Tryd.func44.trans (congrArg some (by kernel_rfl))
  f312 := Tryd.func45.trans (congrArg some (by kernel_rfl))
  t0 := Tryd.underlying0
  a0 := Tryd.isAgg0
  z0 := Tryd.sizeOf0
  v0 := Tryd.zeroValue0
  t3 := Tryd.underlying3
  a3 := Tryd.isAgg3
  z3 := Tryd.sizeOf3
  v3 := Tryd.zeroValue3
  t4 := Tryd.underlying4
  a4 := Tryd.isAgg4
  z4 := Tryd.sizeOf4
  v4 := Tryd.zeroValue4
  t21 := Tryd.underlying21
  a21 := Tryd.isAgg21
  z21 := Tryd.sizeOf21
  v21 := Tryd.zeroValue21
  t46 := Tryd.underlying141
  a46 := Tryd.isAgg141
  z46 := Tryd.sizeOf141
  v46 := Tryd.zeroValue141
  t49 := Tryd.underlying130
  a49 := Tryd.isAgg130
  z49 := Tryd.sizeOf130
  v49 := Tryd.zeroValue130
  t51 := Tryd.underlying118
  a51 := Tryd.isAgg118
  z51 := Tryd.sizeOf118
  v51 := Tryd.zeroValue118
  t141 := Tryd.underlying120
  a141 := Tryd.isAgg120
  z141 := Tryd.sizeOf120
  v141 := Tryd.zeroValue120
  t193 := Tryd.underlying126
  a193 := Tryd.isAgg126
  z193 := Tryd.sizeOf126
  v193 := Tryd.zeroValue126
  t194 := Tryd.underlying127
  a194 := Tryd.isAgg127
  z194 := Tryd.sizeOf127
  v194 := Tryd.zeroValue127
  t196 := Tryd.underlying129
  a196 := Tryd.isAgg129
  z196 := Tryd.sizeOf129
  v196 := Tryd.zeroValue129
  t198 := Tryd.underlying132
  a198 := Tryd.isAgg132
  z198 := Tryd.sizeOf132
  v198 := Tryd.zeroValue132
  t201 := Tryd.underlying135
  a201 := Tryd.isAgg135
  z201 := Tryd.sizeOf135
  v201 := Tryd.zeroValue135
  t226 := Tryd.underlying140
  a226 := Tryd.isAgg140
  z226 := Tryd.sizeOf140
  v226 := Tryd.zeroValue140
  t227 := Tryd.underlying142
  a227 := Tryd.isAgg142
  z227 := Tryd.sizeOf142
  v227 := Tryd.zeroValue142 }
open Go.RowKit Go.Lib in
/-- unicode.isExcludingLatin(White_Space, r), r beyond U+00FF or negative. (LAID: no walk: one application.) -/
theorem Tryd.unicode_isExcludingLatin_white (T oT R oR : Nat) (r : Int) (w : World) (hlo : -2147483648 ≤ r) (hhi : r ≤ 2147483647) (hr : r < 0 ∨ 255 < r) (h2 : w.cell? ⟨T, oT, none⟩ = some (.slice (some ⟨R, oR, none⟩) 7 7)) (h3 : w.cell? ⟨T, oT + 1, none⟩ = some (.slice none 0 0)) (h4 : w.cell? ⟨T, oT + 2, none⟩ = some (.int .i64 2)) (h5 : ∀ i, i < 21 → w.cell? ⟨R, oR + i, none⟩ = some (.int .u16 (whiteT.getD i 0))) :
    Calls Tryd.prog 36 #[.pointer (some ⟨T, oT, none⟩), .int .i32 r] w fun e w' => e = .returned (.bool (Lib.isSpaceZ r)) ∧ Below w.heap.size w w' := Any.unicode_isExcludingLatin_white Tryd.lays261 T oT R oR r w hlo hhi hr h2 h3 h4 h5
open Go.RowKit Go.Lib in
/-- **unicode.IsSpace AT EVERY int32.** (LAID: no walk: one application.) -/
theorem Tryd.unicode_IsSpace_any (r : Int) (w : World) (hlo : -2147483648 ≤ r) (hhi : r ≤ 2147483647) (hW : Lib.WhiteTab 2 w) :
    Calls Tryd.prog 28 #[.int .i32 r] w fun e w' => e = .returned (.bool (Lib.isSpaceZ r)) ∧ Below w.heap.size w w' := Any.unicode_IsSpace_any Tryd.lays199 r w hlo hhi hW
open Go.RowKit Go.Lib in
theorem Tryd.unicode_is16_any (T : Array Rg) (R oR cap : Nat) (z : Nat) (w : World) (hz : z < 65536) (hT : RgTab .u16 R oR T w) (hok : RgOk 65536 T) (hn : T.size ≤ 1000000000) :
    Calls Tryd.prog 44 #[.slice (some ⟨R, oR, none⟩) T.size cap, .int .u16 z] w fun e w' => e = .returned (.bool (is16Go T z)) ∧ ∃ q, w' = w.drewN q := Any.unicode_is16_any Tryd.lays311 T R oR cap z w hz hT hok hn
def Tryd.lays312_ren : Go.Shelf.Ren := ⟨fun | 312 => 45 | n => n, fun | 194 => 127 | 51 => 118 | 4 => 4 | 3 => 3 | 0 => 0 | 227 => 142 | 201 => 135 | 46 => 141 | n => n, fun | n => n⟩
theorem Tryd.lays312 : Go.Proofs.Lays.n312 Tryd.prog Tryd.lays312_ren := {
  mixed := by kernel_rfl
  f312 := Tryd.func45.trans (congrArg some (by kernel_rfl))
  t0 := Tryd.underlying0
  a0 := Tryd.isAgg0
  z0 := Tryd.sizeOf0
  v0 := Tryd.zeroValue0
  t3 := Tryd.underlying3
  a3 := Tryd.isAgg3
  z3 := Tryd.sizeOf3
  v3 := Tryd.zeroValue3
  t4 := Tryd.underlying4
  a4 := Tryd.isAgg4
  z4 := Tryd.sizeOf4
  v4 := Tryd.zeroValue4
  t46 := Tryd.underlying141
  a46 := Tryd.isAgg141
  z46 := Tryd.sizeOf141
  v46 := Tryd.zeroValue141
  t51 := Tryd.underlying118
  a51 := Tryd.isAgg118
  z51 := Tryd.sizeOf118
  v51 := Tryd.zeroValue118
  t194 := Tryd.underlying127
  a194 := Tryd.isAgg127
  z194 := Tryd.sizeOf127
  v194 := Tryd.zeroValue127
  t201 := Tryd.underlying135
  a201 := Tryd.isAgg135
  z201 := Tryd.sizeOf135
  v201 := Tryd.zeroValue135
  t227 := Tryd.underlying142
  a227 := Tryd.isAgg142
  z227 := Tryd.sizeOf142
  v227 := Tryd.zeroValue142 }
open Go.RowKit Go.Lib in
theorem Tryd.unicode_is32_any (T : Array Rg) (R oR cap : Nat) (z : Nat) (w : World) (hz : z < 4294967296) (hT : RgTab .u32 R oR T w) (hok : RgOk 4294967296 T) (hn : T.size ≤ 1000000000) :
    Calls Tryd.prog 45 #[.slice (some ⟨R, oR, none⟩) T.size cap, .int .u32 z] w fun e w' => e = .returned (.bool (is32Go T z)) ∧ Below w.heap.size w w' := Any.unicode_is32_any Tryd.lays312 T R oR cap z w hz hT hok hn
open Go.RowKit Go.Lib in
theorem Tryd.unicode_isExcludingLatin_any (Tb oT : Nat) (T : RTab) (r : Int) (w : World) (hlo : -2147483648 ≤ r) (hhi : r ≤ 2147483647) (hA : RTabAt Tb oT T w) (hok : RTabOk T) :
    Calls Tryd.prog 36 #[.pointer (some ⟨Tb, oT, none⟩), .int .i32 r] w fun e w' => e = .returned (.bool (exclGo T r)) ∧ Below w.heap.size w w' := Any.unicode_isExcludingLatin_any Tryd.lays261 Tb oT T r w hlo hhi hA hok
def Tryd.lays109_ren : Go.Shelf.Ren := ⟨fun | 109 => 19 | n => n, fun | 31 => 22 | 9 => 9 | 3 => 3 | 0 => 0 | 4 => 4 | n => n, fun | n => n⟩
theorem Tryd.lays109 : Go.Proofs.Lays.n109 Tryd.prog Tryd.lays109_ren := {
  mixed := by kernel_rfl
  f109 := Tryd.func19.trans (congrArg some (by kernel_rfl))
  t0 := Tryd.underlying0
  a0 := Tryd.isAgg0
  z0 := Tryd.sizeOf0
  v0 := Tryd.zeroValue0
  t3 := Tryd.underlying3
  a3 := Tryd.isAgg3
  z3 := Tryd.sizeOf3
  v3 := Tryd.zeroValue3
  t4 := Tryd.underlying4
  a4 := Tryd.isAgg4
  z4 := Tryd.sizeOf4
  v4 := Tryd.zeroValue4
  t9 := Tryd.underlying9
  a9 := Tryd.isAgg9
  z9 := Tryd.sizeOf9
  v9 := Tryd.zeroValue9
  t31 := Tryd.underlying22
  a31 := Tryd.isAgg22
  z31 := Tryd.sizeOf22
  v31 := Tryd.zeroValue22 }
open Go.Lib in
/-- slices.Index at []string: "Index returns the index of the first occurrence of v in s, or -1 if not present.": IT RETURNS 'Lib.idxOfS (the elements) v'; the world is as it was. 'zs': what the cells behind the slice's address hold (its spare capacity too, if you have it); 'zs.take n': its elements. (LAID: no walk: one application.) -/
theorem Tryd.slices_Index_string (b off n c : Nat) (zs : List ByteArray) (x : ByteArray) (w : World) (hz : n ≤ zs.length) (hbig : n ≤ 9223372036854775807) (hc : ∀ j, j < zs.length → w.cell? ⟨b, off + j, none⟩ = some (.string (zs.getD j ByteArray.empty))) :
    Calls Tryd.prog 19 #[.slice (some ⟨b, off, none⟩) n c, .string x] w fun e w' => e = .returned (.int .i64 (Lib.idxOfS (zs.take n) x)) ∧ w' = w := Any.slices_Index_string Tryd.lays109 b off n c zs x w hz hbig hc
open Go.Lib in
/-- The same at a slice of length 0, a nil one too: no cell is known, none is asked for. (LAID: no walk: one application.) -/
theorem Tryd.slices_Index_string_empty (a : Option Addr) (c : Nat) (x : ByteArray) (w : World) :
    Calls Tryd.prog 19 #[.slice a 0 c, .string x] w fun e w' => e = .returned (.int .i64 (Lib.idxOfS [] x)) ∧ w' = w := Any.slices_Index_string_empty Tryd.lays109 a c x w
def Tryd.lays110_ren : Go.Shelf.Ren := ⟨fun | 110 => 8 | 109 => 19 | n => n, fun | 31 => 22 | 9 => 9 | 4 => 4 | 3 => 3 | 0 => 0 | n => n, fun | n => n⟩
theorem Tryd.lays110 : Go.Proofs.Lays.n110 Tryd.prog Tryd.lays110_ren := {
  mixed := by kernel_rfl
  f109 := Tryd.func19.trans (congrArg some (by kernel_rfl))
  f110 := Tryd.func8.trans (congrArg some (by kernel_rfl))
  t0 := Tryd.underlying0
  a0 := Tryd.isAgg0
  z0 := Tryd.sizeOf0
  v0 := Tryd.zeroValue0
  t3 := Tryd.underlying3
  a3 := Tryd.isAgg3
  z3 := Tryd.sizeOf3
  v3 := Tryd.zeroValue3
  t4 := Tryd.underlying4
  a4 := Tryd.isAgg4
  z4 := Tryd.sizeOf4
  v4 := Tryd.zeroValue4
  t9 := Tryd.underlying9
  a9 := Tryd.isAgg9
  z9 := Tryd.sizeOf9
  v9 := Tryd.zeroValue9
  t31 := Tryd.underlying22
  a31 := Tryd.isAgg22
  z31 := Tryd.sizeOf22
  v31 := Tryd.zeroValue22 }
open Go.Lib in
/-- slices.Contains at []string: "Contains reports whether v is present in s.": IT RETURNS 'Lib.containsS (the elements) v', which is true just where v is among them ('Lib.containsS_iff'); the world is as it was. ITS CALLEE slices.Index IS MET BY ITS OWN CONTRACT OFF THE SHELF (lay that first): no loop is walked here. (LAID: no walk: one application.) -/
theorem Tryd.slices_Contains_string (b off n c : Nat) (zs : List ByteArray) (x : ByteArray) (w : World) (hz : n ≤ zs.length) (hbig : n ≤ 9223372036854775807) (hc : ∀ j, j < zs.length → w.cell? ⟨b, off + j, none⟩ = some (.string (zs.getD j ByteArray.empty))) :
    Calls Tryd.prog 8 #[.slice (some ⟨b, off, none⟩) n c, .string x] w fun e w' => e = .returned (.bool (Lib.containsS (zs.take n) x)) ∧ w' = w := Any.slices_Contains_string Tryd.lays110 b off n c zs x w hz hbig hc
open Go.Lib in
/-- The same at a slice of length 0, a nil one too. (LAID: no walk: one application.) -/
theorem Tryd.slices_Contains_string_empty (a : Option Addr) (c : Nat) (x : ByteArray) (w : World) :
    Calls Tryd.prog 8 #[.slice a 0 c, .string x] w fun e w' => e = .returned (.bool false) ∧ w' = w := Any.slices_Contains_string_empty Tryd.lays110 a c x w
end Go.Proofs
