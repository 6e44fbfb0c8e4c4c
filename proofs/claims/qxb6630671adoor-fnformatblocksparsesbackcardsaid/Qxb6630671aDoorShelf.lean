/-
  DERIVED: THE SHELF's CONTRACTS AT THIS DUMP, IN PLAIN WORDS (tools/lay-plain.mjs out of 'TrydShelf.lean', which tools/lay-shelf.mjs wrote): THE SAME DECLARATIONS UNDER THE SAME NAMES: 'import', 'namespace', 'open', 'def', 'theorem' AND NOTHING ELSE: no command of the shelf's: FOR A HAND-IN. Each laying: the table of numbers ('.._ren') and one theorem, a field a fact of the dump's own or the kernel's comparison; each contract: ONE APPLICATION.
-/
import Derived.Ground.PaProg
import Derived.Shelf.Hex.Tagged
import Derived.Shelf.Strconv.Itoa0
import Derived.Shelf.Strconv.Itoa1
import Derived.Shelf.LaysM
import Derived.Shelf.Strconv.Itoa2
import Derived.Shelf.Strconv.AppendUint10
import Derived.Shelf.Strconv.AppendInt10
import Derived.Shelf.Strconv.AppendIntPublic10
import Derived.Shelf.Hex.Lens
import Derived.Shelf.Hex.Encode
import Derived.Shelf.Spec.SlicesGrow
import Derived.Shelf.SlGeneric
import Derived.Test.Qxb6630671aDoorProg
namespace Go.Proofs
open Go.Shelf
def Tryd.laysPa40_ren : Go.Shelf.Ren := ⟨fun | 40 => 19 | n => n, fun | 30 => 35 | 3 => 3 | 0 => 0 | 5 => 5 | 46 => 50 | 9 => 9 | n => n, fun | n => n⟩
theorem Tryd.laysPa40 : Go.Proofs.Lays.p40 Tryd.prog Tryd.laysPa40_ren := {
  mixed := by kernel_rfl
  f40 := Tryd.func19.trans (congrArg some (by kernel_rfl))
  t0 := Tryd.underlying0
  a0 := Tryd.isAgg0
  z0 := Tryd.sizeOf0
  v0 := Tryd.zeroValue0
  t3 := Tryd.underlying3
  a3 := Tryd.isAgg3
  z3 := Tryd.sizeOf3
  v3 := Tryd.zeroValue3
  t5 := Tryd.underlying5
  a5 := Tryd.isAgg5
  z5 := Tryd.sizeOf5
  v5 := Tryd.zeroValue5
  t9 := Tryd.underlying9
  a9 := Tryd.isAgg9
  z9 := Tryd.sizeOf9
  v9 := Tryd.zeroValue9
  t30 := Tryd.underlying35
  a30 := Tryd.isAgg35
  z30 := Tryd.sizeOf35
  v30 := Tryd.zeroValue35
  t46 := Tryd.underlying50
  a46 := Tryd.isAgg50
  z46 := Tryd.sizeOf50
  v46 := Tryd.zeroValue50 }
open Go.RowKit Go.Lib in
/-- encoding/hex.Encode: "Encode encodes src into EncodedLen(len(src)) bytes of dst. As a convenience, it returns the number of bytes written to dst, but this value is always EncodedLen(len(src)). Encode implements hexadecimal encoding.": dst: nd places from place od on of a row (block bd: N cells of uint8, none frozen, holding 'f'), with room for the digits; src: n cells of ANOTHER block, holding the numbers xs, each a byte's. IT RETURNS n * 2; THE ROW THEN HOLDS 'Hx.row f od (the bytes of src) n': the 2 * n digits of 'Hx.encode' from place od on, else what it held; nothing else has turned ('grownBy'). THE FORM '_tag': THE DESTINATION's BLOCK MAY BEAR WHATEVER TYPE's NUMBER 'T' (the elder form asks uint8's own: true of 'make([]byte, n)', false of 'var buf [3]byte; ..(buf[:], ..)': an array variable's block bears THE ARRAY's number). (LAID: no walk: one application.) -/
theorem Tryd.hex_Encode_tag (T : TypeId) (bd od nd cd N : Nat) (f : Nat → Value) (bs os n cs : Nat) (xs : List Int) (w : World) (hx : xs.length = n) (hr : ∀ i, i < n → 0 ≤ xs.getD i 0 ∧ xs.getD i 0 < 256) (hsrc : ∀ i, i < n → w.cell? ⟨bs, os + i, none⟩ = some (.int .u8 (xs.getD i 0))) (hrow : w.rowIs bd T N f) (hfit : od + nd ≤ N) (hlen : 2 * n ≤ nd) (hne : bd ≠ bs) (hbig : n ≤ 4611686018427387903) :
    Calls Tryd.prog 19 #[.slice (some ⟨bd, od, none⟩) nd cd, .slice (some ⟨bs, os, none⟩) n cs] w fun e w' => e = .returned (.int .i64 ((n : Int) * 2)) ∧ w'.rowIs bd T N (Hx.row f od (Lib.bytesOf xs) n) ∧ w.grownBy w' (some bd) := Any.hex_Encode_tag Tryd.laysPa40 T bd od nd cd N f bs os n cs xs w hx hr hsrc hrow hfit hlen hne hbig
def Tryd.lays129_ren : Go.Shelf.Ren := ⟨fun | 129 => 25 | n => n, fun | 53 => 27 | 3 => 3 | 4 => 4 | 46 => 50 | 5 => 5 | 9 => 9 | n => n, fun | n => n⟩
theorem Tryd.lays129 : Go.Proofs.Lays.n129 Tryd.prog Tryd.lays129_ren := {
  mixed := by kernel_rfl
  f129 := Tryd.func25.trans (congrArg some (by kernel_rfl))
  t3 := Tryd.underlying3
  a3 := Tryd.isAgg3
  z3 := Tryd.sizeOf3
  v3 := Tryd.zeroValue3
  t4 := Tryd.underlying4
  a4 := Tryd.isAgg4
  z4 := Tryd.sizeOf4
  v4 := Tryd.zeroValue4
  t5 := Tryd.underlying5
  a5 := Tryd.isAgg5
  z5 := Tryd.sizeOf5
  v5 := Tryd.zeroValue5
  t9 := Tryd.underlying9
  a9 := Tryd.isAgg9
  z9 := Tryd.sizeOf9
  v9 := Tryd.zeroValue9
  t46 := Tryd.underlying50
  a46 := Tryd.isAgg50
  z46 := Tryd.sizeOf50
  v46 := Tryd.zeroValue50
  t53 := Tryd.underlying27
  a53 := Tryd.isAgg27
  z53 := Tryd.sizeOf27
  v53 := Tryd.zeroValue27 }
/-- bits.Len64: "Len64 returns the minimum number of bits required to represent x; the result is 0 for x == 0.": IT RETURNS 'Lib.bitLen x'; the world is as it was. ('h0', 'h1': x is a uint64.) (LAID: no walk: one application.) -/
theorem Tryd.bits_Len64 (x : Int) (w : World) (h0 : 0 ≤ x) (h1 : x ≤ 18446744073709551615) :
    Calls Tryd.prog 25 #[.int .u64 x] w fun e w' => e = .returned (.int .i64 (Lib.bitLen x.toNat)) ∧ w' = w := Any.bits_Len64 Tryd.lays129 x w h0 h1
def Tryd.lays317_ren : Go.Shelf.Ren := ⟨fun | 317 => 24 | n => n, fun | 3 => 3 | 46 => 50 | n => n, fun | n => n⟩
theorem Tryd.lays317 : Go.Proofs.Lays.n317 Tryd.prog Tryd.lays317_ren := {
  mixed := by kernel_rfl
  f317 := Tryd.func24.trans (congrArg some (by kernel_rfl))
  t3 := Tryd.underlying3
  a3 := Tryd.isAgg3
  z3 := Tryd.sizeOf3
  v3 := Tryd.zeroValue3
  t46 := Tryd.underlying50
  a46 := Tryd.isAgg50
  z46 := Tryd.sizeOf50
  v46 := Tryd.zeroValue50 }
open Go.Lib in
/-- internal/strconv.log10Pow2: "log10Pow2(x) returns ⌊log₁₀ 2**x⌋ = ⌊x * log₁₀ 2⌋.": '(x * 78913) >> 18', at an x up to 64 (a length in bits). The world is as it was. (LAID: no walk: one application.) -/
theorem Tryd.internal_strconv_log10Pow2 (x : Nat) (h : x ≤ 64) (w : World) :
    Calls Tryd.prog 24 #[.int .i64 x] w fun e w' => e = .returned (.int .i64 (Lib.l10 x)) ∧ w' = w := Any.internal_strconv_log10Pow2 Tryd.lays317 x h w
def Tryd.lays318_ren : Go.Shelf.Ren := ⟨fun | 318 => 26 | n => n, fun | 3 => 3 | 4 => 4 | n => n, fun | n => n⟩
theorem Tryd.lays318 : Go.Proofs.Lays.n318 Tryd.prog Tryd.lays318_ren := {
  mixed := by kernel_rfl
  f318 := Tryd.func26.trans (congrArg some (by kernel_rfl))
  t3 := Tryd.underlying3
  a3 := Tryd.isAgg3
  z3 := Tryd.sizeOf3
  v3 := Tryd.zeroValue3
  t4 := Tryd.underlying4
  a4 := Tryd.isAgg4
  z4 := Tryd.sizeOf4
  v4 := Tryd.zeroValue4 }
open Go.Lib in
/-- internal/strconv.bool2: "bool2 converts b to an integer: 1 for true, 0 for false." The world is as it was. (LAID: no walk: one application.) -/
theorem Tryd.internal_strconv_bool2_int (b : Bool) (w : World) :
    Calls Tryd.prog 26 #[.bool b] w fun e w' => e = .returned (.int .i64 (if b then 1 else 0)) ∧ w' = w := Any.internal_strconv_bool2_int Tryd.lays318 b w
def Tryd.lays283_ren : Go.Shelf.Ren := ⟨fun | 283 => 20 | n => n, fun | 3 => 3 | 9 => 9 | 4 => 4 | n => n, fun | n => n⟩
theorem Tryd.lays283 : Go.Proofs.Lays.n283 Tryd.prog Tryd.lays283_ren := {
  mixed := by kernel_rfl
  f283 := Tryd.func20.trans (congrArg some (by kernel_rfl))
  t3 := Tryd.underlying3
  a3 := Tryd.isAgg3
  z3 := Tryd.sizeOf3
  v3 := Tryd.zeroValue3
  t4 := Tryd.underlying4
  a4 := Tryd.isAgg4
  z4 := Tryd.sizeOf4
  v4 := Tryd.zeroValue4
  t9 := Tryd.underlying9
  a9 := Tryd.isAgg9
  z9 := Tryd.sizeOf9
  v9 := Tryd.zeroValue9 }
open Go.Lib in
/-- internal/strconv.small: "small returns the string for an i with 0 <= i < nSmalls.": i's decimal numeral. The world is as it was. (LAID: no walk: one application.) -/
theorem Tryd.internal_strconv_small (i : Nat) (h : i < 100) (w : World) :
    Calls Tryd.prog 20 #[.int .i64 i] w fun e w' => e = .returned (.string ⟨(Lib.decDigits i).toArray⟩) ∧ w' = w := Any.internal_strconv_small Tryd.lays283 i h w
def Tryd.laysM284_ren : Go.Shelf.Ren := ⟨fun | 284 => 21 | 129 => 25 | 317 => 24 | 318 => 26 | n => n, fun | 53 => 27 | 3 => 3 | 212 => 52 | 0 => 0 | 4 => 4 | 46 => 50 | 5 => 5 | 9 => 9 | n => n, fun | 17 => 0 | n => n⟩
theorem Tryd.laysM284 : Go.Proofs.LaysM.n284 Tryd.prog Tryd.laysM284_ren := {
  mixed := by kernel_rfl
  f129 := Tryd.func25.trans (congrArg some (by kernel_rfl))
  f284 := Tryd.func21.trans (congrArg some (by kernel_rfl))
  f317 := Tryd.func24.trans (congrArg some (by kernel_rfl))
  f318 := Tryd.func26.trans (congrArg some (by kernel_rfl))
  t0 := Tryd.underlying0
  a0 := Tryd.isAgg0
  z0 := Tryd.sizeOf0
  v0 := Tryd.zeroValue0
  t3 := Tryd.underlying3
  a3 := Tryd.isAgg3
  z3 := Tryd.sizeOf3
  v3 := Tryd.zeroValue3
  t4 := Tryd.underlying4
  a4 := Tryd.isAgg4
  z4 := Tryd.sizeOf4
  v4 := Tryd.zeroValue4
  t5 := Tryd.underlying5
  a5 := Tryd.isAgg5
  z5 := Tryd.sizeOf5
  v5 := Tryd.zeroValue5
  t9 := Tryd.underlying9
  a9 := Tryd.isAgg9
  z9 := Tryd.sizeOf9
  v9 := Tryd.zeroValue9
  t46 := Tryd.underlying50
  a46 := Tryd.isAgg50
  z46 := Tryd.sizeOf50
  v46 := Tryd.zeroValue50
  t53 := Tryd.underlying27
  a53 := Tryd.isAgg27
  z53 := Tryd.sizeOf27
  v53 := Tryd.zeroValue27
  t212 := Tryd.underlying52
  a212 := Tryd.isAgg52
  z212 := Tryd.sizeOf52
  v212 := Tryd.zeroValue52
  g17 := by kernel_rfl
  i0 := by kernel_rfl
  i3 := by kernel_rfl
  i4 := by kernel_rfl
  i5 := by kernel_rfl
  i9 := by kernel_rfl
  i46 := by kernel_rfl
  i53 := by kernel_rfl
  i212 := by kernel_rfl
  m17 := by kernel_rfl }
open Go.Lib in
/-- internal/strconv.numDigits, at a d that is not 0: THE NUMBER OF d's DECIMAL DIGITS. The world is as it was. (LAID: no walk: one application.) -/
theorem Tryd.internal_strconv_numDigits (u : Nat) (h1 : 1 ≤ u) (h2 : u < 18446744073709551616) (w : World) (htab : Lib.TabIs Tryd.prog w "internal/strconv.uint64pow10" .u64 Lib.pow10Tab) :
    Calls Tryd.prog 21 #[.int .u64 u] w fun e w' => e = .returned (.int .i64 (Lib.nDigits u)) ∧ w' = w := Any.internal_strconv_numDigits Tryd.laysM284 u h1 h2 w htab
def Tryd.lays285_ren : Go.Shelf.Ren := ⟨fun | 285 => 22 | n => n, fun | 37 => 35 | 53 => 27 | 3 => 3 | 4 => 4 | 51 => 53 | 9 => 9 | 5 => 5 | 0 => 0 | n => n, fun | n => n⟩
theorem Tryd.lays285 : Go.Proofs.Lays.n285 Tryd.prog Tryd.lays285_ren := {
  mixed := by kernel_rfl
  f285 := Tryd.func22.trans (congrArg some (by kernel_rfl))
  t0 := Tryd.underlying0
  a0 := Tryd.isAgg0
  z0 := Tryd.sizeOf0
  v0 := Tryd.zeroValue0
  t3 := Tryd.underlying3
  a3 := Tryd.isAgg3
  z3 := Tryd.sizeOf3
  v3 := Tryd.zeroValue3
  t4 := Tryd.underlying4
  a4 := Tryd.isAgg4
  z4 := Tryd.sizeOf4
  v4 := Tryd.zeroValue4
  t5 := Tryd.underlying5
  a5 := Tryd.isAgg5
  z5 := Tryd.sizeOf5
  v5 := Tryd.zeroValue5
  t9 := Tryd.underlying9
  a9 := Tryd.isAgg9
  z9 := Tryd.sizeOf9
  v9 := Tryd.zeroValue9
  t37 := Tryd.underlying35
  a37 := Tryd.isAgg35
  z37 := Tryd.sizeOf35
  v37 := Tryd.zeroValue35
  t51 := Tryd.underlying53
  a51 := Tryd.isAgg53
  z51 := Tryd.sizeOf53
  v51 := Tryd.zeroValue53
  t53 := Tryd.underlying27
  a53 := Tryd.isAgg27
  z53 := Tryd.sizeOf27
  v53 := Tryd.zeroValue27 }
open Go.RowKit Go.Sort Go.Lib in
/-- internal/strconv.formatBase10: "formatBase10 formats the decimal representation of u into a. The caller is responsible for ensuring that a is big enough to hold u. If a is too big, leading zeros will be filled in as needed.": THE ROW HOLDS u's DIGITS ('FmtInv .. 0 ..': every place t holds 'dg u (len - 1 - t)'); all else is as it was but for the count of draws. (LAID: no walk: one application.) -/
theorem Tryd.internal_strconv_formatBase10 (blk off cap : Nat) (u : Nat) (d : Array UInt8) (w : World) (hH : Holds (fun (b : UInt8) => Value.int .u8 (b.toNat : Int)) w blk off d) (hu : u < 10 ^ d.size) (hu64 : u < 18446744073709551616) (hsz : d.size < 4611686018427387904) :
    Calls Tryd.prog 22 #[.slice (some ⟨blk, off, none⟩) d.size cap, .int .u64 u] w fun e w' =>
      e = .returned (.tuple #[]) ∧ ∃ (n v' : Nat) (dk : Array UInt8), w' = (putRow (fun (b : UInt8) => Value.int .u8 (b.toNat : Int)) w blk off dk).drewN n ∧ FmtInv d.size u 0 v' dk := Any.internal_strconv_formatBase10 Tryd.lays285 blk off cap u d w hH hu hu64 hsz
def Tryd.laysM288_ren : Go.Shelf.Ren := ⟨fun | 288 => 16 | 283 => 20 | 284 => 21 | 285 => 22 | 286 => 23 | 129 => 25 | 317 => 24 | 318 => 26 | 319 => 27 | 320 => 28 | 337 => 29 | 338 => 30 | n => n, fun | 37 => 35 | 53 => 27 | 3 => 3 | 4 => 4 | 9 => 9 | 171 => 45 | 0 => 0 | 173 => 48 | 212 => 52 | 51 => 53 | 5 => 5 | 20 => 20 | 213 => 54 | 46 => 50 | 232 => 28 | 233 => 58 | n => n, fun | 17 => 0 | 18 => 1 | 19 => 2 | n => n⟩
theorem Tryd.laysM288 : Go.Proofs.LaysM.n288 Tryd.prog Tryd.laysM288_ren := {
  mixed := by kernel_rfl
  f129 := Tryd.func25.trans (congrArg some (by kernel_rfl))
  f283 := Tryd.func20.trans (congrArg some (by kernel_rfl))
  f284 := Tryd.func21.trans (congrArg some (by kernel_rfl))
  f285 := Tryd.func22.trans (congrArg some (by kernel_rfl))
  f286 := Tryd.func23.trans (congrArg some (by kernel_rfl))
  f288 := Tryd.func16.trans (congrArg some (by kernel_rfl))
  f317 := Tryd.func24.trans (congrArg some (by kernel_rfl))
  f318 := Tryd.func26.trans (congrArg some (by kernel_rfl))
  f319 := Tryd.func27.trans (congrArg some (by kernel_rfl))
  f320 := Tryd.func28.trans (congrArg some (by kernel_rfl))
  f337 := Tryd.func29.trans (congrArg some (by kernel_rfl))
  f338 := Tryd.func30.trans (congrArg some (by kernel_rfl))
  t0 := Tryd.underlying0
  a0 := Tryd.isAgg0
  z0 := Tryd.sizeOf0
  v0 := Tryd.zeroValue0
  t3 := Tryd.underlying3
  a3 := Tryd.isAgg3
  z3 := Tryd.sizeOf3
  v3 := Tryd.zeroValue3
  t4 := Tryd.underlying4
  a4 := Tryd.isAgg4
  z4 := Tryd.sizeOf4
  v4 := Tryd.zeroValue4
  t5 := Tryd.underlying5
  a5 := Tryd.isAgg5
  z5 := Tryd.sizeOf5
  v5 := Tryd.zeroValue5
  t9 := Tryd.underlying9
  a9 := Tryd.isAgg9
  z9 := Tryd.sizeOf9
  v9 := Tryd.zeroValue9
  t20 := Tryd.underlying20
  a20 := Tryd.isAgg20
  z20 := Tryd.sizeOf20
  v20 := Tryd.zeroValue20
  t37 := Tryd.underlying35
  a37 := Tryd.isAgg35
  z37 := Tryd.sizeOf35
  v37 := Tryd.zeroValue35
  t46 := Tryd.underlying50
  a46 := Tryd.isAgg50
  z46 := Tryd.sizeOf50
  v46 := Tryd.zeroValue50
  t51 := Tryd.underlying53
  a51 := Tryd.isAgg53
  z51 := Tryd.sizeOf53
  v51 := Tryd.zeroValue53
  t53 := Tryd.underlying27
  a53 := Tryd.isAgg27
  z53 := Tryd.sizeOf27
  v53 := Tryd.zeroValue27
  t171 := Tryd.underlying45
  a171 := Tryd.isAgg45
  z171 := Tryd.sizeOf45
  v171 := Tryd.zeroValue45
  t173 := Tryd.underlying48
  a173 := Tryd.isAgg48
  z173 := Tryd.sizeOf48
  v173 := Tryd.zeroValue48
  t212 := Tryd.underlying52
  a212 := Tryd.isAgg52
  z212 := Tryd.sizeOf52
  v212 := Tryd.zeroValue52
  t213 := Tryd.underlying54
  a213 := Tryd.isAgg54
  z213 := Tryd.sizeOf54
  t232 := Tryd.underlying28
  a232 := Tryd.isAgg28
  z232 := Tryd.sizeOf28
  v232 := Tryd.zeroValue28
  t233 := Tryd.underlying58
  a233 := Tryd.isAgg58
  z233 := Tryd.sizeOf58
  v233 := Tryd.zeroValue58
  g17 := by kernel_rfl
  g18 := by kernel_rfl
  g19 := by kernel_rfl
  i0 := by kernel_rfl
  i3 := by kernel_rfl
  i4 := by kernel_rfl
  i5 := by kernel_rfl
  i9 := by kernel_rfl
  i20 := by kernel_rfl
  i37 := by kernel_rfl
  i46 := by kernel_rfl
  i51 := by kernel_rfl
  i53 := by kernel_rfl
  i171 := by kernel_rfl
  i173 := by kernel_rfl
  i212 := by kernel_rfl
  i232 := by kernel_rfl
  i233 := by kernel_rfl
  m17 := by kernel_rfl
  m18 := by kernel_rfl
  m19 := by kernel_rfl }
open Go.RowKit Go.Sort Go.Lib in
/-- internal/strconv.AppendUint(dst, i, 10), i BELOW 100: WHAT COMES BACK OWNS dst's CELLS AND, BEHIND THEM, i's DECIMAL NUMERAL. No table is read. Below the call's own blocks nothing has turned. (LAID: no walk: one application.) -/
theorem Tryd.internal_strconv_AppendUint_10_small (B n u : Nat) (hu : u < 100) (sv : Value) (xs : List Value) (w : World) (hown : w.ownsRow B 5 1 sv n xs) (hBw : B ≤ w.heap.size) (hlim : n + 20 ≤ 140737488355328) :
    Calls Tryd.prog 16 #[sv, .int .u64 u, .int .i64 10] w fun e w' => ∃ v', e = .returned v' ∧ w'.ownsRow B 5 1 v' (n + (Lib.decDigits u).length) (xs ++ Lib.byteCells (Lib.decDigits u)) ∧ Below B w w' ∧ Lib.OthersKept 5 none w w' := Any.internal_strconv_AppendUint_10_small Tryd.laysM288 B n u hu sv xs w hown hBw hlim
open Go.RowKit Go.Sort Go.Lib in
/-- internal/strconv.AppendUint(dst, i, 10), i FROM 100 ON: likewise; the digits are laid in an array of the call's own and appended. (LAID: no walk: one application.) -/
theorem Tryd.internal_strconv_AppendUint_10_big (B n u : Nat) (hu : 100 ≤ u) (hu64 : u < 18446744073709551616) (sv : Value) (xs : List Value) (w : World) (hown : w.ownsRow B 5 1 sv n xs) (hBw : B ≤ w.heap.size) (hlim : n + 20 ≤ 140737488355328) (htab : Lib.TabIs Tryd.prog w "internal/strconv.uint64pow10" .u64 Lib.pow10Tab) :
    Calls Tryd.prog 16 #[sv, .int .u64 u, .int .i64 10] w fun e w' => ∃ v', e = .returned v' ∧ w'.ownsRow B 5 1 v' (n + (Lib.decDigits u).length) (xs ++ Lib.byteCells (Lib.decDigits u)) ∧ Below B w w' ∧ Lib.OthersKept 5 none w w' := Any.internal_strconv_AppendUint_10_big Tryd.laysM288 B n u hu hu64 sv xs w hown hBw hlim htab
open Go.RowKit Go.Sort Go.Lib in
/-- internal/strconv.AppendUint(dst, i, 10): the two contracts as one. NO WALK. (LAID: no walk: one application.) -/
theorem Tryd.internal_strconv_AppendUint_10 (B n u : Nat) (hu64 : u < 18446744073709551616) (sv : Value) (xs : List Value) (w : World) (hown : w.ownsRow B 5 1 sv n xs) (hBw : B ≤ w.heap.size) (hlim : n + 20 ≤ 140737488355328) (htab : Lib.TabIs Tryd.prog w "internal/strconv.uint64pow10" .u64 Lib.pow10Tab) :
    Calls Tryd.prog 16 #[sv, .int .u64 u, .int .i64 10] w fun e w' => ∃ v', e = .returned v' ∧ w'.ownsRow B 5 1 v' (n + (Lib.decDigits u).length) (xs ++ Lib.byteCells (Lib.decDigits u)) ∧ Below B w w' ∧ Lib.OthersKept 5 none w w' := Any.internal_strconv_AppendUint_10 Tryd.laysM288 B n u hu64 sv xs w hown hBw hlim htab
def Tryd.laysM249_ren : Go.Shelf.Ren := ⟨fun | 249 => 14 | 288 => 16 | 283 => 20 | 284 => 21 | 285 => 22 | 286 => 23 | 129 => 25 | 317 => 24 | 318 => 26 | 319 => 27 | 320 => 28 | 337 => 29 | 338 => 30 | n => n, fun | 37 => 35 | 2 => 2 | 3 => 3 | 53 => 27 | 4 => 4 | 9 => 9 | 171 => 45 | 0 => 0 | 173 => 48 | 212 => 52 | 51 => 53 | 5 => 5 | 20 => 20 | 213 => 54 | 46 => 50 | 232 => 28 | 233 => 58 | n => n, fun | 17 => 0 | 18 => 1 | 19 => 2 | n => n⟩
theorem Tryd.laysM249 : Go.Proofs.LaysM.n249 Tryd.prog Tryd.laysM249_ren := {
  mixed := by kernel_rfl
  f129 := Tryd.func25.trans (congrArg some (by kernel_rfl))
  f249 := Tryd.func14.trans (congrArg some (by kernel_rfl))
  f283 := Tryd.func20.trans (congrArg some (by kernel_rfl))
  f284 := Tryd.func21.trans (congrArg some (by kernel_rfl))
  f285 := Tryd.func22.trans (congrArg some (by kernel_rfl))
  f286 := Tryd.func23.trans (congrArg some (by kernel_rfl))
  f288 := Tryd.func16.trans (congrArg some (by kernel_rfl))
  f317 := Tryd.func24.trans (congrArg some (by kernel_rfl))
  f318 := Tryd.func26.trans (congrArg some (by kernel_rfl))
  f319 := Tryd.func27.trans (congrArg some (by kernel_rfl))
  f320 := Tryd.func28.trans (congrArg some (by kernel_rfl))
  f337 := Tryd.func29.trans (congrArg some (by kernel_rfl))
  f338 := Tryd.func30.trans (congrArg some (by kernel_rfl))
  t0 := Tryd.underlying0
  a0 := Tryd.isAgg0
  z0 := Tryd.sizeOf0
  v0 := Tryd.zeroValue0
  t2 := Tryd.underlying2
  a2 := Tryd.isAgg2
  z2 := Tryd.sizeOf2
  v2 := Tryd.zeroValue2
  t3 := Tryd.underlying3
  a3 := Tryd.isAgg3
  z3 := Tryd.sizeOf3
  v3 := Tryd.zeroValue3
  t4 := Tryd.underlying4
  a4 := Tryd.isAgg4
  z4 := Tryd.sizeOf4
  v4 := Tryd.zeroValue4
  t5 := Tryd.underlying5
  a5 := Tryd.isAgg5
  z5 := Tryd.sizeOf5
  v5 := Tryd.zeroValue5
  t9 := Tryd.underlying9
  a9 := Tryd.isAgg9
  z9 := Tryd.sizeOf9
  v9 := Tryd.zeroValue9
  t20 := Tryd.underlying20
  a20 := Tryd.isAgg20
  z20 := Tryd.sizeOf20
  v20 := Tryd.zeroValue20
  t37 := Tryd.underlying35
  a37 := Tryd.isAgg35
  z37 := Tryd.sizeOf35
  v37 := Tryd.zeroValue35
  t46 := Tryd.underlying50
  a46 := Tryd.isAgg50
  z46 := Tryd.sizeOf50
  v46 := Tryd.zeroValue50
  t51 := Tryd.underlying53
  a51 := Tryd.isAgg53
  z51 := Tryd.sizeOf53
  v51 := Tryd.zeroValue53
  t53 := Tryd.underlying27
  a53 := Tryd.isAgg27
  z53 := Tryd.sizeOf27
  v53 := Tryd.zeroValue27
  t171 := Tryd.underlying45
  a171 := Tryd.isAgg45
  z171 := Tryd.sizeOf45
  v171 := Tryd.zeroValue45
  t173 := Tryd.underlying48
  a173 := Tryd.isAgg48
  z173 := Tryd.sizeOf48
  v173 := Tryd.zeroValue48
  t212 := Tryd.underlying52
  a212 := Tryd.isAgg52
  z212 := Tryd.sizeOf52
  v212 := Tryd.zeroValue52
  t213 := Tryd.underlying54
  a213 := Tryd.isAgg54
  z213 := Tryd.sizeOf54
  t232 := Tryd.underlying28
  a232 := Tryd.isAgg28
  z232 := Tryd.sizeOf28
  v232 := Tryd.zeroValue28
  t233 := Tryd.underlying58
  a233 := Tryd.isAgg58
  z233 := Tryd.sizeOf58
  v233 := Tryd.zeroValue58
  g17 := by kernel_rfl
  g18 := by kernel_rfl
  g19 := by kernel_rfl
  i0 := by kernel_rfl
  i2 := by kernel_rfl
  i3 := by kernel_rfl
  i4 := by kernel_rfl
  i5 := by kernel_rfl
  i9 := by kernel_rfl
  i20 := by kernel_rfl
  i37 := by kernel_rfl
  i46 := by kernel_rfl
  i51 := by kernel_rfl
  i53 := by kernel_rfl
  i171 := by kernel_rfl
  i173 := by kernel_rfl
  i212 := by kernel_rfl
  i232 := by kernel_rfl
  i233 := by kernel_rfl
  m17 := by kernel_rfl
  m18 := by kernel_rfl
  m19 := by kernel_rfl }
open Go.RowKit Go.Sort Go.Lib in
/-- internal/strconv.AppendInt: "AppendInt appends the string form of the integer i, as generated by FormatInt, to dst and returns the extended buffer.": AT BASE 10: WHAT COMES BACK OWNS dst's CELLS AND, BEHIND THEM, i's DECIMAL NUMERAL ('Lib.itoa i': at most 20 bytes), for every int64. Below the call's own blocks nothing has turned. (LAID: no walk: one application.) -/
theorem Tryd.internal_strconv_AppendInt_10 (B n : Nat) (i : Int) (h0 : -9223372036854775808 ≤ i) (h1 : i ≤ 9223372036854775807) (sv : Value) (xs : List Value) (w : World) (hown : w.ownsRow B 5 1 sv n xs) (hBw : B ≤ w.heap.size) (hlim : n + 21 ≤ 140737488355328) (htab : Lib.TabBelow Tryd.prog B w "internal/strconv.uint64pow10" .u64 Lib.pow10Tab) :
    Calls Tryd.prog 14 #[sv, .int .i64 i, .int .i64 10] w fun e w' => ∃ v', e = .returned v' ∧ w'.ownsRow B 5 1 v' (n + (Lib.itoa i).length) (xs ++ Lib.byteCells (Lib.itoa i)) ∧ Below B w w' ∧ Lib.OthersKept 5 none w w' := Any.internal_strconv_AppendInt_10 Tryd.laysM249 B n i h0 h1 sv xs w hown hBw hlim htab
def Tryd.laysM176_ren : Go.Shelf.Ren := ⟨fun | 176 => 12 | 249 => 14 | 288 => 16 | 283 => 20 | 284 => 21 | 285 => 22 | 286 => 23 | 129 => 25 | 317 => 24 | 318 => 26 | 319 => 27 | 320 => 28 | 337 => 29 | 338 => 30 | n => n, fun | 37 => 35 | 2 => 2 | 3 => 3 | 53 => 27 | 4 => 4 | 9 => 9 | 171 => 45 | 0 => 0 | 173 => 48 | 212 => 52 | 51 => 53 | 5 => 5 | 20 => 20 | 213 => 54 | 46 => 50 | 232 => 28 | 233 => 58 | n => n, fun | 17 => 0 | 18 => 1 | 19 => 2 | n => n⟩
theorem Tryd.laysM176 : Go.Proofs.LaysM.n176 Tryd.prog Tryd.laysM176_ren := {
  mixed := by kernel_rfl
  f129 := Tryd.func25.trans (congrArg some (by kernel_rfl))
  f176 := Tryd.func12.trans (congrArg some (by kernel_rfl))
  f249 := Tryd.func14.trans (congrArg some (by kernel_rfl))
  f283 := Tryd.func20.trans (congrArg some (by kernel_rfl))
  f284 := Tryd.func21.trans (congrArg some (by kernel_rfl))
  f285 := Tryd.func22.trans (congrArg some (by kernel_rfl))
  f286 := Tryd.func23.trans (congrArg some (by kernel_rfl))
  f288 := Tryd.func16.trans (congrArg some (by kernel_rfl))
  f317 := Tryd.func24.trans (congrArg some (by kernel_rfl))
  f318 := Tryd.func26.trans (congrArg some (by kernel_rfl))
  f319 := Tryd.func27.trans (congrArg some (by kernel_rfl))
  f320 := Tryd.func28.trans (congrArg some (by kernel_rfl))
  f337 := Tryd.func29.trans (congrArg some (by kernel_rfl))
  f338 := Tryd.func30.trans (congrArg some (by kernel_rfl))
  t0 := Tryd.underlying0
  a0 := Tryd.isAgg0
  z0 := Tryd.sizeOf0
  v0 := Tryd.zeroValue0
  t2 := Tryd.underlying2
  a2 := Tryd.isAgg2
  z2 := Tryd.sizeOf2
  v2 := Tryd.zeroValue2
  t3 := Tryd.underlying3
  a3 := Tryd.isAgg3
  z3 := Tryd.sizeOf3
  v3 := Tryd.zeroValue3
  t4 := Tryd.underlying4
  a4 := Tryd.isAgg4
  z4 := Tryd.sizeOf4
  v4 := Tryd.zeroValue4
  t5 := Tryd.underlying5
  a5 := Tryd.isAgg5
  z5 := Tryd.sizeOf5
  v5 := Tryd.zeroValue5
  t9 := Tryd.underlying9
  a9 := Tryd.isAgg9
  z9 := Tryd.sizeOf9
  v9 := Tryd.zeroValue9
  t20 := Tryd.underlying20
  a20 := Tryd.isAgg20
  z20 := Tryd.sizeOf20
  v20 := Tryd.zeroValue20
  t37 := Tryd.underlying35
  a37 := Tryd.isAgg35
  z37 := Tryd.sizeOf35
  v37 := Tryd.zeroValue35
  t46 := Tryd.underlying50
  a46 := Tryd.isAgg50
  z46 := Tryd.sizeOf50
  v46 := Tryd.zeroValue50
  t51 := Tryd.underlying53
  a51 := Tryd.isAgg53
  z51 := Tryd.sizeOf53
  v51 := Tryd.zeroValue53
  t53 := Tryd.underlying27
  a53 := Tryd.isAgg27
  z53 := Tryd.sizeOf27
  v53 := Tryd.zeroValue27
  t171 := Tryd.underlying45
  a171 := Tryd.isAgg45
  z171 := Tryd.sizeOf45
  v171 := Tryd.zeroValue45
  t173 := Tryd.underlying48
  a173 := Tryd.isAgg48
  z173 := Tryd.sizeOf48
  v173 := Tryd.zeroValue48
  t212 := Tryd.underlying52
  a212 := Tryd.isAgg52
  z212 := Tryd.sizeOf52
  v212 := Tryd.zeroValue52
  t213 := Tryd.underlying54
  a213 := Tryd.isAgg54
  z213 := Tryd.sizeOf54
  t232 := Tryd.underlying28
  a232 := Tryd.isAgg28
  z232 := Tryd.sizeOf28
  v232 := Tryd.zeroValue28
  t233 := Tryd.underlying58
  a233 := Tryd.isAgg58
  z233 := Tryd.sizeOf58
  v233 := Tryd.zeroValue58
  g17 := by kernel_rfl
  g18 := by kernel_rfl
  g19 := by kernel_rfl
  i0 := by kernel_rfl
  i2 := by kernel_rfl
  i3 := by kernel_rfl
  i4 := by kernel_rfl
  i5 := by kernel_rfl
  i9 := by kernel_rfl
  i20 := by kernel_rfl
  i37 := by kernel_rfl
  i46 := by kernel_rfl
  i51 := by kernel_rfl
  i53 := by kernel_rfl
  i171 := by kernel_rfl
  i173 := by kernel_rfl
  i212 := by kernel_rfl
  i232 := by kernel_rfl
  i233 := by kernel_rfl
  m17 := by kernel_rfl
  m18 := by kernel_rfl
  m19 := by kernel_rfl }
open Go.RowKit Go.Sort Go.Lib in
/-- strconv.AppendInt: "AppendInt appends the string form of the integer i, as generated by FormatInt, to dst and returns the extended buffer.": AT BASE 10: WHAT COMES BACK OWNS dst's CELLS AND, BEHIND THEM, i's DECIMAL NUMERAL ('Lib.itoa i': at most 20 bytes), for every int64. Below the call's own blocks nothing has turned. (LAID: no walk: one application.) -/
theorem Tryd.strconv_AppendInt_10 (B n : Nat) (i : Int) (h0 : -9223372036854775808 ≤ i) (h1 : i ≤ 9223372036854775807) (sv : Value) (xs : List Value) (w : World) (hown : w.ownsRow B 5 1 sv n xs) (hBw : B ≤ w.heap.size) (hlim : n + 21 ≤ 140737488355328) (htab : Lib.TabBelow Tryd.prog B w "internal/strconv.uint64pow10" .u64 Lib.pow10Tab) :
    Calls Tryd.prog 12 #[sv, .int .i64 i, .int .i64 10] w fun e w' => ∃ v', e = .returned v' ∧ w'.ownsRow B 5 1 v' (n + (Lib.itoa i).length) (xs ++ Lib.byteCells (Lib.itoa i)) ∧ Below B w w' ∧ Lib.OthersKept 5 none w w' := Any.strconv_AppendInt_10 Tryd.laysM176 B n i h0 h1 sv xs w hown hBw hlim htab
def Tryd.laysPa41_ren : Go.Shelf.Ren := ⟨fun | 41 => 17 | n => n, fun | 3 => 3 | n => n, fun | n => n⟩
theorem Tryd.laysPa41 : Go.Proofs.Lays.p41 Tryd.prog Tryd.laysPa41_ren := {
  mixed := by kernel_rfl
  f41 := Tryd.func17.trans (congrArg some (by kernel_rfl))
  t3 := Tryd.underlying3
  a3 := Tryd.isAgg3
  z3 := Tryd.sizeOf3
  v3 := Tryd.zeroValue3 }
open Go.RowKit Go.Lib in
/-- encoding/hex.EncodedLen: "EncodedLen returns the length of an encoding of n source bytes. Specifically, it returns n * 2.": for 0 ≤ n < 2^62 (beyond it int's product wraps). (LAID: no walk: one application.) -/
theorem Tryd.hex_EncodedLen (n : Int) (h0 : 0 ≤ n) (h1 : n < 4611686018427387904) (w : World) :
    Calls Tryd.prog 17 #[.int .i64 n] w fun e w' => e = .returned (.int .i64 (n * 2)) ∧ w' = w := Any.hex_EncodedLen Tryd.laysPa41 n h0 h1 w
open Go.RowKit Go.Lib in
/-- encoding/hex.Encode: "Encode encodes src into EncodedLen(len(src)) bytes of dst. As a convenience, it returns the number of bytes written to dst, but this value is always EncodedLen(len(src)). Encode implements hexadecimal encoding.": dst: nd places from place od on of a row (block bd: N cells of uint8, none frozen, holding 'f'), with room for the digits; src: n cells of ANOTHER block, holding the numbers xs, each a byte's. IT RETURNS n * 2; THE ROW THEN HOLDS 'Hx.row f od (the bytes of src) n': the 2 * n digits of 'Hx.encode' from place od on, else what it held; nothing else has turned ('grownBy'). (LAID: no walk: one application.) -/
theorem Tryd.hex_Encode (bd od nd cd N : Nat) (f : Nat → Value) (bs os n cs : Nat) (xs : List Int) (w : World) (hx : xs.length = n) (hr : ∀ i, i < n → 0 ≤ xs.getD i 0 ∧ xs.getD i 0 < 256) (hsrc : ∀ i, i < n → w.cell? ⟨bs, os + i, none⟩ = some (.int .u8 (xs.getD i 0))) (hrow : w.rowIs bd 5 N f) (hfit : od + nd ≤ N) (hlen : 2 * n ≤ nd) (hne : bd ≠ bs) (hbig : n ≤ 4611686018427387903) :
    Calls Tryd.prog 19 #[.slice (some ⟨bd, od, none⟩) nd cd, .slice (some ⟨bs, os, none⟩) n cs] w fun e w' => e = .returned (.int .i64 ((n : Int) * 2)) ∧ w'.rowIs bd 5 N (Hx.row f od (Lib.bytesOf xs) n) ∧ w.grownBy w' (some bd) := Any.hex_Encode Tryd.laysPa40 bd od nd cd N f bs os n cs xs w hx hr hsrc hrow hfit hlen hne hbig
open Go.RowKit Go.Lib in
/-- encoding/hex.Encode AT A src THAT IS nil: nothing is written; it returns 0. (dst: whatever value.) (LAID: no walk: one application.) -/
theorem Tryd.hex_Encode_nil (dst : Value) (w : World) :
    Calls Tryd.prog 19 #[dst, .slice none 0 0] w fun e w' => e = .returned (.int .i64 0) ∧ w' = w := Any.hex_Encode_nil Tryd.laysPa40 dst w
def Tryd.laysGrow_ren : Go.Shelf.Ren := ⟨fun | 4 => 18 | n => n, fun | 22 => 35 | 25 => 5 | 3 => 3 | 4 => 4 | 9 => 9 | 20 => 20 | 0 => 0 | n => n, fun | n => n⟩
theorem Tryd.laysGrow : Go.Proofs.Lays8.n4 Tryd.prog Tryd.laysGrow_ren := {
  mixed := by kernel_rfl
  f4 := ⟨Tryd.f18.name, by decide, Tryd.func18.trans (congrArg some (by kernel_rfl))⟩
  t0 := Tryd.underlying0
  a0 := Tryd.isAgg0
  z0 := Tryd.sizeOf0
  v0 := Tryd.zeroValue0
  t3 := Tryd.underlying3
  a3 := Tryd.isAgg3
  z3 := Tryd.sizeOf3
  v3 := Tryd.zeroValue3
  t4 := Tryd.underlying4
  a4 := Tryd.isAgg4
  z4 := Tryd.sizeOf4
  v4 := Tryd.zeroValue4
  t9 := Tryd.underlying9
  a9 := Tryd.isAgg9
  z9 := Tryd.sizeOf9
  v9 := Tryd.zeroValue9
  t20 := Tryd.underlying20
  a20 := Tryd.isAgg20
  z20 := Tryd.sizeOf20
  v20 := Tryd.zeroValue20
  t22 := Tryd.underlying35
  a22 := Tryd.isAgg35
  z22 := Tryd.sizeOf35
  v22 := Tryd.zeroValue35 }
end Go.Proofs
