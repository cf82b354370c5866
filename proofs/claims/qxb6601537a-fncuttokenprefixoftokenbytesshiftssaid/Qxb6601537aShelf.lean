/-
  Seat b6601537a: those of the kit's shelf contracts that the walks use, laid at this program in plain words, as the kit's own tool writes them (its remarks struck).
-/
import Derived.Shelf.Strings.Builder1
import Derived.Shelf.Small.Utf8
import Derived.Shelf.Small.Strs
import Derived.Shelf.GgClosure.StringsIndexFuncTop
import Derived.Shelf.Strings.Runes
import Derived.Shelf.Strings.IndexAny
import Derived.Shelf.Strings.IndexAnyAll
import Derived.Shelf.Strings.FuncGrows
import Derived.Test.Qxb6601537aProg
namespace Go.Proofs
open Go.Shelf
def Try.lays169_ren : Go.Shelf.Ren := ⟨fun | 169 => 25 | n => n, fun | 70 => 35 | 9 => 9 | 0 => 0 | 72 => 37 | 37 => 30 | 127 => 49 | 3 => 3 | 5 => 5 | n => n, fun | n => n⟩
theorem Try.lays169 : Go.Proofs.Lays.n169 Try.prog Try.lays169_ren := {
  mixed := by kernel_rfl
  f169 := Try.func25.trans (congrArg some (by kernel_rfl))
  t0 := Try.underlying0
  a0 := Try.isAgg0
  z0 := Try.sizeOf0
  v0 := Try.zeroValue0
  t3 := Try.underlying3
  a3 := Try.isAgg3
  z3 := Try.sizeOf3
  v3 := Try.zeroValue3
  t9 := Try.underlying9
  a9 := Try.isAgg9
  z9 := Try.sizeOf9
  v9 := Try.zeroValue9
  t37 := Try.underlying30
  a37 := Try.isAgg30
  z37 := Try.sizeOf30
  v37 := Try.zeroValue30
  t70 := Try.underlying35
  a70 := Try.isAgg35
  z70 := Try.sizeOf35
  v70 := Try.zeroValue35
  t72 := Try.underlying37
  a72 := Try.isAgg37
  z72 := Try.sizeOf37
  v72 := Try.zeroValue37
  t127 := Try.underlying49
  a127 := Try.isAgg49
  z127 := Try.sizeOf49
  v127 := Try.zeroValue49 }
theorem Try.Builder_Extra_169 : Builder.Extra Try.prog Try.lays169_ren := {
  sizeBuilder := by kernel_rfl
  liesBuilder := by kernel_rfl
  t5 := Try.underlying5
  a5 := Try.isAgg5
  z5 := Try.sizeOf5
  v5 := Try.zeroValue5
  infoByte := by kernel_rfl
  cellsByte := by kernel_rfl
  sizeByte := by kernel_rfl
  neB5 := by decide }
open Go.RowKit in
theorem Try.Builder_String_any (B b : Nat) (l : List UInt8) (w : World) (h : Lib.IsBuilder 37 5 B b (Lib.byteCells l) w) (hBw : B ≤ w.heap.size) :
    Calls Try.prog 25 #[.pointer (some ⟨b, 0, none⟩)] w fun e w' => e = .returned (.string ⟨l.toArray⟩) ∧ Below B w w' := Any.Builder_String_any Try.lays169 Try.Builder_Extra_169 B b l w h hBw
def Try.lays119_ren : Go.Shelf.Ren := ⟨fun | 119 => 35 | n => n, fun | 21 => 21 | 4 => 4 | n => n, fun | n => n⟩
theorem Try.lays119 : Go.Proofs.Lays.n119 Try.prog Try.lays119_ren := {
  mixed := by kernel_rfl
  f119 := Try.func35.trans (congrArg some (by kernel_rfl))
  t4 := Try.underlying4
  a4 := Try.isAgg4
  z4 := Try.sizeOf4
  v4 := Try.zeroValue4
  t21 := Try.underlying21
  a21 := Try.isAgg21
  z21 := Try.sizeOf21
  v21 := Try.zeroValue21 }
theorem Try.utf8_ValidRune (r : Int) (w : World) :
    Calls Try.prog 35 #[.int .i32 r] w fun e w' => e = .returned (.bool (Lib.validRune r)) ∧ w' = w := Any.utf8_ValidRune Try.lays119 r w
def Try.lays137_ren : Go.Shelf.Ren := ⟨fun | 137 => 34 | 217 => 39 | 266 => 40 | n => n, fun | 9 => 9 | 5 => 5 | 3 => 3 | n => n, fun | n => n⟩
theorem Try.lays137 : Go.Proofs.Lays.n137 Try.prog Try.lays137_ren := {
  mixed := by kernel_rfl
  f137 := Try.func34.trans (congrArg some (by kernel_rfl))
  f217 := Try.func39.trans (congrArg some (by kernel_rfl))
  f266 := Try.func40.trans (congrArg some (by kernel_rfl))
  t3 := Try.underlying3
  a3 := Try.isAgg3
  z3 := Try.sizeOf3
  v3 := Try.zeroValue3
  t5 := Try.underlying5
  a5 := Try.isAgg5
  z5 := Try.sizeOf5
  v5 := Try.zeroValue5
  t9 := Try.underlying9
  a9 := Try.isAgg9
  z9 := Try.sizeOf9
  v9 := Try.zeroValue9 }
open Go.RowKit in
theorem Try.strings_IndexByte (s : ByteArray) (c : Int) (w : World) :
    Calls Try.prog 34 #[.string s, .int .u8 c] w fun e w' => e = .returned (.int .i64 (Lib.indexByte s.data.toList c.toNat.toUInt8)) ∧ w' = w := Any.strings_IndexByte Try.lays137 s c w
def Try.laysGw15_ren : Go.Shelf.Ren := ⟨fun | 15 => 20 | 20 => 27 | n => n, fun | 9 => 9 | 23 => 33 | 3 => 3 | 4 => 4 | 0 => 0 | 21 => 21 | n => n, fun | n => n⟩
theorem Try.laysGw15 : Go.Proofs.LaysGw.n15 Try.prog Try.laysGw15_ren := {
  mixed := by kernel_rfl
  f15 := Try.func20.trans (congrArg some (by kernel_rfl))
  f20 := Try.func27.trans (congrArg some (by kernel_rfl))
  t0 := Try.underlying0
  a0 := Try.isAgg0
  z0 := Try.sizeOf0
  v0 := Try.zeroValue0
  i0 := by kernel_rfl
  t3 := Try.underlying3
  a3 := Try.isAgg3
  z3 := Try.sizeOf3
  v3 := Try.zeroValue3
  i3 := by kernel_rfl
  t4 := Try.underlying4
  a4 := Try.isAgg4
  z4 := Try.sizeOf4
  v4 := Try.zeroValue4
  i4 := by kernel_rfl
  t9 := Try.underlying9
  a9 := Try.isAgg9
  z9 := Try.sizeOf9
  v9 := Try.zeroValue9
  i9 := by kernel_rfl
  t21 := Try.underlying21
  a21 := Try.isAgg21
  z21 := Try.sizeOf21
  v21 := Try.zeroValue21
  i21 := by kernel_rfl
  t23 := Try.underlying33
  a23 := Try.isAgg33
  z23 := Try.sizeOf33
  v23 := Try.zeroValue33
  i23 := by kernel_rfl }
def Try.lays152_ren : Go.Shelf.Ren := ⟨fun | 152 => 28 | 137 => 34 | 119 => 35 | 224 => 36 | 225 => 37 | 217 => 39 | 266 => 40 | n => n, fun | 9 => 9 | 21 => 21 | 3 => 3 | 4 => 4 | 5 => 5 | 0 => 0 | 46 => 52 | n => n, fun | n => n⟩
theorem Try.lays152 : Go.Proofs.Lays.n152 Try.prog Try.lays152_ren := {
  mixed := by kernel_rfl
  f119 := Try.func35.trans (congrArg some (by kernel_rfl))
  f137 := Try.func34.trans (congrArg some (by kernel_rfl))
  f152 := Try.func28.trans (congrArg some (by kernel_rfl))
  f217 := Try.func39.trans (congrArg some (by kernel_rfl))
  f224 := Try.func36.trans (congrArg some (by kernel_rfl))
  f225 := Try.func37.trans (congrArg some (by kernel_rfl))
  f266 := Try.func40.trans (congrArg some (by kernel_rfl))
  t0 := Try.underlying0
  a0 := Try.isAgg0
  z0 := Try.sizeOf0
  v0 := Try.zeroValue0
  t3 := Try.underlying3
  a3 := Try.isAgg3
  z3 := Try.sizeOf3
  v3 := Try.zeroValue3
  t4 := Try.underlying4
  a4 := Try.isAgg4
  z4 := Try.sizeOf4
  v4 := Try.zeroValue4
  t5 := Try.underlying5
  a5 := Try.isAgg5
  z5 := Try.sizeOf5
  v5 := Try.zeroValue5
  t9 := Try.underlying9
  a9 := Try.isAgg9
  z9 := Try.sizeOf9
  v9 := Try.zeroValue9
  t21 := Try.underlying21
  a21 := Try.isAgg21
  z21 := Try.sizeOf21
  v21 := Try.zeroValue21
  t46 := Try.underlying52
  a46 := Try.isAgg52
  z46 := Try.sizeOf52
  v46 := Try.zeroValue52 }
open Go.RowKit Go.Lib in
theorem Try.strings_IndexRune_ascii (s : ByteArray) (r : Int) (w : World) (h0 : 0 ≤ r) (h1 : r < 128) :
    Calls Try.prog 28 #[.string s, .int .i32 r] w fun e w' => e = .returned (.int .i64 (Lib.indexByte s.data.toList r.toNat.toUInt8)) ∧ w' = w := Any.strings_IndexRune_ascii Try.lays152 s r w h0 h1
def Try.lays226_ren : Go.Shelf.Ren := ⟨fun | 226 => 30 | n => n, fun | 3 => 3 | 4 => 4 | n => n, fun | n => n⟩
theorem Try.lays226 : Go.Proofs.Lays.n226 Try.prog Try.lays226_ren := {
  mixed := by kernel_rfl
  f226 := Try.func30.trans (congrArg some (by kernel_rfl))
  t3 := Try.underlying3
  a3 := Try.isAgg3
  z3 := Try.sizeOf3
  v3 := Try.zeroValue3
  t4 := Try.underlying4
  a4 := Try.isAgg4
  z4 := Try.sizeOf4
  v4 := Try.zeroValue4 }
open Go.RowKit Go.Lib in
theorem Try.strings_shouldUseASCIISet (n : Int) (w : World) :
    Calls Try.prog 30 #[.int .i64 n] w fun e w' => e = .returned (.bool (decide (8 < n))) ∧ w' = w := Any.strings_shouldUseASCIISet Try.lays226 n w
def Try.lays153_ren : Go.Shelf.Ren := ⟨fun | 153 => 24 | 152 => 28 | 226 => 30 | 227 => 31 | 228 => 32 | 137 => 34 | 119 => 35 | 224 => 36 | 225 => 37 | 217 => 39 | 266 => 40 | n => n, fun | 9 => 9 | 3 => 3 | 4 => 4 | 5 => 5 | 21 => 21 | 117 => 47 | 116 => 46 | 0 => 0 | 46 => 52 | 124 => 53 | n => n, fun | n => n⟩
theorem Try.lays153 : Go.Proofs.Lays.n153 Try.prog Try.lays153_ren := {
  mixed := by kernel_rfl
  f119 := Try.func35.trans (congrArg some (by kernel_rfl))
  f137 := Try.func34.trans (congrArg some (by kernel_rfl))
  f152 := Try.func28.trans (congrArg some (by kernel_rfl))
  f153 := Try.func24.trans (congrArg some (by kernel_rfl))
  f217 := Try.func39.trans (congrArg some (by kernel_rfl))
  f224 := Try.func36.trans (congrArg some (by kernel_rfl))
  f225 := Try.func37.trans (congrArg some (by kernel_rfl))
  f226 := Try.func30.trans (congrArg some (by kernel_rfl))
  f227 := Try.func31.trans (congrArg some (by kernel_rfl))
  f228 := Try.func32.trans (congrArg some (by kernel_rfl))
  f266 := Try.func40.trans (congrArg some (by kernel_rfl))
  t0 := Try.underlying0
  a0 := Try.isAgg0
  z0 := Try.sizeOf0
  v0 := Try.zeroValue0
  t3 := Try.underlying3
  a3 := Try.isAgg3
  z3 := Try.sizeOf3
  v3 := Try.zeroValue3
  t4 := Try.underlying4
  a4 := Try.isAgg4
  z4 := Try.sizeOf4
  v4 := Try.zeroValue4
  t5 := Try.underlying5
  a5 := Try.isAgg5
  z5 := Try.sizeOf5
  v5 := Try.zeroValue5
  t9 := Try.underlying9
  a9 := Try.isAgg9
  z9 := Try.sizeOf9
  v9 := Try.zeroValue9
  t21 := Try.underlying21
  a21 := Try.isAgg21
  z21 := Try.sizeOf21
  v21 := Try.zeroValue21
  t46 := Try.underlying52
  a46 := Try.isAgg52
  z46 := Try.sizeOf52
  v46 := Try.zeroValue52
  t116 := Try.underlying46
  a116 := Try.isAgg46
  z116 := Try.sizeOf46
  t117 := Try.underlying47
  a117 := Try.isAgg47
  z117 := Try.sizeOf47
  v117 := Try.zeroValue47
  t124 := Try.underlying53
  a124 := Try.isAgg53
  z124 := Try.sizeOf53
  v124 := Try.zeroValue53 }
open Go.RowKit Go.Lib in
theorem Try.strings_IndexAny_long (hv116 : ∀ w, (zeroValue 46).run Try.prog w = .ok (.agg (Array.replicate 256 (.bool false))) w) (s chars : ByteArray) (w : World) (h2 : 2 ≤ chars.size) (h8 : 8 < s.size) (hs : s.size < 4294967281) (hcs : chars.size < 4294967281) (hascii : ∀ (j : Nat) b, chars.data.toList[j]? = some b → b.toNat < 128) :
    Calls Try.prog 24 #[.string s, .string chars] w fun e w' => e = .returned (.int .i64 (Lib.indexAny s.data.toList chars.data.toList)) ∧ w' = ((w.alloc (.cells (Lib.setCells chars.data.toList) 46)).alloc (.cells (Lib.setCells chars.data.toList) 46)) := Any.strings_IndexAny_long Try.lays153 hv116 (by kernel_rfl) s chars w h2 h8 hs hcs hascii
open Go.RowKit Go.Lib in
theorem Try.strings_IndexFunc_grows (g : Nat) (lb : Array Value) (eg : ∀ args w, (callFunc g args).run Try.prog w = .ok (.enter g args) w) (p : Nat → Bool) (s : ByteArray) (w : World) (hp : PredGrows Try.prog g lb p w) :
    Calls Try.prog 20 #[.string s, .func (.func g) #[] lb] w fun e w' => e = .returned (.int .i64 (Lib.idxFunc p true s)) ∧ Below w.heap.size w w' := Any.strings_IndexFunc_grows Try.laysGw15 g lb eg p s w hp
end Go.Proofs
