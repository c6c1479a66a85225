/-
  DERIVED: THE SHELF's CONTRACTS AT THIS DUMP, IN PLAIN WORDS (tools/lay-plain.mjs out of 'Qxb6000014aShelf.lean', which tools/lay-shelf.mjs wrote): THE SAME DECLARATIONS UNDER THE SAME NAMES: 'import', 'namespace', 'open', 'def', 'theorem' AND NOTHING ELSE: no command of the shelf's: FOR A HAND-IN. Each laying: the table of numbers ('.._ren') and one theorem, a field a fact of the dump's own or the kernel's comparison; each contract: ONE APPLICATION.
-/
import Derived.Shelf.Strings.Builder1
import Derived.Shelf.Strings.Builder2
import Derived.Shelf.Small.Utf8
import Derived.Shelf.Small.Strs
import Derived.Shelf.Strings.BuilderF
import Derived.Shelf.Strings.BuilderK
import Derived.Shelf.Strings.Builder2Cap
import Derived.Shelf.Strings.Search1
import Derived.Shelf.Strings.Prefix
import Derived.Shelf.Strings.Runes
import Derived.Shelf.Strings.IndexAny
import Derived.Shelf.Strings.AsciiSet
import Derived.Shelf.Strings.IndexAnyAll
import Derived.Shelf.Strings.BuilderCap
import Derived.Test.Qxb6000014aProg
namespace Go.Proofs
open Go.Shelf
def Try.lays169_ren : Go.Shelf.Ren := ⟨fun | 169 => 30 | n => n, fun | 70 => 43 | 9 => 9 | 0 => 0 | 72 => 45 | 37 => 23 | 127 => 58 | 3 => 3 | 5 => 5 | n => n, fun | n => n⟩
theorem Try.lays169 : Go.Proofs.Lays.n169 Try.prog Try.lays169_ren := {
  mixed := by kernel_rfl
  f169 := Try.func30.trans (congrArg some (by kernel_rfl))
  t0 := Try.underlying0
  a0 := Try.isAgg0
  z0 := Try.sizeOf0
  v0 := Try.zeroValue0
  t3 := Try.underlying3
  a3 := Try.isAgg3
  z3 := Try.sizeOf3
  v3 := Try.zeroValue3
  t9 := Try.underlying9
  a9 := Try.isAgg9
  z9 := Try.sizeOf9
  v9 := Try.zeroValue9
  t37 := Try.underlying23
  a37 := Try.isAgg23
  z37 := Try.sizeOf23
  v37 := Try.zeroValue23
  t70 := Try.underlying43
  a70 := Try.isAgg43
  z70 := Try.sizeOf43
  v70 := Try.zeroValue43
  t72 := Try.underlying45
  a72 := Try.isAgg45
  z72 := Try.sizeOf45
  v72 := Try.zeroValue45
  t127 := Try.underlying58
  a127 := Try.isAgg58
  z127 := Try.sizeOf58
  v127 := Try.zeroValue58 }
theorem Try.Builder_Extra_169 : Builder.Extra Try.prog Try.lays169_ren := {
  sizeBuilder := by kernel_rfl
  liesBuilder := by kernel_rfl
  t5 := Try.underlying5
  a5 := Try.isAgg5
  z5 := Try.sizeOf5
  v5 := Try.zeroValue5
  infoByte := by kernel_rfl
  cellsByte := by kernel_rfl
  sizeByte := by kernel_rfl
  neB5 := by decide }
open Go.RowKit in
/-- (*strings.Builder).String: "String returns the accumulated string.": WHATEVER THE BUILDER HOLDS. (LAID: no walk: one application.) -/
theorem Try.Builder_String_any (B b : Nat) (l : List UInt8) (w : World) (h : Lib.IsBuilder 45 5 B b (Lib.byteCells l) w) (hBw : B ≤ w.heap.size) :
    Calls Try.prog 30 #[.pointer (some ⟨b, 0, none⟩)] w fun e w' => e = .returned (.string ⟨l.toArray⟩) ∧ Below B w w' := Any.Builder_String_any Try.lays169 Try.Builder_Extra_169 B b l w h hBw
def Try.lays165_ren : Go.Shelf.Ren := ⟨fun | 165 => 27 | 240 => 35 | 241 => 36 | 276 => 41 | 277 => 42 | n => n, fun | 70 => 43 | 3 => 3 | 0 => 0 | 4 => 4 | 9 => 9 | 20 => 20 | 72 => 45 | 37 => 23 | 164 => 61 | 5 => 5 | n => n, fun | n => n⟩
theorem Try.lays165 : Go.Proofs.Lays.n165 Try.prog Try.lays165_ren := {
  mixed := by kernel_rfl
  f165 := Try.func27.trans (congrArg some (by kernel_rfl))
  f240 := Try.func35.trans (congrArg some (by kernel_rfl))
  f241 := Try.func36.trans (congrArg some (by kernel_rfl))
  f276 := Try.func41.trans (congrArg some (by kernel_rfl))
  f277 := Try.func42.trans (congrArg some (by kernel_rfl))
  t0 := Try.underlying0
  a0 := Try.isAgg0
  z0 := Try.sizeOf0
  v0 := Try.zeroValue0
  t3 := Try.underlying3
  a3 := Try.isAgg3
  z3 := Try.sizeOf3
  v3 := Try.zeroValue3
  t4 := Try.underlying4
  a4 := Try.isAgg4
  z4 := Try.sizeOf4
  v4 := Try.zeroValue4
  t9 := Try.underlying9
  a9 := Try.isAgg9
  z9 := Try.sizeOf9
  v9 := Try.zeroValue9
  t20 := Try.underlying20
  a20 := Try.isAgg20
  z20 := Try.sizeOf20
  v20 := Try.zeroValue20
  t37 := Try.underlying23
  a37 := Try.isAgg23
  z37 := Try.sizeOf23
  v37 := Try.zeroValue23
  t70 := Try.underlying43
  a70 := Try.isAgg43
  z70 := Try.sizeOf43
  v70 := Try.zeroValue43
  t72 := Try.underlying45
  a72 := Try.isAgg45
  z72 := Try.sizeOf45
  v72 := Try.zeroValue45
  t164 := Try.underlying61
  a164 := Try.isAgg61
  z164 := Try.sizeOf61
  v164 := Try.zeroValue61 }
theorem Try.Builder_Extra_165 : Builder.Extra Try.prog Try.lays165_ren := {
  sizeBuilder := by kernel_rfl
  liesBuilder := by kernel_rfl
  t5 := Try.underlying5
  a5 := Try.isAgg5
  z5 := Try.sizeOf5
  v5 := Try.zeroValue5
  infoByte := by kernel_rfl
  cellsByte := by kernel_rfl
  sizeByte := by kernel_rfl
  neB5 := by decide }
open Go.RowKit in
/-- (*strings.Builder).Grow AT A BUILDER THAT HAS NOT BEEN WRITTEN ('var b strings.Builder; b.Grow(n)'): "Grow grows b's capacity, if necessary, to guarantee space for another n bytes.": it holds no byte behind it as before it. (LAID: no walk: one application.) -/
theorem Try.Builder_Grow_fresh (B b n : Nat) (w : World) (hB : B ≤ b) (hbk : w.heap[b]? = some (.cells #[.pointer none, .slice none 0 0] 45 (0, 0))) (hBw : B ≤ w.heap.size) (hn : n ≤ 281474976710656) :
    Calls Try.prog 27 #[.pointer (some ⟨b, 0, none⟩), .int .i64 n] w fun e w' => e = .returned (.tuple #[]) ∧ (Lib.BuilderAt 45 5 B b (.pointer (some ⟨b, 0, none⟩)) [] w' ∧ Below B w w') := Any.Builder_Grow_fresh Try.lays165 Try.Builder_Extra_165 B b n w hB hbk hBw hn
def Try.lays137_ren : Go.Shelf.Ren := ⟨fun | 137 => 24 | 217 => 34 | 266 => 40 | n => n, fun | 9 => 9 | 5 => 5 | 3 => 3 | n => n, fun | n => n⟩
theorem Try.lays137 : Go.Proofs.Lays.n137 Try.prog Try.lays137_ren := {
  mixed := by kernel_rfl
  f137 := Try.func24.trans (congrArg some (by kernel_rfl))
  f217 := Try.func34.trans (congrArg some (by kernel_rfl))
  f266 := Try.func40.trans (congrArg some (by kernel_rfl))
  t3 := Try.underlying3
  a3 := Try.isAgg3
  z3 := Try.sizeOf3
  v3 := Try.zeroValue3
  t5 := Try.underlying5
  a5 := Try.isAgg5
  z5 := Try.sizeOf5
  v5 := Try.zeroValue5
  t9 := Try.underlying9
  a9 := Try.isAgg9
  z9 := Try.sizeOf9
  v9 := Try.zeroValue9 }
open Go.RowKit in
/-- strings.IndexByte: "IndexByte returns the index of the first instance of c in s, or -1 if c is not present in s.": IT RETURNS 'Lib.indexByte s c'; the world is as it was. (LAID: no walk: one application.) -/
theorem Try.strings_IndexByte (s : ByteArray) (c : Int) (w : World) :
    Calls Try.prog 24 #[.string s, .int .u8 c] w fun e w' => e = .returned (.int .i64 (Lib.indexByte s.data.toList c.toNat.toUInt8)) ∧ w' = w := Any.strings_IndexByte Try.lays137 s c w
def Try.lays102_ren : Go.Shelf.Ren := ⟨fun | 102 => 39 | 209 => 45 | 207 => 50 | n => n, fun | 9 => 9 | 4 => 4 | 3 => 3 | n => n, fun | n => n⟩
theorem Try.lays102 : Go.Proofs.Lays.n102 Try.prog Try.lays102_ren := {
  mixed := by kernel_rfl
  f102 := Try.func39.trans (congrArg some (by kernel_rfl))
  f207 := Try.func50.trans (congrArg some (by kernel_rfl))
  f209 := Try.func45.trans (congrArg some (by kernel_rfl))
  t3 := Try.underlying3
  a3 := Try.isAgg3
  z3 := Try.sizeOf3
  v3 := Try.zeroValue3
  t4 := Try.underlying4
  a4 := Try.isAgg4
  z4 := Try.sizeOf4
  v4 := Try.zeroValue4
  t9 := Try.underlying9
  a9 := Try.isAgg9
  z9 := Try.sizeOf9
  v9 := Try.zeroValue9 }
open Go.RowKit Go.Lib in
/-- strings.TrimSuffix: "TrimSuffix returns s without the provided trailing suffix string. If s doesn't end with suffix, s is returned unchanged.": IT RETURNS 'Lib.trimSuffix s suffix'; the world is as it was. (LAID: no walk: one application.) -/
theorem Try.strings_TrimSuffix (s p : ByteArray) (w : World) (hs : s.size ≤ 9223372036854775807) :
    Calls Try.prog 39 #[.string s, .string p] w fun e w' => e = .returned (.string ⟨(Lib.trimSuffix s.data.toList p.data.toList).toArray⟩) ∧ w' = w := Any.strings_TrimSuffix Try.lays102 s p w hs
def Try.lays150_ren : Go.Shelf.Ren := ⟨fun | 150 => 38 | 153 => 44 | 152 => 46 | 226 => 47 | 227 => 48 | 228 => 49 | 137 => 24 | 119 => 51 | 224 => 52 | 225 => 53 | 217 => 34 | 266 => 40 | n => n, fun | 9 => 9 | 4 => 4 | 3 => 3 | 5 => 5 | 21 => 21 | 117 => 69 | 116 => 68 | 0 => 0 | 46 => 73 | 124 => 74 | n => n, fun | n => n⟩
theorem Try.lays150 : Go.Proofs.Lays.n150 Try.prog Try.lays150_ren := {
  mixed := by kernel_rfl
  f119 := Try.func51.trans (congrArg some (by kernel_rfl))
  f137 := Try.func24.trans (congrArg some (by kernel_rfl))
  f150 := Try.func38.trans (congrArg some (by kernel_rfl))
  f152 := Try.func46.trans (congrArg some (by kernel_rfl))
  f153 := Try.func44.trans (congrArg some (by kernel_rfl))
  f217 := Try.func34.trans (congrArg some (by kernel_rfl))
  f224 := Try.func52.trans (congrArg some (by kernel_rfl))
  f225 := Try.func53.trans (congrArg some (by kernel_rfl))
  f226 := Try.func47.trans (congrArg some (by kernel_rfl))
  f227 := Try.func48.trans (congrArg some (by kernel_rfl))
  f228 := Try.func49.trans (congrArg some (by kernel_rfl))
  f266 := Try.func40.trans (congrArg some (by kernel_rfl))
  t0 := Try.underlying0
  a0 := Try.isAgg0
  z0 := Try.sizeOf0
  v0 := Try.zeroValue0
  t3 := Try.underlying3
  a3 := Try.isAgg3
  z3 := Try.sizeOf3
  v3 := Try.zeroValue3
  t4 := Try.underlying4
  a4 := Try.isAgg4
  z4 := Try.sizeOf4
  v4 := Try.zeroValue4
  t5 := Try.underlying5
  a5 := Try.isAgg5
  z5 := Try.sizeOf5
  v5 := Try.zeroValue5
  t9 := Try.underlying9
  a9 := Try.isAgg9
  z9 := Try.sizeOf9
  v9 := Try.zeroValue9
  t21 := Try.underlying21
  a21 := Try.isAgg21
  z21 := Try.sizeOf21
  v21 := Try.zeroValue21
  t46 := Try.underlying73
  a46 := Try.isAgg73
  z46 := Try.sizeOf73
  v46 := Try.zeroValue73
  t116 := Try.underlying68
  a116 := Try.isAgg68
  z116 := Try.sizeOf68
  t117 := Try.underlying69
  a117 := Try.isAgg69
  z117 := Try.sizeOf69
  v117 := Try.zeroValue69
  t124 := Try.underlying74
  a124 := Try.isAgg74
  z124 := Try.sizeOf74
  v124 := Try.zeroValue74 }
open Go.RowKit Go.Lib in
theorem Try.strings_ContainsAny_laid (s chars : ByteArray) (w : World) (hs : s.size < 4294967281) (hcs : chars.size < 4294967281) (has : ∀ (j : Nat) b, s.data.toList[j]? = some b → b.toNat < 128) (hac : ∀ (j : Nat) b, chars.data.toList[j]? = some b → b.toNat < 128) :
    Calls Try.prog 38 #[.string s, .string chars] w fun e w' => e = .returned (.bool (Lib.containsAny s.data.toList chars.data.toList)) ∧ Below w.heap.size w w' := Any.strings_ContainsAny_laid Try.lays150 (by kernel_rfl) s chars w hs hcs has hac
def Try.lays167_ren : Go.Shelf.Ren := ⟨fun | 167 => 28 | 240 => 35 | 276 => 41 | n => n, fun | 70 => 43 | 3 => 3 | 0 => 0 | 4 => 4 | 5 => 5 | 9 => 9 | 20 => 20 | 72 => 45 | 37 => 23 | 75 => 48 | 164 => 61 | 80 => 52 | n => n, fun | n => n⟩
theorem Try.lays167 : Go.Proofs.Lays.n167 Try.prog Try.lays167_ren := {
  mixed := by kernel_rfl
  f167 := Try.func28.trans (congrArg some (by kernel_rfl))
  f240 := Try.func35.trans (congrArg some (by kernel_rfl))
  f276 := Try.func41.trans (congrArg some (by kernel_rfl))
  t0 := Try.underlying0
  a0 := Try.isAgg0
  z0 := Try.sizeOf0
  v0 := Try.zeroValue0
  t4 := Try.underlying4
  a4 := Try.isAgg4
  z4 := Try.sizeOf4
  v4 := Try.zeroValue4
  t5 := Try.underlying5
  a5 := Try.isAgg5
  z5 := Try.sizeOf5
  v5 := Try.zeroValue5
  t9 := Try.underlying9
  a9 := Try.isAgg9
  z9 := Try.sizeOf9
  v9 := Try.zeroValue9
  t20 := Try.underlying20
  a20 := Try.isAgg20
  z20 := Try.sizeOf20
  v20 := Try.zeroValue20
  t37 := Try.underlying23
  a37 := Try.isAgg23
  z37 := Try.sizeOf23
  v37 := Try.zeroValue23
  t70 := Try.underlying43
  a70 := Try.isAgg43
  z70 := Try.sizeOf43
  v70 := Try.zeroValue43
  t72 := Try.underlying45
  a72 := Try.isAgg45
  z72 := Try.sizeOf45
  v72 := Try.zeroValue45
  t75 := Try.underlying48
  a75 := Try.isAgg48
  z75 := Try.sizeOf48
  v75 := Try.zeroValue48
  t164 := Try.underlying61
  a164 := Try.isAgg61
  z164 := Try.sizeOf61
  v164 := Try.zeroValue61 }
theorem Try.Builder_Extra_167 : Builder.Extra Try.prog Try.lays167_ren := {
  sizeBuilder := by kernel_rfl
  liesBuilder := by kernel_rfl
  t5 := Try.underlying5
  a5 := Try.isAgg5
  z5 := Try.sizeOf5
  v5 := Try.zeroValue5
  infoByte := by kernel_rfl
  cellsByte := by kernel_rfl
  sizeByte := by kernel_rfl
  neB5 := by decide }
open Go.RowKit in
theorem Try.Builder_WriteByte (B b : Nat) (bs : List Value) (c : Int) (w : World) (h : Lib.IsBuilder 45 5 B b bs w) (hlen : bs.length + 1 ≤ 140737488355328) (hBw : B ≤ w.heap.size) :
    Calls Try.prog 28 #[.pointer (some ⟨b, 0, none⟩), .int .u8 c] w fun e w' => e = .returned .nilIface ∧ (Lib.BuilderAt 45 5 B b (.pointer (some ⟨b, 0, none⟩)) (bs ++ [.int .u8 c]) w' ∧ Below B w w') := Any.Builder_WriteByte Try.lays167 Try.Builder_Extra_167 B b bs c w h hlen hBw
def Try.lays166_ren : Go.Shelf.Ren := ⟨fun | 166 => 29 | 240 => 35 | 276 => 41 | n => n, fun | 70 => 43 | 3 => 3 | 0 => 0 | 4 => 4 | 5 => 5 | 9 => 9 | 20 => 20 | 72 => 45 | 37 => 23 | 75 => 48 | 164 => 61 | 80 => 52 | n => n, fun | n => n⟩
theorem Try.lays166 : Go.Proofs.Lays.n166 Try.prog Try.lays166_ren := {
  mixed := by kernel_rfl
  f166 := Try.func29.trans (congrArg some (by kernel_rfl))
  f240 := Try.func35.trans (congrArg some (by kernel_rfl))
  f276 := Try.func41.trans (congrArg some (by kernel_rfl))
  t0 := Try.underlying0
  a0 := Try.isAgg0
  z0 := Try.sizeOf0
  v0 := Try.zeroValue0
  t3 := Try.underlying3
  a3 := Try.isAgg3
  z3 := Try.sizeOf3
  v3 := Try.zeroValue3
  t4 := Try.underlying4
  a4 := Try.isAgg4
  z4 := Try.sizeOf4
  v4 := Try.zeroValue4
  t9 := Try.underlying9
  a9 := Try.isAgg9
  z9 := Try.sizeOf9
  v9 := Try.zeroValue9
  t20 := Try.underlying20
  a20 := Try.isAgg20
  z20 := Try.sizeOf20
  v20 := Try.zeroValue20
  t37 := Try.underlying23
  a37 := Try.isAgg23
  z37 := Try.sizeOf23
  v37 := Try.zeroValue23
  t70 := Try.underlying43
  a70 := Try.isAgg43
  z70 := Try.sizeOf43
  v70 := Try.zeroValue43
  t72 := Try.underlying45
  a72 := Try.isAgg45
  z72 := Try.sizeOf45
  v72 := Try.zeroValue45
  t75 := Try.underlying48
  a75 := Try.isAgg48
  z75 := Try.sizeOf48
  v75 := Try.zeroValue48
  t164 := Try.underlying61
  a164 := Try.isAgg61
  z164 := Try.sizeOf61
  v164 := Try.zeroValue61 }
theorem Try.Builder_Extra_166 : Builder.Extra Try.prog Try.lays166_ren := {
  sizeBuilder := by kernel_rfl
  liesBuilder := by kernel_rfl
  t5 := Try.underlying5
  a5 := Try.isAgg5
  z5 := Try.sizeOf5
  v5 := Try.zeroValue5
  infoByte := by kernel_rfl
  cellsByte := by kernel_rfl
  sizeByte := by kernel_rfl
  neB5 := by decide }
open Go.RowKit in
theorem Try.Builder_WriteString (B b : Nat) (bs : List Value) (s : ByteArray) (w : World) (h : Lib.IsBuilder 45 5 B b bs w) (hlen : bs.length + s.size ≤ 140737488355328) (hBw : B ≤ w.heap.size) :
    Calls Try.prog 29 #[.pointer (some ⟨b, 0, none⟩), .string s] w fun e w' => e = .returned (.tuple #[.int .i64 s.size, .nilIface]) ∧ (Lib.BuilderAt 45 5 B b (.pointer (some ⟨b, 0, none⟩)) (bs ++ Lib.strCells s) w' ∧ Below B w w') := Any.Builder_WriteString Try.lays166 Try.Builder_Extra_166 B b bs s w h hlen hBw
end Go.Proofs
