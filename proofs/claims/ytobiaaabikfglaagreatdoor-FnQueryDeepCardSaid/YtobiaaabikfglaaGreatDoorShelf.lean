/-
  DERIVED: THE SHELF's CONTRACTS AT THIS DUMP, IN PLAIN WORDS (tools/lay-plain.mjs out of 'TryzShelf.lean', which tools/lay-shelf.mjs wrote): THE SAME DECLARATIONS UNDER THE SAME NAMES: 'import', 'namespace', 'open', 'def', 'theorem' AND NOTHING ELSE: no command of the shelf's: FOR A HAND-IN. Each laying: the table of numbers ('.._ren') and one theorem, a field a fact of the dump's own or the kernel's comparison; each contract: ONE APPLICATION.
-/
import Derived.Shelf.Strings.Builder1
import Derived.Shelf.Strings.Builder2
import Derived.Shelf.Strings.OnBuilder
import Derived.Shelf.Small.Utf8
import Derived.Shelf.Strings.BuilderF
import Derived.Shelf.Strings.BuilderK
import Derived.Shelf.Strconv.Bsearch
import Derived.Shelf.Strconv.IsPrint
import Derived.Shelf.Strings.Builder2Cap
import Derived.Shelf.Strconv.Itoa0
import Derived.Shelf.Strconv.Itoa1
import Derived.Shelf.LaysM
import Derived.Shelf.Strconv.Itoa2
import Derived.Shelf.Strconv.Itoa3
import Derived.Shelf.Bytes.Len
import Derived.Shelf.Bytes.TryGrow
import Derived.Shelf.Bytes.GrowSliceCatch
import Derived.Shelf.Bytes.GrowSlice
import Derived.Shelf.Bytes.String
import Derived.Shelf.Bytes.Reset
import Derived.Shelf.Strconv.Clone
import Derived.Shelf.Strconv.SyntaxError
import Derived.Shelf.Strconv.Lower
import Derived.Shelf.Strconv.ParseUint10
import Derived.Shelf.Strconv.ParseUint10Empty
import Derived.Shelf.Strconv.RangeError
import Derived.Shelf.Strconv.ParseUintEmpty
import Derived.Shelf.Strconv.ParseUint10b64
import Derived.Shelf.Strconv.ParseUint10b32
import Derived.Shelf.Strconv.ParseUint10b16
import Derived.Shelf.Strconv.ParseUint10b8
import Derived.Shelf.Bytes.ResetKept
import Derived.Shelf.Bytes.LenAt
import Derived.Shelf.Bytes.StringAt
import Derived.Shelf.Bytes.TryGrowAt
import Derived.Shelf.Unicode.Latin
import Derived.Shelf.Unicode.Props
import Derived.Shelf.Unicode.PropsLaid
import Derived.Shelf.Unicode.Decode
import Derived.Shelf.Unicode.DecodeSlow
import Derived.Shelf.Unicode.DecodeAny
import Derived.Shelf.Unicode.Is16White
import Derived.Shelf.Unicode.IsSpaceAny
import Derived.Shelf.Unicode.Is16Any
import Derived.Shelf.Unicode.Is32Any
import Derived.Shelf.Unicode.ExclAny
import Derived.Shelf.Unicode.PredsAny
import Derived.Shelf.Unicode.PredsPay
import Derived.Test.YtobiaaabikfglaaGreatDoorProg
namespace Go.Proofs
open Go.Shelf
def Tryz.lays169_ren : Go.Shelf.Ren := ⟨fun | 169 => 132 | n => n, fun | 70 => 281 | 9 => 9 | 0 => 0 | 72 => 283 | 37 => 34 | 127 => 289 | 3 => 3 | 5 => 5 | n => n, fun | n => n⟩
theorem Tryz.lays169 : Go.Proofs.Lays.n169 Tryz.prog Tryz.lays169_ren := {
  mixed := by kernel_rfl
  f169 := Tryz.func132.trans (congrArg some (by kernel_rfl))
  t0 := Tryz.underlying0
  a0 := Tryz.isAgg0
  z0 := Tryz.sizeOf0
  v0 := Tryz.zeroValue0
  t3 := Tryz.underlying3
  a3 := Tryz.isAgg3
  z3 := Tryz.sizeOf3
  v3 := Tryz.zeroValue3
  t9 := Tryz.underlying9
  a9 := Tryz.isAgg9
  z9 := Tryz.sizeOf9
  v9 := Tryz.zeroValue9
  t37 := Tryz.underlying34
  a37 := Tryz.isAgg34
  z37 := Tryz.sizeOf34
  v37 := Tryz.zeroValue34
  t70 := Tryz.underlying281
  a70 := Tryz.isAgg281
  z70 := Tryz.sizeOf281
  v70 := Tryz.zeroValue281
  t72 := Tryz.underlying283
  a72 := Tryz.isAgg283
  z72 := Tryz.sizeOf283
  v72 := Tryz.zeroValue283
  t127 := Tryz.underlying289
  a127 := Tryz.isAgg289
  z127 := Tryz.sizeOf289
  v127 := Tryz.zeroValue289 }
theorem Tryz.Builder_Extra_169 : Builder.Extra Tryz.prog Tryz.lays169_ren := {
  sizeBuilder := by kernel_rfl
  liesBuilder := by kernel_rfl
  t5 := Tryz.underlying5
  a5 := Tryz.isAgg5
  z5 := Tryz.sizeOf5
  v5 := Tryz.zeroValue5
  infoByte := by kernel_rfl
  cellsByte := by kernel_rfl
  sizeByte := by kernel_rfl
  neB5 := by decide }
open Go.RowKit in
/-- (*strings.Builder).String: "String returns the accumulated string.": OF A BUILDER THAT HOLDS AT LEAST ONE BYTE. ✋ THE MODEL FREEZES THOSE BYTES IN THE BUFFER (unsafe.String): a later write INTO them ends the model's run without an answer; a later append BEHIND them goes on. The statement's order of evaluation is drawn: one draw. (LAID: no walk: one application.) -/
theorem Tryz.Builder_String (B b : Nat) (l : List UInt8) (w : World) (h : Lib.IsBuilder 283 5 B b (Lib.byteCells l) w) (h0 : l ≠ []) :
    Calls Tryz.prog 132 #[.pointer (some ⟨b, 0, none⟩)] w fun e w' => e = .returned (.string ⟨l.toArray⟩) ∧ Below B w w' := Any.Builder_String Tryz.lays169 Tryz.Builder_Extra_169 B b l w h h0
open Go.RowKit in
/-- (*strings.Builder).String OF A BUILDER THAT HOLDS NO BYTE: the empty string. (Its buffer is nil, or a row of which it has taken nothing yet; where that row has NO capacity the model lays one new block for unsafe.SliceData's 'some address'.) One draw. (LAID: no walk: one application.) -/
theorem Tryz.Builder_String_empty (B b : Nat) (w : World) (h : Lib.IsBuilder 283 5 B b [] w) (hBw : B ≤ w.heap.size) :
    Calls Tryz.prog 132 #[.pointer (some ⟨b, 0, none⟩)] w fun e w' => e = .returned (.string ⟨#[]⟩) ∧ Below B w w' := Any.Builder_String_empty Tryz.lays169 Tryz.Builder_Extra_169 B b w h hBw
open Go.RowKit in
/-- (*strings.Builder).String: "String returns the accumulated string.": WHATEVER THE BUILDER HOLDS. (LAID: no walk: one application.) -/
theorem Tryz.Builder_String_any (B b : Nat) (l : List UInt8) (w : World) (h : Lib.IsBuilder 283 5 B b (Lib.byteCells l) w) (hBw : B ≤ w.heap.size) :
    Calls Tryz.prog 132 #[.pointer (some ⟨b, 0, none⟩)] w fun e w' => e = .returned (.string ⟨l.toArray⟩) ∧ Below B w w' := Any.Builder_String_any Tryz.lays169 Tryz.Builder_Extra_169 B b l w h hBw
def Tryz.lays241_ren : Go.Shelf.Ren := ⟨fun | 241 => 135 | 277 => 138 | n => n, fun | 70 => 281 | 3 => 3 | 0 => 0 | 72 => 283 | 37 => 34 | 5 => 5 | n => n, fun | n => n⟩
theorem Tryz.lays241 : Go.Proofs.Lays.n241 Tryz.prog Tryz.lays241_ren := {
  mixed := by kernel_rfl
  f241 := Tryz.func135.trans (congrArg some (by kernel_rfl))
  f277 := Tryz.func138.trans (congrArg some (by kernel_rfl))
  t0 := Tryz.underlying0
  a0 := Tryz.isAgg0
  z0 := Tryz.sizeOf0
  v0 := Tryz.zeroValue0
  t3 := Tryz.underlying3
  a3 := Tryz.isAgg3
  z3 := Tryz.sizeOf3
  v3 := Tryz.zeroValue3
  t37 := Tryz.underlying34
  a37 := Tryz.isAgg34
  z37 := Tryz.sizeOf34
  v37 := Tryz.zeroValue34
  t70 := Tryz.underlying281
  a70 := Tryz.isAgg281
  z70 := Tryz.sizeOf281
  v70 := Tryz.zeroValue281
  t72 := Tryz.underlying283
  a72 := Tryz.isAgg283
  z72 := Tryz.sizeOf283
  v72 := Tryz.zeroValue283 }
theorem Tryz.Builder_Extra_241 : Builder.Extra Tryz.prog Tryz.lays241_ren := {
  sizeBuilder := by kernel_rfl
  liesBuilder := by kernel_rfl
  t5 := Tryz.underlying5
  a5 := Tryz.isAgg5
  z5 := Tryz.sizeOf5
  v5 := Tryz.zeroValue5
  infoByte := by kernel_rfl
  cellsByte := by kernel_rfl
  sizeByte := by kernel_rfl
  neB5 := by decide }
open Go.RowKit in
/-- (*strings.Builder).grow (no doc but "grow copies the buffer to a new, larger buffer so that there are at least n bytes of capacity beyond len(b.buf)."): AT A BUILDER WITHOUT A BUFFER: a new row of whatever bytes for its buffer, none of them its own yet. Three draws. (LAID: no walk: one application.) -/
theorem Tryz.Builder_grow_fresh (B b n : Nat) (w : World) (hB : B ≤ b) (hbk : w.heap[b]? = some (.cells #[.pointer (some ⟨b, 0, none⟩), .slice none 0 0] 283 (0, 0))) (hBw : B ≤ w.heap.size) (hn : n ≤ 281474976710656) :
    Calls Tryz.prog 135 #[.pointer (some ⟨b, 0, none⟩), .int .i64 n] w fun e w' => e = .returned (.tuple #[]) ∧ (Lib.BuilderAt 283 5 B b (.pointer (some ⟨b, 0, none⟩)) [] w' ∧ Below B w w') := Any.Builder_grow_fresh Tryz.lays241 Tryz.Builder_Extra_241 B b n w hB hbk hBw hn
def Tryz.lays165_ren : Go.Shelf.Ren := ⟨fun | 165 => 130 | 240 => 134 | 241 => 135 | 276 => 137 | 277 => 138 | n => n, fun | 70 => 281 | 3 => 3 | 0 => 0 | 4 => 4 | 9 => 9 | 20 => 20 | 72 => 283 | 37 => 34 | 164 => 291 | 5 => 5 | n => n, fun | n => n⟩
theorem Tryz.lays165 : Go.Proofs.Lays.n165 Tryz.prog Tryz.lays165_ren := {
  mixed := by kernel_rfl
  f165 := Tryz.func130.trans (congrArg some (by kernel_rfl))
  f240 := Tryz.func134.trans (congrArg some (by kernel_rfl))
  f241 := Tryz.func135.trans (congrArg some (by kernel_rfl))
  f276 := Tryz.func137.trans (congrArg some (by kernel_rfl))
  f277 := Tryz.func138.trans (congrArg some (by kernel_rfl))
  t0 := Tryz.underlying0
  a0 := Tryz.isAgg0
  z0 := Tryz.sizeOf0
  v0 := Tryz.zeroValue0
  t3 := Tryz.underlying3
  a3 := Tryz.isAgg3
  z3 := Tryz.sizeOf3
  v3 := Tryz.zeroValue3
  t4 := Tryz.underlying4
  a4 := Tryz.isAgg4
  z4 := Tryz.sizeOf4
  v4 := Tryz.zeroValue4
  t9 := Tryz.underlying9
  a9 := Tryz.isAgg9
  z9 := Tryz.sizeOf9
  v9 := Tryz.zeroValue9
  t20 := Tryz.underlying20
  a20 := Tryz.isAgg20
  z20 := Tryz.sizeOf20
  v20 := Tryz.zeroValue20
  t37 := Tryz.underlying34
  a37 := Tryz.isAgg34
  z37 := Tryz.sizeOf34
  v37 := Tryz.zeroValue34
  t70 := Tryz.underlying281
  a70 := Tryz.isAgg281
  z70 := Tryz.sizeOf281
  v70 := Tryz.zeroValue281
  t72 := Tryz.underlying283
  a72 := Tryz.isAgg283
  z72 := Tryz.sizeOf283
  v72 := Tryz.zeroValue283
  t164 := Tryz.underlying291
  a164 := Tryz.isAgg291
  z164 := Tryz.sizeOf291
  v164 := Tryz.zeroValue291 }
theorem Tryz.Builder_Extra_165 : Builder.Extra Tryz.prog Tryz.lays165_ren := {
  sizeBuilder := by kernel_rfl
  liesBuilder := by kernel_rfl
  t5 := Tryz.underlying5
  a5 := Tryz.isAgg5
  z5 := Tryz.sizeOf5
  v5 := Tryz.zeroValue5
  infoByte := by kernel_rfl
  cellsByte := by kernel_rfl
  sizeByte := by kernel_rfl
  neB5 := by decide }
open Go.RowKit in
/-- (*strings.Builder).Grow AT A BUILDER THAT HAS NOT BEEN WRITTEN ('var b strings.Builder; b.Grow(n)'): "Grow grows b's capacity, if necessary, to guarantee space for another n bytes.": it holds no byte behind it as before it. (LAID: no walk: one application.) -/
theorem Tryz.Builder_Grow_fresh (B b n : Nat) (w : World) (hB : B ≤ b) (hbk : w.heap[b]? = some (.cells #[.pointer none, .slice none 0 0] 283 (0, 0))) (hBw : B ≤ w.heap.size) (hn : n ≤ 281474976710656) :
    Calls Tryz.prog 130 #[.pointer (some ⟨b, 0, none⟩), .int .i64 n] w fun e w' => e = .returned (.tuple #[]) ∧ (Lib.BuilderAt 283 5 B b (.pointer (some ⟨b, 0, none⟩)) [] w' ∧ Below B w w') := Any.Builder_Grow_fresh Tryz.lays165 Tryz.Builder_Extra_165 B b n w hB hbk hBw hn
def Tryz.lays156_ren : Go.Shelf.Ren := ⟨fun | 156 => 122 | 165 => 130 | 166 => 131 | 169 => 132 | 240 => 134 | 241 => 135 | 276 => 137 | 277 => 138 | n => n, fun | 31 => 77 | 9 => 9 | 3 => 3 | 4 => 4 | 0 => 0 | 20 => 20 | 72 => 283 | 76 => 225 | 70 => 281 | 37 => 34 | 75 => 89 | 127 => 289 | 164 => 291 | 5 => 5 | 80 => 144 | n => n, fun | n => n⟩
theorem Tryz.lays156 : Go.Proofs.Lays.n156 Tryz.prog Tryz.lays156_ren := {
  mixed := by kernel_rfl
  f156 := Tryz.func122.trans (congrArg some (by kernel_rfl))
  f165 := Tryz.func130.trans (congrArg some (by kernel_rfl))
  f166 := Tryz.func131.trans (congrArg some (by kernel_rfl))
  f169 := Tryz.func132.trans (congrArg some (by kernel_rfl))
  f240 := Tryz.func134.trans (congrArg some (by kernel_rfl))
  f241 := Tryz.func135.trans (congrArg some (by kernel_rfl))
  f276 := Tryz.func137.trans (congrArg some (by kernel_rfl))
  f277 := Tryz.func138.trans (congrArg some (by kernel_rfl))
  t0 := Tryz.underlying0
  a0 := Tryz.isAgg0
  z0 := Tryz.sizeOf0
  v0 := Tryz.zeroValue0
  t3 := Tryz.underlying3
  a3 := Tryz.isAgg3
  z3 := Tryz.sizeOf3
  v3 := Tryz.zeroValue3
  t4 := Tryz.underlying4
  a4 := Tryz.isAgg4
  z4 := Tryz.sizeOf4
  v4 := Tryz.zeroValue4
  t9 := Tryz.underlying9
  a9 := Tryz.isAgg9
  z9 := Tryz.sizeOf9
  v9 := Tryz.zeroValue9
  t20 := Tryz.underlying20
  a20 := Tryz.isAgg20
  z20 := Tryz.sizeOf20
  v20 := Tryz.zeroValue20
  t31 := Tryz.underlying77
  a31 := Tryz.isAgg77
  z31 := Tryz.sizeOf77
  v31 := Tryz.zeroValue77
  t37 := Tryz.underlying34
  a37 := Tryz.isAgg34
  z37 := Tryz.sizeOf34
  v37 := Tryz.zeroValue34
  t70 := Tryz.underlying281
  a70 := Tryz.isAgg281
  z70 := Tryz.sizeOf281
  v70 := Tryz.zeroValue281
  t72 := Tryz.underlying283
  a72 := Tryz.isAgg283
  z72 := Tryz.sizeOf283
  v72 := Tryz.zeroValue283
  t75 := Tryz.underlying89
  a75 := Tryz.isAgg89
  z75 := Tryz.sizeOf89
  v75 := Tryz.zeroValue89
  t76 := Tryz.underlying225
  a76 := Tryz.isAgg225
  z76 := Tryz.sizeOf225
  v76 := Tryz.zeroValue225
  t127 := Tryz.underlying289
  a127 := Tryz.isAgg289
  z127 := Tryz.sizeOf289
  v127 := Tryz.zeroValue289
  t164 := Tryz.underlying291
  a164 := Tryz.isAgg291
  z164 := Tryz.sizeOf291
  v164 := Tryz.zeroValue291 }
theorem Tryz.Builder_Extra_156 : Builder.Extra Tryz.prog Tryz.lays156_ren := {
  sizeBuilder := by kernel_rfl
  liesBuilder := by kernel_rfl
  t5 := Tryz.underlying5
  a5 := Tryz.isAgg5
  z5 := Tryz.sizeOf5
  v5 := Tryz.zeroValue5
  infoByte := by kernel_rfl
  cellsByte := by kernel_rfl
  sizeByte := by kernel_rfl
  neB5 := by decide }
open Go.RowKit in
/-- No element: the empty string; the world is as it was. (Whatever the slice's address and capacity: a nil slice too.) (LAID: no walk: one application.) -/
theorem Tryz.strings_Join_none (a : Option Addr) (c : Nat) (sep : ByteArray) (w : World) :
    Calls Tryz.prog 122 #[.slice a 0 c, .string sep] w fun e w' => e = .returned (.string ⟨#[]⟩) ∧ w' = w := Any.strings_Join_none Tryz.lays156 Tryz.Builder_Extra_156 a c sep w
open Go.RowKit in
/-- strings.Join: "Join concatenates the elements of its first argument to create a single string. The separator string sep is placed between elements in the resulting string.": HOWEVER MANY ELEMENTS. Below the heap's end the world is as it was. (LAID: no walk: one application.) -/
theorem Tryz.strings_Join (bk o c : Nat) (xs : List ByteArray) (sep : ByteArray) (w : World) (hcells : ∀ (j : Nat) x, xs[j]? = some x → w.cell? ⟨bk, o + j, none⟩ = some (.string x)) (hbk : bk < w.heap.size) (hN : xs.length ≤ 140737488355328) (hcap : xs.length ≤ c) (hlen : (Lib.join (xs.map (·.data.toList)) sep.data.toList).length ≤ 140737488355328) :
    Calls Tryz.prog 122 #[.slice (some ⟨bk, o, none⟩) xs.length c, .string sep] w fun e w' => e = .returned (.string ⟨(Lib.join (xs.map (·.data.toList)) sep.data.toList).toArray⟩) ∧ Below w.heap.size w w' := Any.strings_Join Tryz.lays156 Tryz.Builder_Extra_156 bk o c xs sep w hcells hbk hN hcap hlen
def Tryz.lays119_ren : Go.Shelf.Ren := ⟨fun | 119 => 112 | n => n, fun | 21 => 21 | 4 => 4 | n => n, fun | n => n⟩
theorem Tryz.lays119 : Go.Proofs.Lays.n119 Tryz.prog Tryz.lays119_ren := {
  mixed := by kernel_rfl
  f119 := Tryz.func112.trans (congrArg some (by kernel_rfl))
  t4 := Tryz.underlying4
  a4 := Tryz.isAgg4
  z4 := Tryz.sizeOf4
  v4 := Tryz.zeroValue4
  t21 := Tryz.underlying21
  a21 := Tryz.isAgg21
  z21 := Tryz.sizeOf21
  v21 := Tryz.zeroValue21 }
/-- utf8.ValidRune: "ValidRune reports whether r can be legally encoded as UTF-8. Code points that are out of range or a surrogate half are illegal.": IT RETURNS 'Lib.validRune r'; the world is as it was. (LAID: no walk: one application.) -/
theorem Tryz.utf8_ValidRune (r : Int) (w : World) :
    Calls Tryz.prog 112 #[.int .i32 r] w fun e w' => e = .returned (.bool (Lib.validRune r)) ∧ w' = w := Any.utf8_ValidRune Tryz.lays119 r w
open Go.RowKit in
/-- (*strings.Builder).String: "String returns the accumulated string.": OF A BUILDER THAT HOLDS AT LEAST ONE BYTE. ✋ THE MODEL FREEZES THOSE BYTES IN THE BUFFER (unsafe.String): a later write INTO them ends the model's run without an answer; a later append BEHIND them goes on. The statement's order of evaluation is drawn: one draw. THE FORM '_f': IT SAYS BESIDES THAT THE BUILDER IS A BUILDER STILL ('Lib.IsBuilderF', the same bytes): SO IT CAN BE WRITTEN ON: 'b.WriteString(b.String()[:k])'. (LAID: no walk: one application.) -/
theorem Tryz.Builder_String_f (B b : Nat) (l : List UInt8) (w : World) (h : Lib.IsBuilderF 283 5 B b (Lib.byteCells l) w) (h0 : l ≠ []) :
    Calls Tryz.prog 132 #[.pointer (some ⟨b, 0, none⟩)] w fun e w' => e = .returned (.string ⟨l.toArray⟩) ∧ (Lib.IsBuilderF 283 5 B b (Lib.byteCells l) w' ∧ Below B w w') := Any.Builder_String_f Tryz.lays169 Tryz.Builder_Extra_169 B b l w h h0
open Go.RowKit in
/-- (*strings.Builder).String OF A BUILDER THAT HOLDS NO BYTE: the empty string; THE FORM '_f': a builder still. (LAID: no walk: one application.) -/
theorem Tryz.Builder_String_empty_f (B b : Nat) (w : World) (h : Lib.IsBuilderF 283 5 B b [] w) (hBw : B ≤ w.heap.size) :
    Calls Tryz.prog 132 #[.pointer (some ⟨b, 0, none⟩)] w fun e w' => e = .returned (.string ⟨#[]⟩) ∧ (Lib.IsBuilderF 283 5 B b [] w' ∧ Below B w w') := Any.Builder_String_empty_f Tryz.lays169 Tryz.Builder_Extra_169 B b w h hBw
open Go.RowKit in
/-- (*strings.Builder).String: "String returns the accumulated string.": WHATEVER THE BUILDER HOLDS; THE FORM '_f': OF A BUILDER THAT MAY HAVE BEEN READ BEFORE; AND IT IS A BUILDER STILL, holding the same bytes: it can be written on. (LAID: no walk: one application.) -/
theorem Tryz.Builder_String_any_f (B b : Nat) (l : List UInt8) (w : World) (h : Lib.IsBuilderF 283 5 B b (Lib.byteCells l) w) (hBw : B ≤ w.heap.size) :
    Calls Tryz.prog 132 #[.pointer (some ⟨b, 0, none⟩)] w fun e w' => e = .returned (.string ⟨l.toArray⟩) ∧ (Lib.IsBuilderF 283 5 B b (Lib.byteCells l) w' ∧ Below B w w') := Any.Builder_String_any_f Tryz.lays169 Tryz.Builder_Extra_169 B b l w h hBw
open Go.RowKit in
/-- (*strings.Builder).String: "String returns the accumulated string.": OF A BUILDER THAT HOLDS AT LEAST ONE BYTE. ✋ THE MODEL FREEZES THOSE BYTES IN THE BUFFER (unsafe.String): a later write INTO them ends the model's run without an answer; a later append BEHIND them goes on. The statement's order of evaluation is drawn: one draw. THE FORM '_k': OVER 'Lib.IsBuilderF' (a builder that 'String()' may have read), AND WITH THE FRAME THAT REACHES ABOVE THE BUILDER: 'Lib.OthersKept': every block that is not b and is no row of uint8's stands as it stood: the iterator of a range among them. (LAID: no walk: one application.) -/
theorem Tryz.Builder_String_k (B b : Nat) (l : List UInt8) (w : World) (h : Lib.IsBuilderF 283 5 B b (Lib.byteCells l) w) (h0 : l ≠ []) :
    Calls Tryz.prog 132 #[.pointer (some ⟨b, 0, none⟩)] w fun e w' => e = .returned (.string ⟨l.toArray⟩) ∧ (Lib.IsBuilderF 283 5 B b (Lib.byteCells l) w' ∧ Below B w w' ∧ Lib.OthersKept 5 (some b) w w') := Any.Builder_String_k Tryz.lays169 Tryz.Builder_Extra_169 B b l w h h0
open Go.RowKit in
/-- (*strings.Builder).String OF A BUILDER THAT HOLDS NO BYTE: the empty string; THE FORM '_k': OVER 'Lib.IsBuilderF' (a builder that 'String()' may have read), AND WITH THE FRAME THAT REACHES ABOVE THE BUILDER: 'Lib.OthersKept': every block that is not b and is no row of uint8's stands as it stood: the iterator of a range among them. (LAID: no walk: one application.) -/
theorem Tryz.Builder_String_empty_k (B b : Nat) (w : World) (h : Lib.IsBuilderF 283 5 B b [] w) (hBw : B ≤ w.heap.size) :
    Calls Tryz.prog 132 #[.pointer (some ⟨b, 0, none⟩)] w fun e w' => e = .returned (.string ⟨#[]⟩) ∧ (Lib.IsBuilderF 283 5 B b [] w' ∧ Below B w w' ∧ Lib.OthersKept 5 (some b) w w') := Any.Builder_String_empty_k Tryz.lays169 Tryz.Builder_Extra_169 B b w h hBw
open Go.RowKit in
/-- (*strings.Builder).String: "String returns the accumulated string.": WHATEVER THE BUILDER HOLDS; THE FORM '_k': OVER 'Lib.IsBuilderF' (a builder that 'String()' may have read), AND WITH THE FRAME THAT REACHES ABOVE THE BUILDER: 'Lib.OthersKept': every block that is not b and is no row of uint8's stands as it stood: the iterator of a range among them. (LAID: no walk: one application.) -/
theorem Tryz.Builder_String_any_k (B b : Nat) (l : List UInt8) (w : World) (h : Lib.IsBuilderF 283 5 B b (Lib.byteCells l) w) (hBw : B ≤ w.heap.size) :
    Calls Tryz.prog 132 #[.pointer (some ⟨b, 0, none⟩)] w fun e w' => e = .returned (.string ⟨l.toArray⟩) ∧ (Lib.IsBuilderF 283 5 B b (Lib.byteCells l) w' ∧ Below B w w' ∧ Lib.OthersKept 5 (some b) w w') := Any.Builder_String_any_k Tryz.lays169 Tryz.Builder_Extra_169 B b l w h hBw
def Tryz.lays345_ren : Go.Shelf.Ren := ⟨fun | 345 => 142 | n => n, fun | 234 => 295 | 49 => 22 | 3 => 3 | 4 => 4 | 46 => 168 | 0 => 0 | n => n, fun | n => n⟩
theorem Tryz.lays345 : Go.Proofs.Lays.n345 Tryz.prog Tryz.lays345_ren := {
  mixed := by kernel_rfl
  f345 := Tryz.func142.trans (congrArg some (by kernel_rfl))
  t0 := Tryz.underlying0
  a0 := Tryz.isAgg0
  z0 := Tryz.sizeOf0
  v0 := Tryz.zeroValue0
  t3 := Tryz.underlying3
  a3 := Tryz.isAgg3
  z3 := Tryz.sizeOf3
  v3 := Tryz.zeroValue3
  t4 := Tryz.underlying4
  a4 := Tryz.isAgg4
  z4 := Tryz.sizeOf4
  v4 := Tryz.zeroValue4
  t46 := Tryz.underlying168
  a46 := Tryz.isAgg168
  z46 := Tryz.sizeOf168
  v46 := Tryz.zeroValue168
  t49 := Tryz.underlying22
  a49 := Tryz.isAgg22
  z49 := Tryz.sizeOf22
  v49 := Tryz.zeroValue22
  t234 := Tryz.underlying295
  a234 := Tryz.isAgg295
  z234 := Tryz.sizeOf295
  v234 := Tryz.zeroValue295 }
open Go.RowKit in
/-- strconv.bsearch[[]uint16,uint16]: a table of whatever numbers (sorted or not: WHAT IS SAID IS WHAT THE LOOP COMPUTES: 'Lib.bsearchI', 'Lib.bsearchFound'), at least one of them; draws alone (the last statement's order); nothing else turns. (LAID: no walk: one application.) -/
theorem Tryz.strconv_bsearch16 (R o c : Nat) (t : List Nat) (v : Nat) (w : World) (h0 : 0 < t.length) (hn : t.length ≤ 4611686018427387904) (hc : ∀ j, j < t.length → w.cell? ⟨R, o + j, none⟩ = some (.int .u16 (t.getD j 0))) :
    Calls Tryz.prog 142 #[.slice (some ⟨R, o, none⟩) t.length c, .int .u16 v] w fun e w' => e = .returned (.tuple #[.int .i64 (Lib.bsearchI t v), .bool (Lib.bsearchFound t v)]) ∧ ∃ q, w' = w.drewN q := Any.strconv_bsearch16 Tryz.lays345 R o c t v w h0 hn hc
def Tryz.lays346_ren : Go.Shelf.Ren := ⟨fun | 346 => 143 | n => n, fun | 236 => 297 | 51 => 247 | 3 => 3 | 4 => 4 | 46 => 168 | 0 => 0 | n => n, fun | n => n⟩
theorem Tryz.lays346 : Go.Proofs.Lays.n346 Tryz.prog Tryz.lays346_ren := {
  mixed := by kernel_rfl
  f346 := Tryz.func143.trans (congrArg some (by kernel_rfl))
  t0 := Tryz.underlying0
  a0 := Tryz.isAgg0
  z0 := Tryz.sizeOf0
  v0 := Tryz.zeroValue0
  t3 := Tryz.underlying3
  a3 := Tryz.isAgg3
  z3 := Tryz.sizeOf3
  v3 := Tryz.zeroValue3
  t4 := Tryz.underlying4
  a4 := Tryz.isAgg4
  z4 := Tryz.sizeOf4
  v4 := Tryz.zeroValue4
  t46 := Tryz.underlying168
  a46 := Tryz.isAgg168
  z46 := Tryz.sizeOf168
  v46 := Tryz.zeroValue168
  t51 := Tryz.underlying247
  a51 := Tryz.isAgg247
  z51 := Tryz.sizeOf247
  v51 := Tryz.zeroValue247
  t236 := Tryz.underlying297
  a236 := Tryz.isAgg297
  z236 := Tryz.sizeOf297
  v236 := Tryz.zeroValue297 }
open Go.RowKit in
/-- strconv.bsearch[[]uint32,uint32]: a table of whatever numbers (sorted or not: WHAT IS SAID IS WHAT THE LOOP COMPUTES: 'Lib.bsearchI', 'Lib.bsearchFound'), at least one of them; draws alone (the last statement's order); nothing else turns. (LAID: no walk: one application.) -/
theorem Tryz.strconv_bsearch32 (R o c : Nat) (t : List Nat) (v : Nat) (w : World) (h0 : 0 < t.length) (hn : t.length ≤ 4611686018427387904) (hc : ∀ j, j < t.length → w.cell? ⟨R, o + j, none⟩ = some (.int .u32 (t.getD j 0))) :
    Calls Tryz.prog 143 #[.slice (some ⟨R, o, none⟩) t.length c, .int .u32 v] w fun e w' => e = .returned (.tuple #[.int .i64 (Lib.bsearchI t v), .bool (Lib.bsearchFound t v)]) ∧ ∃ q, w' = w.drewN q := Any.strconv_bsearch32 Tryz.lays346 R o c t v w h0 hn hc
def Tryz.lays339_ren : Go.Shelf.Ren := ⟨fun | 339 => 140 | 345 => 142 | 346 => 143 | n => n, fun | 21 => 21 | 4 => 4 | 49 => 22 | 234 => 295 | 131 => 249 | 3 => 3 | 0 => 0 | 51 => 247 | 236 => 297 | 46 => 168 | n => n, fun | 20 => 9 | 21 => 10 | 22 => 11 | 23 => 12 | n => n⟩
theorem Tryz.lays339 : Go.Proofs.Lays.n339 Tryz.prog Tryz.lays339_ren := {
  mixed := by kernel_rfl
  f339 := Tryz.func140.trans (congrArg some (by kernel_rfl))
  f345 := Tryz.func142.trans (congrArg some (by kernel_rfl))
  f346 := Tryz.func143.trans (congrArg some (by kernel_rfl))
  t0 := Tryz.underlying0
  a0 := Tryz.isAgg0
  z0 := Tryz.sizeOf0
  v0 := Tryz.zeroValue0
  t3 := Tryz.underlying3
  a3 := Tryz.isAgg3
  z3 := Tryz.sizeOf3
  v3 := Tryz.zeroValue3
  t4 := Tryz.underlying4
  a4 := Tryz.isAgg4
  z4 := Tryz.sizeOf4
  v4 := Tryz.zeroValue4
  t21 := Tryz.underlying21
  a21 := Tryz.isAgg21
  z21 := Tryz.sizeOf21
  v21 := Tryz.zeroValue21
  t46 := Tryz.underlying168
  a46 := Tryz.isAgg168
  z46 := Tryz.sizeOf168
  v46 := Tryz.zeroValue168
  t49 := Tryz.underlying22
  a49 := Tryz.isAgg22
  z49 := Tryz.sizeOf22
  v49 := Tryz.zeroValue22
  t51 := Tryz.underlying247
  a51 := Tryz.isAgg247
  z51 := Tryz.sizeOf247
  v51 := Tryz.zeroValue247
  t131 := Tryz.underlying249
  a131 := Tryz.isAgg249
  z131 := Tryz.sizeOf249
  v131 := Tryz.zeroValue249
  t234 := Tryz.underlying295
  a234 := Tryz.isAgg295
  z234 := Tryz.sizeOf295
  v234 := Tryz.zeroValue295
  t236 := Tryz.underlying297
  a236 := Tryz.isAgg297
  z236 := Tryz.sizeOf297
  v236 := Tryz.zeroValue297
  g20 := by kernel_rfl
  g21 := by kernel_rfl
  g22 := by kernel_rfl
  g23 := by kernel_rfl }
open Go.RowKit in
/-- strconv.IsPrint AT r ≤ 0xFF, negative ones too ('Fast check for Latin-1'): no table is read; nothing turns. (LAID: no walk: one application.) -/
theorem Tryz.strconv_IsPrint_latin (r : Int) (w : World) (hr : r ≤ 255) :
    Calls Tryz.prog 140 #[.int .i32 r] w fun e w' => e = .returned (.bool (Lib.isPrintLatin r)) ∧ w' = w := Any.strconv_IsPrint_latin Tryz.lays339 r w hr
open Go.RowKit in
/-- (*strings.Builder).grow (no doc but "grow copies the buffer to a new, larger buffer so that there are at least n bytes of capacity beyond len(b.buf)."): AT A BUILDER WITHOUT A BUFFER: a new row of whatever bytes for its buffer, none of them its own yet. Three draws. (LAID: no walk: one application.) -/
theorem Tryz.Builder_grow_fresh_cap (B b n : Nat) (w : World) (hB : B ≤ b) (hbk : w.heap[b]? = some (.cells #[.pointer (some ⟨b, 0, none⟩), .slice none 0 0] 283 (0, 0))) (hBw : B ≤ w.heap.size) (hn : n ≤ 281474976710656) :
    Calls Tryz.prog 135 #[.pointer (some ⟨b, 0, none⟩), .int .i64 n] w fun e w' => e = .returned (.tuple #[]) ∧ (Lib.BuilderAt 283 5 B b (.pointer (some ⟨b, 0, none⟩)) [] w' ∧ Below B w w') ∧ ∃ p cap, w'.cell? ⟨b, 1, none⟩ = some (.slice p 0 cap) ∧ n ≤ cap := Any.Builder_grow_fresh_cap Tryz.lays241 Tryz.Builder_Extra_241 B b n w hB hbk hBw hn
open Go.RowKit in
/-- (*strings.Builder).Grow AT A BUILDER THAT HAS NOT BEEN WRITTEN ('var b strings.Builder; b.Grow(n)'): "Grow grows b's capacity, if necessary, to guarantee space for another n bytes.": it holds no byte behind it as before it. (LAID: no walk: one application.) -/
theorem Tryz.Builder_Grow_fresh_cap (B b n : Nat) (w : World) (hB : B ≤ b) (hbk : w.heap[b]? = some (.cells #[.pointer none, .slice none 0 0] 283 (0, 0))) (hBw : B ≤ w.heap.size) (hn : n ≤ 281474976710656) :
    Calls Tryz.prog 130 #[.pointer (some ⟨b, 0, none⟩), .int .i64 n] w fun e w' => e = .returned (.tuple #[]) ∧ (Lib.BuilderAt 283 5 B b (.pointer (some ⟨b, 0, none⟩)) [] w' ∧ Below B w w') ∧ ∃ p cap, w'.cell? ⟨b, 1, none⟩ = some (.slice p 0 cap) ∧ n ≤ cap := Any.Builder_Grow_fresh_cap Tryz.lays165 Tryz.Builder_Extra_165 B b n w hB hbk hBw hn
def Tryz.lays129_ren : Go.Shelf.Ren := ⟨fun | 129 => 220 | n => n, fun | 53 => 177 | 3 => 3 | 4 => 4 | 46 => 168 | 5 => 5 | 9 => 9 | n => n, fun | n => n⟩
theorem Tryz.lays129 : Go.Proofs.Lays.n129 Tryz.prog Tryz.lays129_ren := {
  mixed := by kernel_rfl
  f129 := Tryz.func220.trans (congrArg some (by kernel_rfl))
  t3 := Tryz.underlying3
  a3 := Tryz.isAgg3
  z3 := Tryz.sizeOf3
  v3 := Tryz.zeroValue3
  t4 := Tryz.underlying4
  a4 := Tryz.isAgg4
  z4 := Tryz.sizeOf4
  v4 := Tryz.zeroValue4
  t5 := Tryz.underlying5
  a5 := Tryz.isAgg5
  z5 := Tryz.sizeOf5
  v5 := Tryz.zeroValue5
  t9 := Tryz.underlying9
  a9 := Tryz.isAgg9
  z9 := Tryz.sizeOf9
  v9 := Tryz.zeroValue9
  t46 := Tryz.underlying168
  a46 := Tryz.isAgg168
  z46 := Tryz.sizeOf168
  v46 := Tryz.zeroValue168
  t53 := Tryz.underlying177
  a53 := Tryz.isAgg177
  z53 := Tryz.sizeOf177
  v53 := Tryz.zeroValue177 }
/-- bits.Len64: "Len64 returns the minimum number of bits required to represent x; the result is 0 for x == 0.": IT RETURNS 'Lib.bitLen x'; the world is as it was. ('h0', 'h1': x is a uint64.) (LAID: no walk: one application.) -/
theorem Tryz.bits_Len64 (x : Int) (w : World) (h0 : 0 ≤ x) (h1 : x ≤ 18446744073709551615) :
    Calls Tryz.prog 220 #[.int .u64 x] w fun e w' => e = .returned (.int .i64 (Lib.bitLen x.toNat)) ∧ w' = w := Any.bits_Len64 Tryz.lays129 x w h0 h1
def Tryz.lays317_ren : Go.Shelf.Ren := ⟨fun | 317 => 219 | n => n, fun | 3 => 3 | 46 => 168 | n => n, fun | n => n⟩
theorem Tryz.lays317 : Go.Proofs.Lays.n317 Tryz.prog Tryz.lays317_ren := {
  mixed := by kernel_rfl
  f317 := Tryz.func219.trans (congrArg some (by kernel_rfl))
  t3 := Tryz.underlying3
  a3 := Tryz.isAgg3
  z3 := Tryz.sizeOf3
  v3 := Tryz.zeroValue3
  t46 := Tryz.underlying168
  a46 := Tryz.isAgg168
  z46 := Tryz.sizeOf168
  v46 := Tryz.zeroValue168 }
open Go.Lib in
/-- internal/strconv.log10Pow2: "log10Pow2(x) returns ⌊log₁₀ 2**x⌋ = ⌊x * log₁₀ 2⌋.": '(x * 78913) >> 18', at an x up to 64 (a length in bits). The world is as it was. (LAID: no walk: one application.) -/
theorem Tryz.internal_strconv_log10Pow2 (x : Nat) (h : x ≤ 64) (w : World) :
    Calls Tryz.prog 219 #[.int .i64 x] w fun e w' => e = .returned (.int .i64 (Lib.l10 x)) ∧ w' = w := Any.internal_strconv_log10Pow2 Tryz.lays317 x h w
def Tryz.lays318_ren : Go.Shelf.Ren := ⟨fun | 318 => 221 | n => n, fun | 3 => 3 | 4 => 4 | n => n, fun | n => n⟩
theorem Tryz.lays318 : Go.Proofs.Lays.n318 Tryz.prog Tryz.lays318_ren := {
  mixed := by kernel_rfl
  f318 := Tryz.func221.trans (congrArg some (by kernel_rfl))
  t3 := Tryz.underlying3
  a3 := Tryz.isAgg3
  z3 := Tryz.sizeOf3
  v3 := Tryz.zeroValue3
  t4 := Tryz.underlying4
  a4 := Tryz.isAgg4
  z4 := Tryz.sizeOf4
  v4 := Tryz.zeroValue4 }
open Go.Lib in
/-- internal/strconv.bool2: "bool2 converts b to an integer: 1 for true, 0 for false." The world is as it was. (LAID: no walk: one application.) -/
theorem Tryz.internal_strconv_bool2_int (b : Bool) (w : World) :
    Calls Tryz.prog 221 #[.bool b] w fun e w' => e = .returned (.int .i64 (if b then 1 else 0)) ∧ w' = w := Any.internal_strconv_bool2_int Tryz.lays318 b w
def Tryz.lays283_ren : Go.Shelf.Ren := ⟨fun | 283 => 215 | n => n, fun | 3 => 3 | 9 => 9 | 4 => 4 | n => n, fun | n => n⟩
theorem Tryz.lays283 : Go.Proofs.Lays.n283 Tryz.prog Tryz.lays283_ren := {
  mixed := by kernel_rfl
  f283 := Tryz.func215.trans (congrArg some (by kernel_rfl))
  t3 := Tryz.underlying3
  a3 := Tryz.isAgg3
  z3 := Tryz.sizeOf3
  v3 := Tryz.zeroValue3
  t4 := Tryz.underlying4
  a4 := Tryz.isAgg4
  z4 := Tryz.sizeOf4
  v4 := Tryz.zeroValue4
  t9 := Tryz.underlying9
  a9 := Tryz.isAgg9
  z9 := Tryz.sizeOf9
  v9 := Tryz.zeroValue9 }
open Go.Lib in
/-- internal/strconv.small: "small returns the string for an i with 0 <= i < nSmalls.": i's decimal numeral. The world is as it was. (LAID: no walk: one application.) -/
theorem Tryz.internal_strconv_small (i : Nat) (h : i < 100) (w : World) :
    Calls Tryz.prog 215 #[.int .i64 i] w fun e w' => e = .returned (.string ⟨(Lib.decDigits i).toArray⟩) ∧ w' = w := Any.internal_strconv_small Tryz.lays283 i h w
def Tryz.laysM284_ren : Go.Shelf.Ren := ⟨fun | 284 => 216 | 129 => 220 | 317 => 219 | 318 => 221 | n => n, fun | 53 => 177 | 3 => 3 | 212 => 345 | 0 => 0 | 4 => 4 | 46 => 168 | 5 => 5 | 9 => 9 | n => n, fun | 17 => 15 | n => n⟩
theorem Tryz.laysM284 : Go.Proofs.LaysM.n284 Tryz.prog Tryz.laysM284_ren := {
  mixed := by kernel_rfl
  f129 := Tryz.func220.trans (congrArg some (by kernel_rfl))
  f284 := Tryz.func216.trans (congrArg some (by kernel_rfl))
  f317 := Tryz.func219.trans (congrArg some (by kernel_rfl))
  f318 := Tryz.func221.trans (congrArg some (by kernel_rfl))
  t0 := Tryz.underlying0
  a0 := Tryz.isAgg0
  z0 := Tryz.sizeOf0
  v0 := Tryz.zeroValue0
  t3 := Tryz.underlying3
  a3 := Tryz.isAgg3
  z3 := Tryz.sizeOf3
  v3 := Tryz.zeroValue3
  t4 := Tryz.underlying4
  a4 := Tryz.isAgg4
  z4 := Tryz.sizeOf4
  v4 := Tryz.zeroValue4
  t5 := Tryz.underlying5
  a5 := Tryz.isAgg5
  z5 := Tryz.sizeOf5
  v5 := Tryz.zeroValue5
  t9 := Tryz.underlying9
  a9 := Tryz.isAgg9
  z9 := Tryz.sizeOf9
  v9 := Tryz.zeroValue9
  t46 := Tryz.underlying168
  a46 := Tryz.isAgg168
  z46 := Tryz.sizeOf168
  v46 := Tryz.zeroValue168
  t53 := Tryz.underlying177
  a53 := Tryz.isAgg177
  z53 := Tryz.sizeOf177
  v53 := Tryz.zeroValue177
  t212 := Tryz.underlying345
  a212 := Tryz.isAgg345
  z212 := Tryz.sizeOf345
  v212 := Tryz.zeroValue345
  g17 := by kernel_rfl
  i0 := by kernel_rfl
  i3 := by kernel_rfl
  i4 := by kernel_rfl
  i5 := by kernel_rfl
  i9 := by kernel_rfl
  i46 := by kernel_rfl
  i53 := by kernel_rfl
  i212 := by kernel_rfl
  m17 := by kernel_rfl }
open Go.Lib in
/-- internal/strconv.numDigits, at a d that is not 0: THE NUMBER OF d's DECIMAL DIGITS. The world is as it was. (LAID: no walk: one application.) -/
theorem Tryz.internal_strconv_numDigits (u : Nat) (h1 : 1 ≤ u) (h2 : u < 18446744073709551616) (w : World) (htab : Lib.TabIs Tryz.prog w "internal/strconv.uint64pow10" .u64 Lib.pow10Tab) :
    Calls Tryz.prog 216 #[.int .u64 u] w fun e w' => e = .returned (.int .i64 (Lib.nDigits u)) ∧ w' = w := Any.internal_strconv_numDigits Tryz.laysM284 u h1 h2 w htab
def Tryz.lays285_ren : Go.Shelf.Ren := ⟨fun | 285 => 217 | n => n, fun | 37 => 34 | 53 => 177 | 3 => 3 | 4 => 4 | 51 => 247 | 9 => 9 | 5 => 5 | 0 => 0 | n => n, fun | n => n⟩
theorem Tryz.lays285 : Go.Proofs.Lays.n285 Tryz.prog Tryz.lays285_ren := {
  mixed := by kernel_rfl
  f285 := Tryz.func217.trans (congrArg some (by kernel_rfl))
  t0 := Tryz.underlying0
  a0 := Tryz.isAgg0
  z0 := Tryz.sizeOf0
  v0 := Tryz.zeroValue0
  t3 := Tryz.underlying3
  a3 := Tryz.isAgg3
  z3 := Tryz.sizeOf3
  v3 := Tryz.zeroValue3
  t4 := Tryz.underlying4
  a4 := Tryz.isAgg4
  z4 := Tryz.sizeOf4
  v4 := Tryz.zeroValue4
  t5 := Tryz.underlying5
  a5 := Tryz.isAgg5
  z5 := Tryz.sizeOf5
  v5 := Tryz.zeroValue5
  t9 := Tryz.underlying9
  a9 := Tryz.isAgg9
  z9 := Tryz.sizeOf9
  v9 := Tryz.zeroValue9
  t37 := Tryz.underlying34
  a37 := Tryz.isAgg34
  z37 := Tryz.sizeOf34
  v37 := Tryz.zeroValue34
  t51 := Tryz.underlying247
  a51 := Tryz.isAgg247
  z51 := Tryz.sizeOf247
  v51 := Tryz.zeroValue247
  t53 := Tryz.underlying177
  a53 := Tryz.isAgg177
  z53 := Tryz.sizeOf177
  v53 := Tryz.zeroValue177 }
open Go.RowKit Go.Sort Go.Lib in
/-- internal/strconv.formatBase10: "formatBase10 formats the decimal representation of u into a. The caller is responsible for ensuring that a is big enough to hold u. If a is too big, leading zeros will be filled in as needed.": THE ROW HOLDS u's DIGITS ('FmtInv .. 0 ..': every place t holds 'dg u (len - 1 - t)'); all else is as it was but for the count of draws. (LAID: no walk: one application.) -/
theorem Tryz.internal_strconv_formatBase10 (blk off cap : Nat) (u : Nat) (d : Array UInt8) (w : World) (hH : Holds (fun (b : UInt8) => Value.int .u8 (b.toNat : Int)) w blk off d) (hu : u < 10 ^ d.size) (hu64 : u < 18446744073709551616) (hsz : d.size < 4611686018427387904) :
    Calls Tryz.prog 217 #[.slice (some ⟨blk, off, none⟩) d.size cap, .int .u64 u] w fun e w' =>
      e = .returned (.tuple #[]) ∧ ∃ (n v' : Nat) (dk : Array UInt8), w' = (putRow (fun (b : UInt8) => Value.int .u8 (b.toNat : Int)) w blk off dk).drewN n ∧ FmtInv d.size u 0 v' dk := Any.internal_strconv_formatBase10 Tryz.lays285 blk off cap u d w hH hu hu64 hsz
def Tryz.laysM246_ren : Go.Shelf.Ren := ⟨fun | 246 => 214 | 283 => 215 | 284 => 216 | 285 => 217 | 286 => 218 | 129 => 220 | 317 => 219 | 318 => 221 | 319 => 222 | 320 => 223 | 337 => 224 | 338 => 225 | n => n, fun | 2 => 2 | 3 => 3 | 9 => 9 | 4 => 4 | 171 => 339 | 0 => 0 | 53 => 177 | 37 => 34 | 5 => 5 | 173 => 342 | 212 => 345 | 51 => 247 | 20 => 20 | 213 => 346 | 46 => 168 | 232 => 350 | 233 => 351 | n => n, fun | 17 => 15 | 18 => 16 | 19 => 17 | n => n⟩
theorem Tryz.laysM246 : Go.Proofs.LaysM.n246 Tryz.prog Tryz.laysM246_ren := {
  mixed := by kernel_rfl
  f129 := Tryz.func220.trans (congrArg some (by kernel_rfl))
  f246 := Tryz.func214.trans (congrArg some (by kernel_rfl))
  f283 := Tryz.func215.trans (congrArg some (by kernel_rfl))
  f284 := Tryz.func216.trans (congrArg some (by kernel_rfl))
  f285 := Tryz.func217.trans (congrArg some (by kernel_rfl))
  f286 := Tryz.func218.trans (congrArg some (by kernel_rfl))
  f317 := Tryz.func219.trans (congrArg some (by kernel_rfl))
  f318 := Tryz.func221.trans (congrArg some (by kernel_rfl))
  f319 := Tryz.func222.trans (congrArg some (by kernel_rfl))
  f320 := Tryz.func223.trans (congrArg some (by kernel_rfl))
  f337 := Tryz.func224.trans (congrArg some (by kernel_rfl))
  f338 := Tryz.func225.trans (congrArg some (by kernel_rfl))
  t0 := Tryz.underlying0
  a0 := Tryz.isAgg0
  z0 := Tryz.sizeOf0
  v0 := Tryz.zeroValue0
  t2 := Tryz.underlying2
  a2 := Tryz.isAgg2
  z2 := Tryz.sizeOf2
  v2 := Tryz.zeroValue2
  t3 := Tryz.underlying3
  a3 := Tryz.isAgg3
  z3 := Tryz.sizeOf3
  v3 := Tryz.zeroValue3
  t4 := Tryz.underlying4
  a4 := Tryz.isAgg4
  z4 := Tryz.sizeOf4
  v4 := Tryz.zeroValue4
  t5 := Tryz.underlying5
  a5 := Tryz.isAgg5
  z5 := Tryz.sizeOf5
  v5 := Tryz.zeroValue5
  t9 := Tryz.underlying9
  a9 := Tryz.isAgg9
  z9 := Tryz.sizeOf9
  v9 := Tryz.zeroValue9
  t20 := Tryz.underlying20
  a20 := Tryz.isAgg20
  z20 := Tryz.sizeOf20
  v20 := Tryz.zeroValue20
  t37 := Tryz.underlying34
  a37 := Tryz.isAgg34
  z37 := Tryz.sizeOf34
  v37 := Tryz.zeroValue34
  t46 := Tryz.underlying168
  a46 := Tryz.isAgg168
  z46 := Tryz.sizeOf168
  v46 := Tryz.zeroValue168
  t51 := Tryz.underlying247
  a51 := Tryz.isAgg247
  z51 := Tryz.sizeOf247
  v51 := Tryz.zeroValue247
  t53 := Tryz.underlying177
  a53 := Tryz.isAgg177
  z53 := Tryz.sizeOf177
  v53 := Tryz.zeroValue177
  t171 := Tryz.underlying339
  a171 := Tryz.isAgg339
  z171 := Tryz.sizeOf339
  v171 := Tryz.zeroValue339
  t173 := Tryz.underlying342
  a173 := Tryz.isAgg342
  z173 := Tryz.sizeOf342
  v173 := Tryz.zeroValue342
  t212 := Tryz.underlying345
  a212 := Tryz.isAgg345
  z212 := Tryz.sizeOf345
  v212 := Tryz.zeroValue345
  t213 := Tryz.underlying346
  a213 := Tryz.isAgg346
  z213 := Tryz.sizeOf346
  t232 := Tryz.underlying350
  a232 := Tryz.isAgg350
  z232 := Tryz.sizeOf350
  v232 := Tryz.zeroValue350
  t233 := Tryz.underlying351
  a233 := Tryz.isAgg351
  z233 := Tryz.sizeOf351
  v233 := Tryz.zeroValue351
  g17 := by kernel_rfl
  g18 := by kernel_rfl
  g19 := by kernel_rfl
  i0 := by kernel_rfl
  i2 := by kernel_rfl
  i3 := by kernel_rfl
  i4 := by kernel_rfl
  i5 := by kernel_rfl
  i9 := by kernel_rfl
  i20 := by kernel_rfl
  i37 := by kernel_rfl
  i46 := by kernel_rfl
  i51 := by kernel_rfl
  i53 := by kernel_rfl
  i171 := by kernel_rfl
  i173 := by kernel_rfl
  i212 := by kernel_rfl
  i232 := by kernel_rfl
  i233 := by kernel_rfl
  m17 := by kernel_rfl
  m18 := by kernel_rfl
  m19 := by kernel_rfl }
open Go.RowKit Go.Sort Go.Lib in
/-- internal/strconv.FormatInt: "FormatInt returns the string representation of i in the given base": AT BASE 10: i's decimal numeral, for every int64. The world behind the call: the world before it, new blocks behind the heap, draws. (LAID: no walk: one application.) -/
theorem Tryz.internal_strconv_FormatInt_10 (n : Int) (h0 : -9223372036854775808 ≤ n) (h1 : n ≤ 9223372036854775807) (w : World) (htab : Lib.TabIs Tryz.prog w "internal/strconv.uint64pow10" .u64 Lib.pow10Tab) :
    Calls Tryz.prog 214 #[.int .i64 n, .int .i64 10] w fun e w' => e = .returned (.string ⟨(Lib.itoa n).toArray⟩) ∧ ∃ k os, w' = grow (w.drewN k) os := Any.internal_strconv_FormatInt_10 Tryz.laysM246 n h0 h1 w htab
def Tryz.lays246_ren : Go.Shelf.Ren := ⟨fun | 246 => 214 | 283 => 215 | 284 => 216 | 285 => 217 | 286 => 218 | 129 => 220 | 317 => 219 | 318 => 221 | 319 => 222 | 320 => 223 | 337 => 224 | 338 => 225 | n => n, fun | 2 => 2 | 3 => 3 | 9 => 9 | 4 => 4 | 171 => 339 | 0 => 0 | 53 => 177 | 37 => 34 | 5 => 5 | 173 => 342 | 212 => 345 | 51 => 247 | 20 => 20 | 213 => 346 | 46 => 168 | 232 => 350 | 233 => 351 | n => n, fun | 17 => 15 | 18 => 16 | 19 => 17 | n => n⟩
theorem Tryz.lays246 : Go.Proofs.Lays.n246 Tryz.prog Tryz.lays246_ren := {
  mixed := by kernel_rfl
  f129 := Tryz.func220.trans (congrArg some (by kernel_rfl))
  f246 := Tryz.func214.trans (congrArg some (by kernel_rfl))
  f283 := Tryz.func215.trans (congrArg some (by kernel_rfl))
  f284 := Tryz.func216.trans (congrArg some (by kernel_rfl))
  f285 := Tryz.func217.trans (congrArg some (by kernel_rfl))
  f286 := Tryz.func218.trans (congrArg some (by kernel_rfl))
  f317 := Tryz.func219.trans (congrArg some (by kernel_rfl))
  f318 := Tryz.func221.trans (congrArg some (by kernel_rfl))
  f319 := Tryz.func222.trans (congrArg some (by kernel_rfl))
  f320 := Tryz.func223.trans (congrArg some (by kernel_rfl))
  f337 := Tryz.func224.trans (congrArg some (by kernel_rfl))
  f338 := Tryz.func225.trans (congrArg some (by kernel_rfl))
  t0 := Tryz.underlying0
  a0 := Tryz.isAgg0
  z0 := Tryz.sizeOf0
  v0 := Tryz.zeroValue0
  t2 := Tryz.underlying2
  a2 := Tryz.isAgg2
  z2 := Tryz.sizeOf2
  v2 := Tryz.zeroValue2
  t3 := Tryz.underlying3
  a3 := Tryz.isAgg3
  z3 := Tryz.sizeOf3
  v3 := Tryz.zeroValue3
  t4 := Tryz.underlying4
  a4 := Tryz.isAgg4
  z4 := Tryz.sizeOf4
  v4 := Tryz.zeroValue4
  t5 := Tryz.underlying5
  a5 := Tryz.isAgg5
  z5 := Tryz.sizeOf5
  v5 := Tryz.zeroValue5
  t9 := Tryz.underlying9
  a9 := Tryz.isAgg9
  z9 := Tryz.sizeOf9
  v9 := Tryz.zeroValue9
  t20 := Tryz.underlying20
  a20 := Tryz.isAgg20
  z20 := Tryz.sizeOf20
  v20 := Tryz.zeroValue20
  t37 := Tryz.underlying34
  a37 := Tryz.isAgg34
  z37 := Tryz.sizeOf34
  v37 := Tryz.zeroValue34
  t46 := Tryz.underlying168
  a46 := Tryz.isAgg168
  z46 := Tryz.sizeOf168
  v46 := Tryz.zeroValue168
  t51 := Tryz.underlying247
  a51 := Tryz.isAgg247
  z51 := Tryz.sizeOf247
  v51 := Tryz.zeroValue247
  t53 := Tryz.underlying177
  a53 := Tryz.isAgg177
  z53 := Tryz.sizeOf177
  v53 := Tryz.zeroValue177
  t171 := Tryz.underlying339
  a171 := Tryz.isAgg339
  z171 := Tryz.sizeOf339
  v171 := Tryz.zeroValue339
  t173 := Tryz.underlying342
  a173 := Tryz.isAgg342
  z173 := Tryz.sizeOf342
  v173 := Tryz.zeroValue342
  t212 := Tryz.underlying345
  a212 := Tryz.isAgg345
  z212 := Tryz.sizeOf345
  v212 := Tryz.zeroValue345
  t213 := Tryz.underlying346
  a213 := Tryz.isAgg346
  z213 := Tryz.sizeOf346
  t232 := Tryz.underlying350
  a232 := Tryz.isAgg350
  z232 := Tryz.sizeOf350
  v232 := Tryz.zeroValue350
  t233 := Tryz.underlying351
  a233 := Tryz.isAgg351
  z233 := Tryz.sizeOf351
  v233 := Tryz.zeroValue351
  g17 := by kernel_rfl
  g18 := by kernel_rfl
  g19 := by kernel_rfl }
open Go.RowKit Go.Sort Go.Lib in
/-- THE ROAD WITHOUT THE TABLE: 0 <= i < 100: two constants are read, nothing is laid: no premise on the world, and the world is as it was. (LAID: no walk: one application.) -/
theorem Tryz.internal_strconv_FormatInt_10_small (i : Nat) (hi : i < 100) (w : World) :
    Calls Tryz.prog 214 #[.int .i64 i, .int .i64 10] w fun e w' => e = .returned (.string ⟨(Lib.decDigits i).toArray⟩) ∧ w' = w := Any.internal_strconv_FormatInt_10_small Tryz.lays246 i hi w
def Tryz.laysM243_ren : Go.Shelf.Ren := ⟨fun | 243 => 213 | 246 => 214 | 283 => 215 | 284 => 216 | 285 => 217 | 286 => 218 | 129 => 220 | 317 => 219 | 318 => 221 | 319 => 222 | 320 => 223 | 337 => 224 | 338 => 225 | n => n, fun | 3 => 3 | 9 => 9 | 2 => 2 | 4 => 4 | 171 => 339 | 0 => 0 | 53 => 177 | 37 => 34 | 5 => 5 | 173 => 342 | 212 => 345 | 51 => 247 | 20 => 20 | 213 => 346 | 46 => 168 | 232 => 350 | 233 => 351 | n => n, fun | 17 => 15 | 18 => 16 | 19 => 17 | n => n⟩
theorem Tryz.laysM243 : Go.Proofs.LaysM.n243 Tryz.prog Tryz.laysM243_ren := {
  mixed := by kernel_rfl
  f129 := Tryz.func220.trans (congrArg some (by kernel_rfl))
  f243 := Tryz.func213.trans (congrArg some (by kernel_rfl))
  f246 := Tryz.func214.trans (congrArg some (by kernel_rfl))
  f283 := Tryz.func215.trans (congrArg some (by kernel_rfl))
  f284 := Tryz.func216.trans (congrArg some (by kernel_rfl))
  f285 := Tryz.func217.trans (congrArg some (by kernel_rfl))
  f286 := Tryz.func218.trans (congrArg some (by kernel_rfl))
  f317 := Tryz.func219.trans (congrArg some (by kernel_rfl))
  f318 := Tryz.func221.trans (congrArg some (by kernel_rfl))
  f319 := Tryz.func222.trans (congrArg some (by kernel_rfl))
  f320 := Tryz.func223.trans (congrArg some (by kernel_rfl))
  f337 := Tryz.func224.trans (congrArg some (by kernel_rfl))
  f338 := Tryz.func225.trans (congrArg some (by kernel_rfl))
  t0 := Tryz.underlying0
  a0 := Tryz.isAgg0
  z0 := Tryz.sizeOf0
  v0 := Tryz.zeroValue0
  t2 := Tryz.underlying2
  a2 := Tryz.isAgg2
  z2 := Tryz.sizeOf2
  v2 := Tryz.zeroValue2
  t3 := Tryz.underlying3
  a3 := Tryz.isAgg3
  z3 := Tryz.sizeOf3
  v3 := Tryz.zeroValue3
  t4 := Tryz.underlying4
  a4 := Tryz.isAgg4
  z4 := Tryz.sizeOf4
  v4 := Tryz.zeroValue4
  t5 := Tryz.underlying5
  a5 := Tryz.isAgg5
  z5 := Tryz.sizeOf5
  v5 := Tryz.zeroValue5
  t9 := Tryz.underlying9
  a9 := Tryz.isAgg9
  z9 := Tryz.sizeOf9
  v9 := Tryz.zeroValue9
  t20 := Tryz.underlying20
  a20 := Tryz.isAgg20
  z20 := Tryz.sizeOf20
  v20 := Tryz.zeroValue20
  t37 := Tryz.underlying34
  a37 := Tryz.isAgg34
  z37 := Tryz.sizeOf34
  v37 := Tryz.zeroValue34
  t46 := Tryz.underlying168
  a46 := Tryz.isAgg168
  z46 := Tryz.sizeOf168
  v46 := Tryz.zeroValue168
  t51 := Tryz.underlying247
  a51 := Tryz.isAgg247
  z51 := Tryz.sizeOf247
  v51 := Tryz.zeroValue247
  t53 := Tryz.underlying177
  a53 := Tryz.isAgg177
  z53 := Tryz.sizeOf177
  v53 := Tryz.zeroValue177
  t171 := Tryz.underlying339
  a171 := Tryz.isAgg339
  z171 := Tryz.sizeOf339
  v171 := Tryz.zeroValue339
  t173 := Tryz.underlying342
  a173 := Tryz.isAgg342
  z173 := Tryz.sizeOf342
  v173 := Tryz.zeroValue342
  t212 := Tryz.underlying345
  a212 := Tryz.isAgg345
  z212 := Tryz.sizeOf345
  v212 := Tryz.zeroValue345
  t213 := Tryz.underlying346
  a213 := Tryz.isAgg346
  z213 := Tryz.sizeOf346
  t232 := Tryz.underlying350
  a232 := Tryz.isAgg350
  z232 := Tryz.sizeOf350
  v232 := Tryz.zeroValue350
  t233 := Tryz.underlying351
  a233 := Tryz.isAgg351
  z233 := Tryz.sizeOf351
  v233 := Tryz.zeroValue351
  g17 := by kernel_rfl
  g18 := by kernel_rfl
  g19 := by kernel_rfl
  i0 := by kernel_rfl
  i2 := by kernel_rfl
  i3 := by kernel_rfl
  i4 := by kernel_rfl
  i5 := by kernel_rfl
  i9 := by kernel_rfl
  i20 := by kernel_rfl
  i37 := by kernel_rfl
  i46 := by kernel_rfl
  i51 := by kernel_rfl
  i53 := by kernel_rfl
  i171 := by kernel_rfl
  i173 := by kernel_rfl
  i212 := by kernel_rfl
  i232 := by kernel_rfl
  i233 := by kernel_rfl
  m17 := by kernel_rfl
  m18 := by kernel_rfl
  m19 := by kernel_rfl }
open Go.RowKit Go.Sort Go.Lib in
/-- internal/strconv.Itoa: "Itoa is equivalent to FormatInt(int64(i), 10).": i's decimal numeral, for every int. (LAID: no walk: one application.) -/
theorem Tryz.internal_strconv_Itoa (n : Int) (h0 : -9223372036854775808 ≤ n) (h1 : n ≤ 9223372036854775807) (w : World) (htab : Lib.TabIs Tryz.prog w "internal/strconv.uint64pow10" .u64 Lib.pow10Tab) :
    Calls Tryz.prog 213 #[.int .i64 n] w fun e w' => e = .returned (.string ⟨(Lib.itoa n).toArray⟩) ∧ ∃ k os, w' = grow (w.drewN k) os := Any.internal_strconv_Itoa Tryz.laysM243 n h0 h1 w htab
def Tryz.lays243_ren : Go.Shelf.Ren := ⟨fun | 243 => 213 | 246 => 214 | 283 => 215 | 284 => 216 | 285 => 217 | 286 => 218 | 129 => 220 | 317 => 219 | 318 => 221 | 319 => 222 | 320 => 223 | 337 => 224 | 338 => 225 | n => n, fun | 3 => 3 | 9 => 9 | 2 => 2 | 4 => 4 | 171 => 339 | 0 => 0 | 53 => 177 | 37 => 34 | 5 => 5 | 173 => 342 | 212 => 345 | 51 => 247 | 20 => 20 | 213 => 346 | 46 => 168 | 232 => 350 | 233 => 351 | n => n, fun | 17 => 15 | 18 => 16 | 19 => 17 | n => n⟩
theorem Tryz.lays243 : Go.Proofs.Lays.n243 Tryz.prog Tryz.lays243_ren := {
  mixed := by kernel_rfl
  f129 := Tryz.func220.trans (congrArg some (by kernel_rfl))
  f243 := Tryz.func213.trans (congrArg some (by kernel_rfl))
  f246 := Tryz.func214.trans (congrArg some (by kernel_rfl))
  f283 := Tryz.func215.trans (congrArg some (by kernel_rfl))
  f284 := Tryz.func216.trans (congrArg some (by kernel_rfl))
  f285 := Tryz.func217.trans (congrArg some (by kernel_rfl))
  f286 := Tryz.func218.trans (congrArg some (by kernel_rfl))
  f317 := Tryz.func219.trans (congrArg some (by kernel_rfl))
  f318 := Tryz.func221.trans (congrArg some (by kernel_rfl))
  f319 := Tryz.func222.trans (congrArg some (by kernel_rfl))
  f320 := Tryz.func223.trans (congrArg some (by kernel_rfl))
  f337 := Tryz.func224.trans (congrArg some (by kernel_rfl))
  f338 := Tryz.func225.trans (congrArg some (by kernel_rfl))
  t0 := Tryz.underlying0
  a0 := Tryz.isAgg0
  z0 := Tryz.sizeOf0
  v0 := Tryz.zeroValue0
  t2 := Tryz.underlying2
  a2 := Tryz.isAgg2
  z2 := Tryz.sizeOf2
  v2 := Tryz.zeroValue2
  t3 := Tryz.underlying3
  a3 := Tryz.isAgg3
  z3 := Tryz.sizeOf3
  v3 := Tryz.zeroValue3
  t4 := Tryz.underlying4
  a4 := Tryz.isAgg4
  z4 := Tryz.sizeOf4
  v4 := Tryz.zeroValue4
  t5 := Tryz.underlying5
  a5 := Tryz.isAgg5
  z5 := Tryz.sizeOf5
  v5 := Tryz.zeroValue5
  t9 := Tryz.underlying9
  a9 := Tryz.isAgg9
  z9 := Tryz.sizeOf9
  v9 := Tryz.zeroValue9
  t20 := Tryz.underlying20
  a20 := Tryz.isAgg20
  z20 := Tryz.sizeOf20
  v20 := Tryz.zeroValue20
  t37 := Tryz.underlying34
  a37 := Tryz.isAgg34
  z37 := Tryz.sizeOf34
  v37 := Tryz.zeroValue34
  t46 := Tryz.underlying168
  a46 := Tryz.isAgg168
  z46 := Tryz.sizeOf168
  v46 := Tryz.zeroValue168
  t51 := Tryz.underlying247
  a51 := Tryz.isAgg247
  z51 := Tryz.sizeOf247
  v51 := Tryz.zeroValue247
  t53 := Tryz.underlying177
  a53 := Tryz.isAgg177
  z53 := Tryz.sizeOf177
  v53 := Tryz.zeroValue177
  t171 := Tryz.underlying339
  a171 := Tryz.isAgg339
  z171 := Tryz.sizeOf339
  v171 := Tryz.zeroValue339
  t173 := Tryz.underlying342
  a173 := Tryz.isAgg342
  z173 := Tryz.sizeOf342
  v173 := Tryz.zeroValue342
  t212 := Tryz.underlying345
  a212 := Tryz.isAgg345
  z212 := Tryz.sizeOf345
  v212 := Tryz.zeroValue345
  t213 := Tryz.underlying346
  a213 := Tryz.isAgg346
  z213 := Tryz.sizeOf346
  t232 := Tryz.underlying350
  a232 := Tryz.isAgg350
  z232 := Tryz.sizeOf350
  v232 := Tryz.zeroValue350
  t233 := Tryz.underlying351
  a233 := Tryz.isAgg351
  z233 := Tryz.sizeOf351
  v233 := Tryz.zeroValue351
  g17 := by kernel_rfl
  g18 := by kernel_rfl
  g19 := by kernel_rfl }
open Go.RowKit Go.Sort Go.Lib in
/-- THE ROAD WITHOUT THE TABLE: 0 <= i < 100. (LAID: no walk: one application.) -/
theorem Tryz.internal_strconv_Itoa_small (i : Nat) (hi : i < 100) (w : World) :
    Calls Tryz.prog 213 #[.int .i64 i] w fun e w' => e = .returned (.string ⟨(Lib.decDigits i).toArray⟩) ∧ w' = w := Any.internal_strconv_Itoa_small Tryz.lays243 i hi w
def Tryz.laysM171_ren : Go.Shelf.Ren := ⟨fun | 171 => 212 | 243 => 213 | 246 => 214 | 283 => 215 | 284 => 216 | 285 => 217 | 286 => 218 | 129 => 220 | 317 => 219 | 318 => 221 | 319 => 222 | 320 => 223 | 337 => 224 | 338 => 225 | n => n, fun | 3 => 3 | 9 => 9 | 2 => 2 | 4 => 4 | 171 => 339 | 0 => 0 | 53 => 177 | 37 => 34 | 5 => 5 | 173 => 342 | 212 => 345 | 51 => 247 | 20 => 20 | 213 => 346 | 46 => 168 | 232 => 350 | 233 => 351 | n => n, fun | 17 => 15 | 18 => 16 | 19 => 17 | n => n⟩
theorem Tryz.laysM171 : Go.Proofs.LaysM.n171 Tryz.prog Tryz.laysM171_ren := {
  mixed := by kernel_rfl
  f129 := Tryz.func220.trans (congrArg some (by kernel_rfl))
  f171 := Tryz.func212.trans (congrArg some (by kernel_rfl))
  f243 := Tryz.func213.trans (congrArg some (by kernel_rfl))
  f246 := Tryz.func214.trans (congrArg some (by kernel_rfl))
  f283 := Tryz.func215.trans (congrArg some (by kernel_rfl))
  f284 := Tryz.func216.trans (congrArg some (by kernel_rfl))
  f285 := Tryz.func217.trans (congrArg some (by kernel_rfl))
  f286 := Tryz.func218.trans (congrArg some (by kernel_rfl))
  f317 := Tryz.func219.trans (congrArg some (by kernel_rfl))
  f318 := Tryz.func221.trans (congrArg some (by kernel_rfl))
  f319 := Tryz.func222.trans (congrArg some (by kernel_rfl))
  f320 := Tryz.func223.trans (congrArg some (by kernel_rfl))
  f337 := Tryz.func224.trans (congrArg some (by kernel_rfl))
  f338 := Tryz.func225.trans (congrArg some (by kernel_rfl))
  t0 := Tryz.underlying0
  a0 := Tryz.isAgg0
  z0 := Tryz.sizeOf0
  v0 := Tryz.zeroValue0
  t2 := Tryz.underlying2
  a2 := Tryz.isAgg2
  z2 := Tryz.sizeOf2
  v2 := Tryz.zeroValue2
  t3 := Tryz.underlying3
  a3 := Tryz.isAgg3
  z3 := Tryz.sizeOf3
  v3 := Tryz.zeroValue3
  t4 := Tryz.underlying4
  a4 := Tryz.isAgg4
  z4 := Tryz.sizeOf4
  v4 := Tryz.zeroValue4
  t5 := Tryz.underlying5
  a5 := Tryz.isAgg5
  z5 := Tryz.sizeOf5
  v5 := Tryz.zeroValue5
  t9 := Tryz.underlying9
  a9 := Tryz.isAgg9
  z9 := Tryz.sizeOf9
  v9 := Tryz.zeroValue9
  t20 := Tryz.underlying20
  a20 := Tryz.isAgg20
  z20 := Tryz.sizeOf20
  v20 := Tryz.zeroValue20
  t37 := Tryz.underlying34
  a37 := Tryz.isAgg34
  z37 := Tryz.sizeOf34
  v37 := Tryz.zeroValue34
  t46 := Tryz.underlying168
  a46 := Tryz.isAgg168
  z46 := Tryz.sizeOf168
  v46 := Tryz.zeroValue168
  t51 := Tryz.underlying247
  a51 := Tryz.isAgg247
  z51 := Tryz.sizeOf247
  v51 := Tryz.zeroValue247
  t53 := Tryz.underlying177
  a53 := Tryz.isAgg177
  z53 := Tryz.sizeOf177
  v53 := Tryz.zeroValue177
  t171 := Tryz.underlying339
  a171 := Tryz.isAgg339
  z171 := Tryz.sizeOf339
  v171 := Tryz.zeroValue339
  t173 := Tryz.underlying342
  a173 := Tryz.isAgg342
  z173 := Tryz.sizeOf342
  v173 := Tryz.zeroValue342
  t212 := Tryz.underlying345
  a212 := Tryz.isAgg345
  z212 := Tryz.sizeOf345
  v212 := Tryz.zeroValue345
  t213 := Tryz.underlying346
  a213 := Tryz.isAgg346
  z213 := Tryz.sizeOf346
  t232 := Tryz.underlying350
  a232 := Tryz.isAgg350
  z232 := Tryz.sizeOf350
  v232 := Tryz.zeroValue350
  t233 := Tryz.underlying351
  a233 := Tryz.isAgg351
  z233 := Tryz.sizeOf351
  v233 := Tryz.zeroValue351
  g17 := by kernel_rfl
  g18 := by kernel_rfl
  g19 := by kernel_rfl
  i0 := by kernel_rfl
  i2 := by kernel_rfl
  i3 := by kernel_rfl
  i4 := by kernel_rfl
  i5 := by kernel_rfl
  i9 := by kernel_rfl
  i20 := by kernel_rfl
  i37 := by kernel_rfl
  i46 := by kernel_rfl
  i51 := by kernel_rfl
  i53 := by kernel_rfl
  i171 := by kernel_rfl
  i173 := by kernel_rfl
  i212 := by kernel_rfl
  i232 := by kernel_rfl
  i233 := by kernel_rfl
  m17 := by kernel_rfl
  m18 := by kernel_rfl
  m19 := by kernel_rfl }
open Go.RowKit Go.Sort Go.Lib in
/-- strconv.Itoa: "Itoa is equivalent to FormatInt(int64(i), 10).": i's DECIMAL NUMERAL ('Lib.itoa': a '-' where i is negative, then the digits), FOR EVERY int. The world behind the call: the world before it, new blocks behind the heap (the library's 'var a [24]byte'), draws. (LAID: no walk: one application.) -/
theorem Tryz.strconv_Itoa (n : Int) (h0 : -9223372036854775808 ≤ n) (h1 : n ≤ 9223372036854775807) (w : World) (htab : Lib.TabIs Tryz.prog w "internal/strconv.uint64pow10" .u64 Lib.pow10Tab) :
    Calls Tryz.prog 212 #[.int .i64 n] w fun e w' => e = .returned (.string ⟨(Lib.itoa n).toArray⟩) ∧ ∃ k os, w' = grow (w.drewN k) os := Any.strconv_Itoa Tryz.laysM171 n h0 h1 w htab
def Tryz.lays171_ren : Go.Shelf.Ren := ⟨fun | 171 => 212 | 243 => 213 | 246 => 214 | 283 => 215 | 284 => 216 | 285 => 217 | 286 => 218 | 129 => 220 | 317 => 219 | 318 => 221 | 319 => 222 | 320 => 223 | 337 => 224 | 338 => 225 | n => n, fun | 3 => 3 | 9 => 9 | 2 => 2 | 4 => 4 | 171 => 339 | 0 => 0 | 53 => 177 | 37 => 34 | 5 => 5 | 173 => 342 | 212 => 345 | 51 => 247 | 20 => 20 | 213 => 346 | 46 => 168 | 232 => 350 | 233 => 351 | n => n, fun | 17 => 15 | 18 => 16 | 19 => 17 | n => n⟩
theorem Tryz.lays171 : Go.Proofs.Lays.n171 Tryz.prog Tryz.lays171_ren := {
  mixed := by kernel_rfl
  f129 := Tryz.func220.trans (congrArg some (by kernel_rfl))
  f171 := Tryz.func212.trans (congrArg some (by kernel_rfl))
  f243 := Tryz.func213.trans (congrArg some (by kernel_rfl))
  f246 := Tryz.func214.trans (congrArg some (by kernel_rfl))
  f283 := Tryz.func215.trans (congrArg some (by kernel_rfl))
  f284 := Tryz.func216.trans (congrArg some (by kernel_rfl))
  f285 := Tryz.func217.trans (congrArg some (by kernel_rfl))
  f286 := Tryz.func218.trans (congrArg some (by kernel_rfl))
  f317 := Tryz.func219.trans (congrArg some (by kernel_rfl))
  f318 := Tryz.func221.trans (congrArg some (by kernel_rfl))
  f319 := Tryz.func222.trans (congrArg some (by kernel_rfl))
  f320 := Tryz.func223.trans (congrArg some (by kernel_rfl))
  f337 := Tryz.func224.trans (congrArg some (by kernel_rfl))
  f338 := Tryz.func225.trans (congrArg some (by kernel_rfl))
  t0 := Tryz.underlying0
  a0 := Tryz.isAgg0
  z0 := Tryz.sizeOf0
  v0 := Tryz.zeroValue0
  t2 := Tryz.underlying2
  a2 := Tryz.isAgg2
  z2 := Tryz.sizeOf2
  v2 := Tryz.zeroValue2
  t3 := Tryz.underlying3
  a3 := Tryz.isAgg3
  z3 := Tryz.sizeOf3
  v3 := Tryz.zeroValue3
  t4 := Tryz.underlying4
  a4 := Tryz.isAgg4
  z4 := Tryz.sizeOf4
  v4 := Tryz.zeroValue4
  t5 := Tryz.underlying5
  a5 := Tryz.isAgg5
  z5 := Tryz.sizeOf5
  v5 := Tryz.zeroValue5
  t9 := Tryz.underlying9
  a9 := Tryz.isAgg9
  z9 := Tryz.sizeOf9
  v9 := Tryz.zeroValue9
  t20 := Tryz.underlying20
  a20 := Tryz.isAgg20
  z20 := Tryz.sizeOf20
  v20 := Tryz.zeroValue20
  t37 := Tryz.underlying34
  a37 := Tryz.isAgg34
  z37 := Tryz.sizeOf34
  v37 := Tryz.zeroValue34
  t46 := Tryz.underlying168
  a46 := Tryz.isAgg168
  z46 := Tryz.sizeOf168
  v46 := Tryz.zeroValue168
  t51 := Tryz.underlying247
  a51 := Tryz.isAgg247
  z51 := Tryz.sizeOf247
  v51 := Tryz.zeroValue247
  t53 := Tryz.underlying177
  a53 := Tryz.isAgg177
  z53 := Tryz.sizeOf177
  v53 := Tryz.zeroValue177
  t171 := Tryz.underlying339
  a171 := Tryz.isAgg339
  z171 := Tryz.sizeOf339
  v171 := Tryz.zeroValue339
  t173 := Tryz.underlying342
  a173 := Tryz.isAgg342
  z173 := Tryz.sizeOf342
  v173 := Tryz.zeroValue342
  t212 := Tryz.underlying345
  a212 := Tryz.isAgg345
  z212 := Tryz.sizeOf345
  v212 := Tryz.zeroValue345
  t213 := Tryz.underlying346
  a213 := Tryz.isAgg346
  z213 := Tryz.sizeOf346
  t232 := Tryz.underlying350
  a232 := Tryz.isAgg350
  z232 := Tryz.sizeOf350
  v232 := Tryz.zeroValue350
  t233 := Tryz.underlying351
  a233 := Tryz.isAgg351
  z233 := Tryz.sizeOf351
  v233 := Tryz.zeroValue351
  g17 := by kernel_rfl
  g18 := by kernel_rfl
  g19 := by kernel_rfl }
open Go.RowKit Go.Sort Go.Lib in
/-- THE ROAD WITHOUT THE TABLE: 0 <= i < 100: NO PREMISE ON THE WORLD, AND THE WORLD IS AS IT WAS: a row that keeps its argument in that range need list no table ('laid = []'). (LAID: no walk: one application.) -/
theorem Tryz.strconv_Itoa_small (i : Nat) (hi : i < 100) (w : World) :
    Calls Tryz.prog 212 #[.int .i64 i] w fun e w' => e = .returned (.string ⟨(Lib.decDigits i).toArray⟩) ∧ w' = w := Any.strconv_Itoa_small Tryz.lays171 i hi w
def Tryz.laysM181_ren : Go.Shelf.Ren := ⟨fun | 181 => 73 | n => n, fun | 130 => 218 | 3 => 3 | 0 => 0 | 93 => 175 | 37 => 34 | 91 => 173 | 5 => 5 | n => n, fun | n => n⟩
theorem Tryz.laysM181 : Go.Proofs.LaysM.n181 Tryz.prog Tryz.laysM181_ren := {
  mixed := by kernel_rfl
  f181 := Tryz.func73.trans (congrArg some (by kernel_rfl))
  t0 := Tryz.underlying0
  a0 := Tryz.isAgg0
  z0 := Tryz.sizeOf0
  v0 := Tryz.zeroValue0
  t3 := Tryz.underlying3
  a3 := Tryz.isAgg3
  z3 := Tryz.sizeOf3
  v3 := Tryz.zeroValue3
  t37 := Tryz.underlying34
  a37 := Tryz.isAgg34
  z37 := Tryz.sizeOf34
  v37 := Tryz.zeroValue34
  t93 := Tryz.underlying175
  a93 := Tryz.isAgg175
  z93 := Tryz.sizeOf175
  v93 := Tryz.zeroValue175
  t130 := Tryz.underlying218
  a130 := Tryz.isAgg218
  z130 := Tryz.sizeOf218
  v130 := Tryz.zeroValue218
  t5 := Tryz.underlying5
  a5 := Tryz.isAgg5
  z5 := Tryz.sizeOf5
  v5 := Tryz.zeroValue5
  t91 := Tryz.underlying173
  a91 := Tryz.isAgg173
  z91 := Tryz.sizeOf173
  v91 := Tryz.zeroValue173
  i0 := by kernel_rfl
  i3 := by kernel_rfl
  i5 := by kernel_rfl
  i37 := by kernel_rfl
  i91 := by kernel_rfl
  i93 := by kernel_rfl
  i130 := by kernel_rfl }
open Go.RowKit in
/-- (*bytes.Buffer).Len: "Len returns the number of bytes of the unread portion of the buffer; b.Len() == len(b.Bytes()).": the world is as it was but for the count of draws (the statement has two reads: its order is drawn). (LAID: no walk: one application.) -/
theorem Tryz.Buffer_Len (B b : Nat) (bs : List Value) (w : World) (h : Lib.IsBuffer 175 5 B b bs w) :
    Calls Tryz.prog 73 #[.pointer (some ⟨b, 0, none⟩)] w fun e w' => e = .returned (.int .i64 bs.length) ∧ ∃ n, w' = w.drewN n := Any.Buffer_Len Tryz.laysM181 B b bs w h
def Tryz.laysM251_ren : Go.Shelf.Ren := ⟨fun | 251 => 103 | n => n, fun | 130 => 218 | 3 => 3 | 4 => 4 | 0 => 0 | 93 => 175 | 37 => 34 | 91 => 173 | 5 => 5 | n => n, fun | n => n⟩
theorem Tryz.laysM251 : Go.Proofs.LaysM.n251 Tryz.prog Tryz.laysM251_ren := {
  mixed := by kernel_rfl
  f251 := Tryz.func103.trans (congrArg some (by kernel_rfl))
  t0 := Tryz.underlying0
  a0 := Tryz.isAgg0
  z0 := Tryz.sizeOf0
  v0 := Tryz.zeroValue0
  t3 := Tryz.underlying3
  a3 := Tryz.isAgg3
  z3 := Tryz.sizeOf3
  v3 := Tryz.zeroValue3
  t4 := Tryz.underlying4
  a4 := Tryz.isAgg4
  z4 := Tryz.sizeOf4
  v4 := Tryz.zeroValue4
  t37 := Tryz.underlying34
  a37 := Tryz.isAgg34
  z37 := Tryz.sizeOf34
  v37 := Tryz.zeroValue34
  t93 := Tryz.underlying175
  a93 := Tryz.isAgg175
  z93 := Tryz.sizeOf175
  v93 := Tryz.zeroValue175
  t130 := Tryz.underlying218
  a130 := Tryz.isAgg218
  z130 := Tryz.sizeOf218
  v130 := Tryz.zeroValue218
  t5 := Tryz.underlying5
  a5 := Tryz.isAgg5
  z5 := Tryz.sizeOf5
  v5 := Tryz.zeroValue5
  t91 := Tryz.underlying173
  a91 := Tryz.isAgg173
  z91 := Tryz.sizeOf173
  v91 := Tryz.zeroValue173
  i0 := by kernel_rfl
  i3 := by kernel_rfl
  i4 := by kernel_rfl
  i5 := by kernel_rfl
  i37 := by kernel_rfl
  i91 := by kernel_rfl
  i93 := by kernel_rfl
  i130 := by kernel_rfl }
open Go.RowKit in
/-- (*bytes.Buffer).tryGrowByReslice: "tryGrowByReslice is an inlineable version of grow for the fast-case where the internal buffer only needs to be resliced. It returns the index where bytes should be written and whether it succeeded.": THERE IS ROOM: 'buf' is resliced to l + n. (LAID: no walk: one application.) -/
theorem Tryz.Buffer_tryGrow_room (b : Nat) (ao : Option Addr) (l cap n : Nat) (w : World) (c0 : w.cell? ⟨b, 0, none⟩ = some (.slice ao l cap)) (f0 : w.frozen? ⟨b, 0, none⟩ = false) (hlc : l ≤ cap) (hcap : cap ≤ maxLen) (hn : n ≤ cap - l) :
    Calls Tryz.prog 103 #[.pointer (some ⟨b, 0, none⟩), .int .i64 n] w fun e w' => e = .returned (.tuple #[.int .i64 l, .bool true]) ∧ w' = w.setCell ⟨b, 0, none⟩ (.slice ao (l + n) cap) := Any.Buffer_tryGrow_room Tryz.laysM251 b ao l cap n w c0 f0 hlc hcap hn
open Go.RowKit in
/-- .. THERE IS NONE: nothing turns. (LAID: no walk: one application.) -/
theorem Tryz.Buffer_tryGrow_none (b : Nat) (ao : Option Addr) (l cap n : Nat) (w : World) (c0 : w.cell? ⟨b, 0, none⟩ = some (.slice ao l cap)) (hlc : l ≤ cap) (hcap : cap ≤ maxLen) (hn : cap - l < n) :
    Calls Tryz.prog 103 #[.pointer (some ⟨b, 0, none⟩), .int .i64 n] w fun e w' => e = .returned (.tuple #[.int .i64 0, .bool false]) ∧ w' = w := Any.Buffer_tryGrow_none Tryz.laysM251 b ao l cap n w c0 hlc hcap hn
def Tryz.laysM324_ren : Go.Shelf.Ren := ⟨fun | 324 => 127 | n => n, fun | 20 => 20 | 4 => 4 | 75 => 89 | 0 => 0 | 80 => 144 | 9 => 9 | n => n, fun | 14 => 7 | n => n⟩
theorem Tryz.laysM324 : Go.Proofs.LaysM.n324 Tryz.prog Tryz.laysM324_ren := {
  mixed := by kernel_rfl
  f324 := Tryz.func127.trans (congrArg some (by kernel_rfl))
  t0 := Tryz.underlying0
  a0 := Tryz.isAgg0
  z0 := Tryz.sizeOf0
  v0 := Tryz.zeroValue0
  t4 := Tryz.underlying4
  a4 := Tryz.isAgg4
  z4 := Tryz.sizeOf4
  v4 := Tryz.zeroValue4
  t20 := Tryz.underlying20
  a20 := Tryz.isAgg20
  z20 := Tryz.sizeOf20
  v20 := Tryz.zeroValue20
  t75 := Tryz.underlying89
  a75 := Tryz.isAgg89
  z75 := Tryz.sizeOf89
  v75 := Tryz.zeroValue89
  g14 := by kernel_rfl
  t9 := Tryz.underlying9
  a9 := Tryz.isAgg9
  z9 := Tryz.sizeOf9
  v9 := Tryz.zeroValue9
  t80 := Tryz.underlying144
  a80 := Tryz.isAgg144
  z80 := Tryz.sizeOf144
  v80 := Tryz.zeroValue144
  i0 := by kernel_rfl
  i4 := by kernel_rfl
  i9 := by kernel_rfl
  i20 := by kernel_rfl
  i75 := by kernel_rfl
  i80 := by kernel_rfl
  m14 := by kernel_rfl }
theorem Tryz.growSlice_catch_idle (w : World) :
    CallsD Tryz.prog 127 #[] .returning w fun e u' w' => e = .returned (.tuple #[]) ∧ u' = .returning ∧ w' = w := Any.growSlice_catch_idle Tryz.laysM324 w
def Tryz.laysM290_ren : Go.Shelf.Ren := ⟨fun | 290 => 118 | 324 => 127 | n => n, fun | 37 => 34 | 3 => 3 | 0 => 0 | 4 => 4 | 20 => 20 | 75 => 89 | 5 => 5 | 80 => 144 | 9 => 9 | n => n, fun | 14 => 7 | n => n⟩
theorem Tryz.laysM290 : Go.Proofs.LaysM.n290 Tryz.prog Tryz.laysM290_ren := {
  mixed := by kernel_rfl
  f290 := Tryz.func118.trans (congrArg some (by kernel_rfl))
  f324 := Tryz.func127.trans (congrArg some (by kernel_rfl))
  t0 := Tryz.underlying0
  a0 := Tryz.isAgg0
  z0 := Tryz.sizeOf0
  v0 := Tryz.zeroValue0
  t3 := Tryz.underlying3
  a3 := Tryz.isAgg3
  z3 := Tryz.sizeOf3
  v3 := Tryz.zeroValue3
  t4 := Tryz.underlying4
  a4 := Tryz.isAgg4
  z4 := Tryz.sizeOf4
  v4 := Tryz.zeroValue4
  t20 := Tryz.underlying20
  a20 := Tryz.isAgg20
  z20 := Tryz.sizeOf20
  v20 := Tryz.zeroValue20
  t37 := Tryz.underlying34
  a37 := Tryz.isAgg34
  z37 := Tryz.sizeOf34
  v37 := Tryz.zeroValue34
  t75 := Tryz.underlying89
  a75 := Tryz.isAgg89
  z75 := Tryz.sizeOf89
  v75 := Tryz.zeroValue89
  g14 := by kernel_rfl
  t5 := Tryz.underlying5
  a5 := Tryz.isAgg5
  z5 := Tryz.sizeOf5
  v5 := Tryz.zeroValue5
  t9 := Tryz.underlying9
  a9 := Tryz.isAgg9
  z9 := Tryz.sizeOf9
  v9 := Tryz.zeroValue9
  t80 := Tryz.underlying144
  a80 := Tryz.isAgg144
  z80 := Tryz.sizeOf144
  v80 := Tryz.zeroValue144
  i0 := by kernel_rfl
  i3 := by kernel_rfl
  i4 := by kernel_rfl
  i5 := by kernel_rfl
  i9 := by kernel_rfl
  i20 := by kernel_rfl
  i37 := by kernel_rfl
  i75 := by kernel_rfl
  i80 := by kernel_rfl
  m14 := by kernel_rfl }
open Go.RowKit in
/-- bytes.growSlice: "growSlice grows b by n, preserving the original content of b.": OF A SLICE THAT LIES AT THE HEAD OF A ROW: a new row, number 'w.heap.size': it begins with b's l cells; its capacity has room for n more; whatever lay below is as it was. (LAID: no walk: one application.) -/
theorem Tryz.bytes_growSlice_row (g l c n : Nat) (cur : Array Value) (w : World) (hg : w.heap[g]? = some (.cells cur 5 (0, 0))) (hcs : cur.size = c) (hlc : l ≤ c) (hn : 1 ≤ n) (hlim : l + n ≤ 140737488355328) (hc2 : c ≤ 140737488355328) (h1 : ∀ v ∈ cur.toList.take l, v.oneCell' = true) :
    Calls Tryz.prog 118 #[.slice (some ⟨g, 0, none⟩) l c, .int .i64 n] w fun e w' => ∃ cap2 cells, e = .returned (.slice (some ⟨w.heap.size, 0, none⟩) l cap2) ∧ w'.heap[w.heap.size]? = some (.cells cells 5 (0, 0)) ∧
      cells.size = cap2 ∧ cells.toList.take l = cur.toList.take l ∧ l + n ≤ cap2 ∧ cap2 ≤ maxLen ∧ Below w.heap.size w w' := Any.bytes_growSlice_row Tryz.laysM290 g l c n cur w hg hcs hlc hn hlim hc2 h1
open Go.RowKit in
/-- .. OF THE NIL SLICE: a new row with room for n. (LAID: no walk: one application.) -/
theorem Tryz.bytes_growSlice_nil (n : Nat) (w : World) (hn : 1 ≤ n) (hlim : n ≤ 140737488355328) :
    Calls Tryz.prog 118 #[.slice none 0 0, .int .i64 n] w fun e w' => ∃ cap2 cells, e = .returned (.slice (some ⟨w.heap.size, 0, none⟩) 0 cap2) ∧ w'.heap[w.heap.size]? = some (.cells cells 5 (0, 0)) ∧
      cells.size = cap2 ∧ n ≤ cap2 ∧ cap2 ≤ maxLen ∧ Below w.heap.size w w' := Any.bytes_growSlice_nil Tryz.laysM290 n w hn hlim
def Tryz.laysM182_ren : Go.Shelf.Ren := ⟨fun | 182 => 80 | n => n, fun | 130 => 218 | 9 => 9 | 4 => 4 | 0 => 0 | 93 => 175 | 37 => 34 | 3 => 3 | 91 => 173 | 5 => 5 | n => n, fun | n => n⟩
theorem Tryz.laysM182 : Go.Proofs.LaysM.n182 Tryz.prog Tryz.laysM182_ren := {
  mixed := by kernel_rfl
  f182 := Tryz.func80.trans (congrArg some (by kernel_rfl))
  t0 := Tryz.underlying0
  a0 := Tryz.isAgg0
  z0 := Tryz.sizeOf0
  v0 := Tryz.zeroValue0
  t3 := Tryz.underlying3
  a3 := Tryz.isAgg3
  z3 := Tryz.sizeOf3
  v3 := Tryz.zeroValue3
  t4 := Tryz.underlying4
  a4 := Tryz.isAgg4
  z4 := Tryz.sizeOf4
  v4 := Tryz.zeroValue4
  t9 := Tryz.underlying9
  a9 := Tryz.isAgg9
  z9 := Tryz.sizeOf9
  v9 := Tryz.zeroValue9
  t37 := Tryz.underlying34
  a37 := Tryz.isAgg34
  z37 := Tryz.sizeOf34
  v37 := Tryz.zeroValue34
  t93 := Tryz.underlying175
  a93 := Tryz.isAgg175
  z93 := Tryz.sizeOf175
  v93 := Tryz.zeroValue175
  t130 := Tryz.underlying218
  a130 := Tryz.isAgg218
  z130 := Tryz.sizeOf218
  v130 := Tryz.zeroValue218
  t5 := Tryz.underlying5
  a5 := Tryz.isAgg5
  z5 := Tryz.sizeOf5
  v5 := Tryz.zeroValue5
  t91 := Tryz.underlying173
  a91 := Tryz.isAgg173
  z91 := Tryz.sizeOf173
  v91 := Tryz.zeroValue173
  i0 := by kernel_rfl
  i3 := by kernel_rfl
  i4 := by kernel_rfl
  i5 := by kernel_rfl
  i9 := by kernel_rfl
  i37 := by kernel_rfl
  i91 := by kernel_rfl
  i93 := by kernel_rfl
  i130 := by kernel_rfl }
open Go.RowKit in
/-- (*bytes.Buffer).String: "String returns the contents of the unread portion of the buffer as a string.": THE BYTES THAT WERE WRITTEN. The world is as it was but for the count of draws (the statement has two reads: its order is drawn). (LAID: no walk: one application.) -/
theorem Tryz.Buffer_String (B b : Nat) (l : List UInt8) (w : World) (h : Lib.IsBuffer 175 5 B b (Lib.byteCells l) w) :
    Calls Tryz.prog 80 #[.pointer (some ⟨b, 0, none⟩)] w fun e w' => e = .returned (.string ⟨l.toArray⟩) ∧ ∃ n, w' = w.drewN n := Any.Buffer_String Tryz.laysM182 B b l w h
def Tryz.laysM184_ren : Go.Shelf.Ren := ⟨fun | 184 => 47 | n => n, fun | 130 => 218 | 0 => 0 | 93 => 175 | 37 => 34 | 3 => 3 | 91 => 173 | 5 => 5 | n => n, fun | n => n⟩
theorem Tryz.laysM184 : Go.Proofs.LaysM.n184 Tryz.prog Tryz.laysM184_ren := {
  mixed := by kernel_rfl
  f184 := Tryz.func47.trans (congrArg some (by kernel_rfl))
  t0 := Tryz.underlying0
  a0 := Tryz.isAgg0
  z0 := Tryz.sizeOf0
  v0 := Tryz.zeroValue0
  t3 := Tryz.underlying3
  a3 := Tryz.isAgg3
  z3 := Tryz.sizeOf3
  v3 := Tryz.zeroValue3
  t37 := Tryz.underlying34
  a37 := Tryz.isAgg34
  z37 := Tryz.sizeOf34
  v37 := Tryz.zeroValue34
  t91 := Tryz.underlying173
  a91 := Tryz.isAgg173
  z91 := Tryz.sizeOf173
  v91 := Tryz.zeroValue173
  t93 := Tryz.underlying175
  a93 := Tryz.isAgg175
  z93 := Tryz.sizeOf175
  v93 := Tryz.zeroValue175
  t130 := Tryz.underlying218
  a130 := Tryz.isAgg218
  z130 := Tryz.sizeOf218
  v130 := Tryz.zeroValue218
  t5 := Tryz.underlying5
  a5 := Tryz.isAgg5
  z5 := Tryz.sizeOf5
  v5 := Tryz.zeroValue5
  i0 := by kernel_rfl
  i3 := by kernel_rfl
  i5 := by kernel_rfl
  i37 := by kernel_rfl
  i91 := by kernel_rfl
  i93 := by kernel_rfl
  i130 := by kernel_rfl }
open Go.RowKit in
/-- (*bytes.Buffer).Reset: "Reset resets the buffer to be empty, but it retains the underlying storage for use by future writes." (LAID: no walk: one application.) -/
theorem Tryz.Buffer_Reset (B b : Nat) (bs : List Value) (w : World) (h : Lib.IsBuffer 175 5 B b bs w) :
    Calls Tryz.prog 47 #[.pointer (some ⟨b, 0, none⟩)] w fun e w' => e = .returned (.tuple #[]) ∧ Lib.IsBuffer 175 5 B b [] w' ∧ Below B w w' := Any.Buffer_Reset Tryz.laysM184 B b bs w h
def Tryz.laysM316_ren : Go.Shelf.Ren := ⟨fun | 316 => 210 | n => n, fun | 9 => 9 | 3 => 3 | 4 => 4 | 37 => 34 | 0 => 0 | 127 => 289 | 5 => 5 | n => n, fun | n => n⟩
theorem Tryz.laysM316 : Go.Proofs.LaysM.n316 Tryz.prog Tryz.laysM316_ren := {
  mixed := by kernel_rfl
  f316 := Tryz.func210.trans (congrArg some (by kernel_rfl))
  t0 := Tryz.underlying0
  a0 := Tryz.isAgg0
  z0 := Tryz.sizeOf0
  v0 := Tryz.zeroValue0
  t3 := Tryz.underlying3
  a3 := Tryz.isAgg3
  z3 := Tryz.sizeOf3
  v3 := Tryz.zeroValue3
  t4 := Tryz.underlying4
  a4 := Tryz.isAgg4
  z4 := Tryz.sizeOf4
  v4 := Tryz.zeroValue4
  t9 := Tryz.underlying9
  a9 := Tryz.isAgg9
  z9 := Tryz.sizeOf9
  v9 := Tryz.zeroValue9
  t37 := Tryz.underlying34
  a37 := Tryz.isAgg34
  z37 := Tryz.sizeOf34
  v37 := Tryz.zeroValue34
  t127 := Tryz.underlying289
  a127 := Tryz.isAgg289
  z127 := Tryz.sizeOf289
  v127 := Tryz.zeroValue289
  t5 := Tryz.underlying5
  a5 := Tryz.isAgg5
  z5 := Tryz.sizeOf5
  v5 := Tryz.zeroValue5
  i0 := by kernel_rfl
  i3 := by kernel_rfl
  i4 := by kernel_rfl
  i5 := by kernel_rfl
  i9 := by kernel_rfl
  i37 := by kernel_rfl
  i127 := by kernel_rfl }
open Go.RowKit in
/-- internal/stringslite.Clone (what strings.Clone calls): "Clone returns a fresh copy of s.": THE SAME BYTES. Of what was there nothing has turned (a new row is laid, and frozen, where s is not empty). (LAID: no walk: one application.) -/
theorem Tryz.stringslite_Clone (s : ByteArray) (w : World) (hlim : s.size ≤ 281474976710656) :
    Calls Tryz.prog 210 #[.string s] w fun e w' => e = .returned (.string s) ∧ Below w.heap.size w w' := Any.stringslite_Clone Tryz.laysM316 s w hlim
def Tryz.laysM279_ren : Go.Shelf.Ren := ⟨fun | 279 => 206 | 316 => 210 | n => n, fun | 9 => 9 | 168 => 329 | 75 => 89 | 210 => 333 | 3 => 3 | 4 => 4 | 37 => 34 | 0 => 0 | 127 => 289 | 80 => 144 | 5 => 5 | n => n, fun | 15 => 0 | n => n⟩
theorem Tryz.laysM279 : Go.Proofs.LaysM.n279 Tryz.prog Tryz.laysM279_ren := {
  mixed := by kernel_rfl
  f279 := Tryz.func206.trans (congrArg some (by kernel_rfl))
  f316 := Tryz.func210.trans (congrArg some (by kernel_rfl))
  t0 := Tryz.underlying0
  a0 := Tryz.isAgg0
  z0 := Tryz.sizeOf0
  v0 := Tryz.zeroValue0
  t3 := Tryz.underlying3
  a3 := Tryz.isAgg3
  z3 := Tryz.sizeOf3
  v3 := Tryz.zeroValue3
  t4 := Tryz.underlying4
  a4 := Tryz.isAgg4
  z4 := Tryz.sizeOf4
  v4 := Tryz.zeroValue4
  t9 := Tryz.underlying9
  a9 := Tryz.isAgg9
  z9 := Tryz.sizeOf9
  v9 := Tryz.zeroValue9
  t37 := Tryz.underlying34
  a37 := Tryz.isAgg34
  z37 := Tryz.sizeOf34
  v37 := Tryz.zeroValue34
  t75 := Tryz.underlying89
  a75 := Tryz.isAgg89
  z75 := Tryz.sizeOf89
  v75 := Tryz.zeroValue89
  t127 := Tryz.underlying289
  a127 := Tryz.isAgg289
  z127 := Tryz.sizeOf289
  v127 := Tryz.zeroValue289
  t168 := Tryz.underlying329
  a168 := Tryz.isAgg329
  z168 := Tryz.sizeOf329
  v168 := Tryz.zeroValue329
  t210 := Tryz.underlying333
  a210 := Tryz.isAgg333
  z210 := Tryz.sizeOf333
  v210 := Tryz.zeroValue333
  g15 := by kernel_rfl
  t5 := Tryz.underlying5
  a5 := Tryz.isAgg5
  z5 := Tryz.sizeOf5
  v5 := Tryz.zeroValue5
  t80 := Tryz.underlying144
  a80 := Tryz.isAgg144
  z80 := Tryz.sizeOf144
  v80 := Tryz.zeroValue144
  i0 := by kernel_rfl
  i3 := by kernel_rfl
  i4 := by kernel_rfl
  i5 := by kernel_rfl
  i9 := by kernel_rfl
  i37 := by kernel_rfl
  i75 := by kernel_rfl
  i80 := by kernel_rfl
  i127 := by kernel_rfl
  i168 := by kernel_rfl
  i210 := by kernel_rfl
  m15 := by kernel_rfl }
open Go.RowKit in
/-- strconv.syntaxError: '&NumError{fn, stringslite.Clone(str), ErrSyntax}': A POINTER TO A NEW BLOCK that holds fn, str's bytes, and what the variable ErrSyntax holds. Of what was there nothing has turned. (LAID: no walk: one application.) -/
theorem Tryz.strconv_syntaxError (fn s : ByteArray) (ev : Value) (w : World) (hlim : s.size ≤ 281474976710656) (hv : w.cell? ⟨0, 0, none⟩ = some ev) (hev : ev = .nilIface ∨ ∃ te pe, ev = .iface te pe) :
    Calls Tryz.prog 206 #[.string fn, .string s] w fun e w' => ∃ N, e = .returned (.pointer (some ⟨N, 0, none⟩)) ∧ w.heap.size ≤ N ∧ w'.heap[N]? = some (.cells #[.string fn, .string s, ev] 333 (0, 0)) ∧ Below w.heap.size w w' := Any.strconv_syntaxError Tryz.laysM279 fn s ev w hlim hv hev
def Tryz.lays321_ren : Go.Shelf.Ren := ⟨fun | 321 => 204 | n => n, fun | 5 => 5 | n => n, fun | n => n⟩
theorem Tryz.lays321 : Go.Proofs.Lays.n321 Tryz.prog Tryz.lays321_ren := {
  mixed := by kernel_rfl
  f321 := Tryz.func204.trans (congrArg some (by kernel_rfl))
  t5 := Tryz.underlying5
  a5 := Tryz.isAgg5
  z5 := Tryz.sizeOf5
  v5 := Tryz.zeroValue5 }
open Go.RowKit in
/-- internal/strconv.lower: 'c | ('x' - 'X')': the bit 32 set. The world is as it was. (LAID: no walk: one application.) -/
theorem Tryz.internal_strconv_lower (c : Int) (w : World) :
    Calls Tryz.prog 204 #[.int .u8 c] w fun e w' => e = .returned (.int .u8 (bits .or .u8 c 32)) ∧ w' = w := Any.internal_strconv_lower Tryz.lays321 c w
def Tryz.lays287_ren : Go.Shelf.Ren := ⟨fun | 287 => 202 | 321 => 204 | 322 => 205 | n => n, fun | 9 => 9 | 3 => 3 | 53 => 177 | 75 => 89 | 4 => 4 | 167 => 327 | 5 => 5 | 46 => 168 | 37 => 34 | 0 => 0 | 21 => 21 | 80 => 144 | n => n, fun | n => n⟩
theorem Tryz.lays287 : Go.Proofs.Lays.n287 Tryz.prog Tryz.lays287_ren := {
  mixed := by kernel_rfl
  f287 := Tryz.func202.trans (congrArg some (by kernel_rfl))
  f321 := Tryz.func204.trans (congrArg some (by kernel_rfl))
  f322 := Tryz.func205.trans (congrArg some (by kernel_rfl))
  t0 := Tryz.underlying0
  a0 := Tryz.isAgg0
  z0 := Tryz.sizeOf0
  v0 := Tryz.zeroValue0
  t3 := Tryz.underlying3
  a3 := Tryz.isAgg3
  z3 := Tryz.sizeOf3
  v3 := Tryz.zeroValue3
  t4 := Tryz.underlying4
  a4 := Tryz.isAgg4
  z4 := Tryz.sizeOf4
  v4 := Tryz.zeroValue4
  t5 := Tryz.underlying5
  a5 := Tryz.isAgg5
  z5 := Tryz.sizeOf5
  v5 := Tryz.zeroValue5
  t9 := Tryz.underlying9
  a9 := Tryz.isAgg9
  z9 := Tryz.sizeOf9
  v9 := Tryz.zeroValue9
  t21 := Tryz.underlying21
  a21 := Tryz.isAgg21
  z21 := Tryz.sizeOf21
  v21 := Tryz.zeroValue21
  t37 := Tryz.underlying34
  a37 := Tryz.isAgg34
  z37 := Tryz.sizeOf34
  v37 := Tryz.zeroValue34
  t46 := Tryz.underlying168
  a46 := Tryz.isAgg168
  z46 := Tryz.sizeOf168
  v46 := Tryz.zeroValue168
  t53 := Tryz.underlying177
  a53 := Tryz.isAgg177
  z53 := Tryz.sizeOf177
  v53 := Tryz.zeroValue177
  t75 := Tryz.underlying89
  a75 := Tryz.isAgg89
  z75 := Tryz.sizeOf89
  v75 := Tryz.zeroValue89
  t167 := Tryz.underlying327
  a167 := Tryz.isAgg327
  z167 := Tryz.sizeOf327
  v167 := Tryz.zeroValue327 }
open Go.RowKit in
/-- internal/strconv.ParseUint(s, 10, 0), s NOT EMPTY: 'Lib.parseUint10 0' OF ITS BYTES: the number; or (0, ErrSyntax); or (the greatest uint64, ErrRange). The world behind the call: the one new row that '[]byte(s)' lays. (LAID: no walk: one application.) -/
theorem Tryz.internal_strconv_ParseUint_10 (t : ByteArray) (hne : t.size ≠ 0) (hmax : t.size ≤ 9223372036854775806) (w : World) :
    Calls Tryz.prog 202 #[.string t, .int .i64 10, .int .i64 0] w fun e w' => e = .returned (Lib.uintTuple 327 (Lib.parseUint10 0 t.data.toList)) ∧ w' = Lib.bytesWorld w 5 t := Any.internal_strconv_ParseUint_10 Tryz.lays287 t hne hmax w
open Go.RowKit in
/-- internal/strconv.ParseUint("", 10, 0): (0, ErrSyntax). The world is as it was. (LAID: no walk: one application.) -/
theorem Tryz.internal_strconv_ParseUint_10_empty (w : World) :
    Calls Tryz.prog 202 #[.string ⟨#[]⟩, .int .i64 10, .int .i64 0] w fun e w' => e = .returned (Lib.uintTuple 327 .syntax) ∧ w' = w := Any.internal_strconv_ParseUint_10_empty Tryz.lays287 w
def Tryz.laysM280_ren : Go.Shelf.Ren := ⟨fun | 280 => 207 | 316 => 210 | n => n, fun | 9 => 9 | 168 => 329 | 75 => 89 | 210 => 333 | 3 => 3 | 4 => 4 | 37 => 34 | 0 => 0 | 127 => 289 | 80 => 144 | 5 => 5 | n => n, fun | 16 => 14 | n => n⟩
theorem Tryz.laysM280 : Go.Proofs.LaysM.n280 Tryz.prog Tryz.laysM280_ren := {
  mixed := by kernel_rfl
  f280 := Tryz.func207.trans (congrArg some (by kernel_rfl))
  f316 := Tryz.func210.trans (congrArg some (by kernel_rfl))
  t0 := Tryz.underlying0
  a0 := Tryz.isAgg0
  z0 := Tryz.sizeOf0
  v0 := Tryz.zeroValue0
  t3 := Tryz.underlying3
  a3 := Tryz.isAgg3
  z3 := Tryz.sizeOf3
  v3 := Tryz.zeroValue3
  t4 := Tryz.underlying4
  a4 := Tryz.isAgg4
  z4 := Tryz.sizeOf4
  v4 := Tryz.zeroValue4
  t9 := Tryz.underlying9
  a9 := Tryz.isAgg9
  z9 := Tryz.sizeOf9
  v9 := Tryz.zeroValue9
  t37 := Tryz.underlying34
  a37 := Tryz.isAgg34
  z37 := Tryz.sizeOf34
  v37 := Tryz.zeroValue34
  t75 := Tryz.underlying89
  a75 := Tryz.isAgg89
  z75 := Tryz.sizeOf89
  v75 := Tryz.zeroValue89
  t127 := Tryz.underlying289
  a127 := Tryz.isAgg289
  z127 := Tryz.sizeOf289
  v127 := Tryz.zeroValue289
  t168 := Tryz.underlying329
  a168 := Tryz.isAgg329
  z168 := Tryz.sizeOf329
  v168 := Tryz.zeroValue329
  t210 := Tryz.underlying333
  a210 := Tryz.isAgg333
  z210 := Tryz.sizeOf333
  v210 := Tryz.zeroValue333
  g16 := by kernel_rfl
  t5 := Tryz.underlying5
  a5 := Tryz.isAgg5
  z5 := Tryz.sizeOf5
  v5 := Tryz.zeroValue5
  t80 := Tryz.underlying144
  a80 := Tryz.isAgg144
  z80 := Tryz.sizeOf144
  v80 := Tryz.zeroValue144
  i0 := by kernel_rfl
  i3 := by kernel_rfl
  i4 := by kernel_rfl
  i5 := by kernel_rfl
  i9 := by kernel_rfl
  i37 := by kernel_rfl
  i75 := by kernel_rfl
  i80 := by kernel_rfl
  i127 := by kernel_rfl
  i168 := by kernel_rfl
  i210 := by kernel_rfl
  m16 := by kernel_rfl }
open Go.RowKit in
/-- strconv.rangeError: '&NumError{fn, stringslite.Clone(str), ErrRange}': A POINTER TO A NEW BLOCK that holds fn, str's bytes, and what the variable ErrRange holds. Of what was there nothing has turned. (LAID: no walk: one application.) -/
theorem Tryz.strconv_rangeError (fn s : ByteArray) (ev : Value) (w : World) (hlim : s.size ≤ 281474976710656) (hv : w.cell? ⟨14, 0, none⟩ = some ev) (hev : ev = .nilIface ∨ ∃ te pe, ev = .iface te pe) :
    Calls Tryz.prog 207 #[.string fn, .string s] w fun e w' => ∃ N, e = .returned (.pointer (some ⟨N, 0, none⟩)) ∧ w.heap.size ≤ N ∧ w'.heap[N]? = some (.cells #[.string fn, .string s, ev] 333 (0, 0)) ∧ Below w.heap.size w w' := Any.strconv_rangeError Tryz.laysM280 fn s ev w hlim hv hev
open Go.RowKit in
/-- internal/strconv.ParseUint("", base, bitSize): (0, ErrSyntax): the first test of the text. The world is as it was. (LAID: no walk: one application.) -/
theorem Tryz.internal_strconv_ParseUint_empty (base bits : Int) (w : World) :
    Calls Tryz.prog 202 #[.string ⟨#[]⟩, .int .i64 base, .int .i64 bits] w fun e w' => e = .returned (.tuple #[.int .u64 0, .iface 327 (.int .i64 2)]) ∧ w' = w := Any.internal_strconv_ParseUint_empty Tryz.lays287 base bits w
open Go.RowKit in
/-- internal/strconv.ParseUint(s, 10, 64), s NOT EMPTY: 'Lib.parseUint10 0' OF ITS BYTES: the number; or (0, ErrSyntax); or (the greatest uint64, ErrRange). The world behind the call: the one new row that '[]byte(s)' lays. (LAID: no walk: one application.) -/
theorem Tryz.internal_strconv_ParseUint_10_b64 (t : ByteArray) (hne : t.size ≠ 0) (hmax : t.size ≤ 9223372036854775806) (w : World) :
    Calls Tryz.prog 202 #[.string t, .int .i64 10, .int .i64 64] w fun e w' => e = .returned (Lib.uintTuple 327 (Lib.parseUint10 0 t.data.toList)) ∧ w' = Lib.bytesWorld w 5 t := Any.internal_strconv_ParseUint_10_b64 Tryz.lays287 t hne hmax w
open Go.RowKit in
/-- internal/strconv.ParseUint(s, 10, 32), s NOT EMPTY: 'Lib.parseUintM 4294967295 0' OF ITS BYTES: the number; or (0, ErrSyntax); or (the greatest uint32, ErrRange). The world behind the call: the one new row that '[]byte(s)' lays. (LAID: no walk: one application.) -/
theorem Tryz.internal_strconv_ParseUint_10_b32 (t : ByteArray) (hne : t.size ≠ 0) (hmax : t.size ≤ 9223372036854775806) (w : World) :
    Calls Tryz.prog 202 #[.string t, .int .i64 10, .int .i64 32] w fun e w' => e = .returned (Lib.uintTupleM 327 4294967295 (Lib.parseUintM 4294967295 0 t.data.toList)) ∧ w' = Lib.bytesWorld w 5 t := Any.internal_strconv_ParseUint_10_b32 Tryz.lays287 t hne hmax w
open Go.RowKit in
/-- internal/strconv.ParseUint(s, 10, 16), s NOT EMPTY: 'Lib.parseUintM 65535 0' OF ITS BYTES: the number; or (0, ErrSyntax); or (the greatest uint16, ErrRange). The world behind the call: the one new row that '[]byte(s)' lays. (LAID: no walk: one application.) -/
theorem Tryz.internal_strconv_ParseUint_10_b16 (t : ByteArray) (hne : t.size ≠ 0) (hmax : t.size ≤ 9223372036854775806) (w : World) :
    Calls Tryz.prog 202 #[.string t, .int .i64 10, .int .i64 16] w fun e w' => e = .returned (Lib.uintTupleM 327 65535 (Lib.parseUintM 65535 0 t.data.toList)) ∧ w' = Lib.bytesWorld w 5 t := Any.internal_strconv_ParseUint_10_b16 Tryz.lays287 t hne hmax w
open Go.RowKit in
/-- internal/strconv.ParseUint(s, 10, 8), s NOT EMPTY: 'Lib.parseUintM 255 0' OF ITS BYTES: the number; or (0, ErrSyntax); or (the greatest uint8, ErrRange). The world behind the call: the one new row that '[]byte(s)' lays. (LAID: no walk: one application.) -/
theorem Tryz.internal_strconv_ParseUint_10_b8 (t : ByteArray) (hne : t.size ≠ 0) (hmax : t.size ≤ 9223372036854775806) (w : World) :
    Calls Tryz.prog 202 #[.string t, .int .i64 10, .int .i64 8] w fun e w' => e = .returned (Lib.uintTupleM 327 255 (Lib.parseUintM 255 0 t.data.toList)) ∧ w' = Lib.bytesWorld w 5 t := Any.internal_strconv_ParseUint_10_b8 Tryz.lays287 t hne hmax w
open Go.RowKit in
/-- (*bytes.Buffer).Reset: "Reset resets the buffer to be empty, but it retains the underlying storage for use by future writes." (LAID: no walk: one application.) -/
theorem Tryz.Buffer_Reset_kept (B b : Nat) (bs : List Value) (w : World) (h : Lib.IsBuffer 175 5 B b bs w) :
    Calls Tryz.prog 47 #[.pointer (some ⟨b, 0, none⟩)] w fun e w' => e = .returned (.tuple #[]) ∧ Lib.IsBuffer 175 5 B b [] w' ∧ Below B w w' ∧ Lib.OthersKept 5 (some b) w w' := Any.Buffer_Reset_kept Tryz.laysM184 B b bs w h
open Go.RowKit in
/-- (*bytes.Buffer).Len: "Len returns the number of bytes of the unread portion of the buffer; b.Len() == len(b.Bytes()).": the world is as it was but for the count of draws (the statement has two reads: its order is drawn). (LAID: no walk: one application.) -/
theorem Tryz.Buffer_Len_at (T : TypeId) (R : Nat → Option Value) (B b q : Nat) (bs : List Value) (w : World) (h : LibA.IsBuffer T R 5 B b q bs w) :
    Calls Tryz.prog 73 #[.pointer (some ⟨b, q, none⟩)] w fun e w' => e = .returned (.int .i64 bs.length) ∧ ∃ n, w' = w.drewN n := Any.Buffer_Len_at Tryz.laysM181 T R B b q bs w h
open Go.RowKit in
/-- (*bytes.Buffer).String: "String returns the contents of the unread portion of the buffer as a string.": THE BYTES THAT WERE WRITTEN. The world is as it was but for the count of draws (the statement has two reads: its order is drawn). (LAID: no walk: one application.) -/
theorem Tryz.Buffer_String_at (T : TypeId) (R : Nat → Option Value) (B b q : Nat) (l : List UInt8) (w : World) (h : LibA.IsBuffer T R 5 B b q (Lib.byteCells l) w) :
    Calls Tryz.prog 80 #[.pointer (some ⟨b, q, none⟩)] w fun e w' => e = .returned (.string ⟨l.toArray⟩) ∧ ∃ n, w' = w.drewN n := Any.Buffer_String_at Tryz.laysM182 T R B b q l w h
open Go.RowKit in
/-- (*bytes.Buffer).tryGrowByReslice: "tryGrowByReslice is an inlineable version of grow for the fast-case where the internal buffer only needs to be resliced. It returns the index where bytes should be written and whether it succeeded.": THERE IS ROOM: 'buf' is resliced to l + n. (LAID: no walk: one application.) -/
theorem Tryz.Buffer_tryGrow_room_at (b q : Nat) (ao : Option Addr) (l cap n : Nat) (w : World) (c0 : w.cell? ⟨b, q, none⟩ = some (.slice ao l cap)) (f0 : w.frozen? ⟨b, q, none⟩ = false) (hlc : l ≤ cap) (hcap : cap ≤ maxLen) (hn : n ≤ cap - l) :
    Calls Tryz.prog 103 #[.pointer (some ⟨b, q, none⟩), .int .i64 n] w fun e w' => e = .returned (.tuple #[.int .i64 l, .bool true]) ∧ w' = w.setCell ⟨b, q, none⟩ (.slice ao (l + n) cap) := Any.Buffer_tryGrow_room_at Tryz.laysM251 b q ao l cap n w c0 f0 hlc hcap hn
open Go.RowKit in
/-- .. THERE IS NONE: nothing turns. (LAID: no walk: one application.) -/
theorem Tryz.Buffer_tryGrow_none_at (b q : Nat) (ao : Option Addr) (l cap n : Nat) (w : World) (c0 : w.cell? ⟨b, q, none⟩ = some (.slice ao l cap)) (hlc : l ≤ cap) (hcap : cap ≤ maxLen) (hn : cap - l < n) :
    Calls Tryz.prog 103 #[.pointer (some ⟨b, q, none⟩), .int .i64 n] w fun e w' => e = .returned (.tuple #[.int .i64 0, .bool false]) ∧ w' = w := Any.Buffer_tryGrow_none_at Tryz.laysM251 b q ao l cap n w c0 hlc hcap hn
def Tryz.lays198_ren : Go.Shelf.Ren := ⟨fun | 198 => 95 | 261 => 115 | 311 => 124 | 312 => 125 | n => n, fun | 21 => 21 | 4 => 4 | 141 => 264 | 0 => 0 | 196 => 273 | 193 => 270 | 3 => 3 | 51 => 247 | 198 => 275 | 49 => 22 | 194 => 271 | 201 => 278 | 226 => 287 | 46 => 168 | 227 => 288 | n => n, fun | 5 => 6 | n => n⟩
theorem Tryz.lays198 : Go.Proofs.Lays.n198 Tryz.prog Tryz.lays198_ren := {
  mixed := by kernel_rfl
  f198 := Tryz.func95.trans (congrArg some (by kernel_rfl))
  f261 := Tryz.func115.trans (congrArg some (by kernel_rfl))
  f311 := Tryz.func124.trans (congrArg some (by kernel_rfl))
  f312 := Tryz.func125.trans (congrArg some (by kernel_rfl))
  t0 := Tryz.underlying0
  a0 := Tryz.isAgg0
  z0 := Tryz.sizeOf0
  v0 := Tryz.zeroValue0
  t3 := Tryz.underlying3
  a3 := Tryz.isAgg3
  z3 := Tryz.sizeOf3
  v3 := Tryz.zeroValue3
  t4 := Tryz.underlying4
  a4 := Tryz.isAgg4
  z4 := Tryz.sizeOf4
  v4 := Tryz.zeroValue4
  t21 := Tryz.underlying21
  a21 := Tryz.isAgg21
  z21 := Tryz.sizeOf21
  v21 := Tryz.zeroValue21
  t46 := Tryz.underlying168
  a46 := Tryz.isAgg168
  z46 := Tryz.sizeOf168
  v46 := Tryz.zeroValue168
  t49 := Tryz.underlying22
  a49 := Tryz.isAgg22
  z49 := Tryz.sizeOf22
  v49 := Tryz.zeroValue22
  t51 := Tryz.underlying247
  a51 := Tryz.isAgg247
  z51 := Tryz.sizeOf247
  v51 := Tryz.zeroValue247
  t141 := Tryz.underlying264
  a141 := Tryz.isAgg264
  z141 := Tryz.sizeOf264
  v141 := Tryz.zeroValue264
  t193 := Tryz.underlying270
  a193 := Tryz.isAgg270
  z193 := Tryz.sizeOf270
  v193 := Tryz.zeroValue270
  t194 := Tryz.underlying271
  a194 := Tryz.isAgg271
  z194 := Tryz.sizeOf271
  v194 := Tryz.zeroValue271
  t196 := Tryz.underlying273
  a196 := Tryz.isAgg273
  z196 := Tryz.sizeOf273
  v196 := Tryz.zeroValue273
  t198 := Tryz.underlying275
  a198 := Tryz.isAgg275
  z198 := Tryz.sizeOf275
  v198 := Tryz.zeroValue275
  t201 := Tryz.underlying278
  a201 := Tryz.isAgg278
  z201 := Tryz.sizeOf278
  v201 := Tryz.zeroValue278
  t226 := Tryz.underlying287
  a226 := Tryz.isAgg287
  z226 := Tryz.sizeOf287
  v226 := Tryz.zeroValue287
  t227 := Tryz.underlying288
  a227 := Tryz.isAgg288
  z227 := Tryz.sizeOf288
  v227 := Tryz.zeroValue288
  g5 := by kernel_rfl }
open Go.RowKit Go.Lib in
theorem Tryz.unicode_IsDigit (r : Int) (w : World) (h : r ≤ 255) :
    Calls Tryz.prog 95 #[.int .i32 r] w fun e w' => e = .returned (.bool (Lib.isDigitL r)) ∧ w' = w := Any.unicode_IsDigit Tryz.lays198 r w h
def Tryz.lays200_ren : Go.Shelf.Ren := ⟨fun | 200 => 94 | 261 => 115 | 311 => 124 | 312 => 125 | n => n, fun | 21 => 21 | 4 => 4 | 51 => 247 | 5 => 5 | 119 => 257 | 0 => 0 | 141 => 264 | 196 => 273 | 193 => 270 | 3 => 3 | 198 => 275 | 49 => 22 | 194 => 271 | 201 => 278 | 226 => 287 | 46 => 168 | 227 => 288 | n => n, fun | 7 => 4 | 8 => 5 | n => n⟩
theorem Tryz.lays200 : Go.Proofs.Lays.n200 Tryz.prog Tryz.lays200_ren := {
  mixed := by kernel_rfl
  f200 := Tryz.func94.trans (congrArg some (by kernel_rfl))
  f261 := Tryz.func115.trans (congrArg some (by kernel_rfl))
  f311 := Tryz.func124.trans (congrArg some (by kernel_rfl))
  f312 := Tryz.func125.trans (congrArg some (by kernel_rfl))
  t0 := Tryz.underlying0
  a0 := Tryz.isAgg0
  z0 := Tryz.sizeOf0
  v0 := Tryz.zeroValue0
  t3 := Tryz.underlying3
  a3 := Tryz.isAgg3
  z3 := Tryz.sizeOf3
  v3 := Tryz.zeroValue3
  t4 := Tryz.underlying4
  a4 := Tryz.isAgg4
  z4 := Tryz.sizeOf4
  v4 := Tryz.zeroValue4
  t5 := Tryz.underlying5
  a5 := Tryz.isAgg5
  z5 := Tryz.sizeOf5
  v5 := Tryz.zeroValue5
  t21 := Tryz.underlying21
  a21 := Tryz.isAgg21
  z21 := Tryz.sizeOf21
  v21 := Tryz.zeroValue21
  t46 := Tryz.underlying168
  a46 := Tryz.isAgg168
  z46 := Tryz.sizeOf168
  v46 := Tryz.zeroValue168
  t49 := Tryz.underlying22
  a49 := Tryz.isAgg22
  z49 := Tryz.sizeOf22
  v49 := Tryz.zeroValue22
  t51 := Tryz.underlying247
  a51 := Tryz.isAgg247
  z51 := Tryz.sizeOf247
  v51 := Tryz.zeroValue247
  t119 := Tryz.underlying257
  a119 := Tryz.isAgg257
  z119 := Tryz.sizeOf257
  t141 := Tryz.underlying264
  a141 := Tryz.isAgg264
  z141 := Tryz.sizeOf264
  v141 := Tryz.zeroValue264
  t193 := Tryz.underlying270
  a193 := Tryz.isAgg270
  z193 := Tryz.sizeOf270
  v193 := Tryz.zeroValue270
  t194 := Tryz.underlying271
  a194 := Tryz.isAgg271
  z194 := Tryz.sizeOf271
  v194 := Tryz.zeroValue271
  t196 := Tryz.underlying273
  a196 := Tryz.isAgg273
  z196 := Tryz.sizeOf273
  v196 := Tryz.zeroValue273
  t198 := Tryz.underlying275
  a198 := Tryz.isAgg275
  z198 := Tryz.sizeOf275
  v198 := Tryz.zeroValue275
  t201 := Tryz.underlying278
  a201 := Tryz.isAgg278
  z201 := Tryz.sizeOf278
  v201 := Tryz.zeroValue278
  t226 := Tryz.underlying287
  a226 := Tryz.isAgg287
  z226 := Tryz.sizeOf287
  v226 := Tryz.zeroValue287
  t227 := Tryz.underlying288
  a227 := Tryz.isAgg288
  z227 := Tryz.sizeOf288
  v227 := Tryz.zeroValue288
  g7 := by kernel_rfl
  g8 := by kernel_rfl }
open Go.RowKit Go.Lib in
theorem Tryz.unicode_IsLetter (c : Nat) (w : World) (hc : c < 256) (htab : Lib.TabIs Tryz.prog w "unicode.properties" .u8 Lib.propertiesTab) :
    Calls Tryz.prog 94 #[.int .i32 c] w fun e w' => e = .returned (.bool (Lib.isLetterL c)) ∧ w' = w := Any.unicode_IsLetter Tryz.lays200 (by kernel_rfl) c w hc htab
def Tryz.laysM200_ren : Go.Shelf.Ren := ⟨fun | 200 => 94 | 261 => 115 | 311 => 124 | 312 => 125 | n => n, fun | 21 => 21 | 4 => 4 | 51 => 247 | 5 => 5 | 119 => 257 | 0 => 0 | 141 => 264 | 196 => 273 | 193 => 270 | 3 => 3 | 198 => 275 | 49 => 22 | 194 => 271 | 201 => 278 | 226 => 287 | 46 => 168 | 227 => 288 | n => n, fun | 7 => 4 | 8 => 5 | n => n⟩
theorem Tryz.laysM200 : Go.Proofs.LaysM.n200 Tryz.prog Tryz.laysM200_ren := {
  mixed := by kernel_rfl
  f200 := Tryz.func94.trans (congrArg some (by kernel_rfl))
  f261 := Tryz.func115.trans (congrArg some (by kernel_rfl))
  f311 := Tryz.func124.trans (congrArg some (by kernel_rfl))
  f312 := Tryz.func125.trans (congrArg some (by kernel_rfl))
  t0 := Tryz.underlying0
  a0 := Tryz.isAgg0
  z0 := Tryz.sizeOf0
  v0 := Tryz.zeroValue0
  t3 := Tryz.underlying3
  a3 := Tryz.isAgg3
  z3 := Tryz.sizeOf3
  v3 := Tryz.zeroValue3
  t4 := Tryz.underlying4
  a4 := Tryz.isAgg4
  z4 := Tryz.sizeOf4
  v4 := Tryz.zeroValue4
  t5 := Tryz.underlying5
  a5 := Tryz.isAgg5
  z5 := Tryz.sizeOf5
  v5 := Tryz.zeroValue5
  t21 := Tryz.underlying21
  a21 := Tryz.isAgg21
  z21 := Tryz.sizeOf21
  v21 := Tryz.zeroValue21
  t46 := Tryz.underlying168
  a46 := Tryz.isAgg168
  z46 := Tryz.sizeOf168
  v46 := Tryz.zeroValue168
  t49 := Tryz.underlying22
  a49 := Tryz.isAgg22
  z49 := Tryz.sizeOf22
  v49 := Tryz.zeroValue22
  t51 := Tryz.underlying247
  a51 := Tryz.isAgg247
  z51 := Tryz.sizeOf247
  v51 := Tryz.zeroValue247
  t119 := Tryz.underlying257
  a119 := Tryz.isAgg257
  z119 := Tryz.sizeOf257
  t141 := Tryz.underlying264
  a141 := Tryz.isAgg264
  z141 := Tryz.sizeOf264
  v141 := Tryz.zeroValue264
  t193 := Tryz.underlying270
  a193 := Tryz.isAgg270
  z193 := Tryz.sizeOf270
  v193 := Tryz.zeroValue270
  t194 := Tryz.underlying271
  a194 := Tryz.isAgg271
  z194 := Tryz.sizeOf271
  v194 := Tryz.zeroValue271
  t196 := Tryz.underlying273
  a196 := Tryz.isAgg273
  z196 := Tryz.sizeOf273
  v196 := Tryz.zeroValue273
  t198 := Tryz.underlying275
  a198 := Tryz.isAgg275
  z198 := Tryz.sizeOf275
  v198 := Tryz.zeroValue275
  t201 := Tryz.underlying278
  a201 := Tryz.isAgg278
  z201 := Tryz.sizeOf278
  v201 := Tryz.zeroValue278
  t226 := Tryz.underlying287
  a226 := Tryz.isAgg287
  z226 := Tryz.sizeOf287
  v226 := Tryz.zeroValue287
  t227 := Tryz.underlying288
  a227 := Tryz.isAgg288
  z227 := Tryz.sizeOf288
  v227 := Tryz.zeroValue288
  g7 := by kernel_rfl
  g8 := by kernel_rfl
  i0 := by kernel_rfl
  i3 := by kernel_rfl
  i4 := by kernel_rfl
  i5 := by kernel_rfl
  i21 := by kernel_rfl
  i46 := by kernel_rfl
  i49 := by kernel_rfl
  i51 := by kernel_rfl
  i141 := by kernel_rfl
  i193 := by kernel_rfl
  i194 := by kernel_rfl
  i196 := by kernel_rfl
  i198 := by kernel_rfl
  i201 := by kernel_rfl
  i226 := by kernel_rfl
  i227 := by kernel_rfl
  m7 := by kernel_rfl
  m8 := by kernel_rfl }
open Go.RowKit Go.Lib in
theorem Tryz.unicode_IsLetter_laid (c : Nat) (w : World) (hc : c < 256) (htab : Lib.TabIs Tryz.prog w "unicode.properties" .u8 Lib.propertiesTab) :
    Calls Tryz.prog 94 #[.int .i32 c] w fun e w' => e = .returned (.bool (Lib.isLetterL c)) ∧ w' = w := Any.unicode_IsLetter_laid Tryz.laysM200 c w hc htab
def Tryz.lays197_ren : Go.Shelf.Ren := ⟨fun | 197 => 88 | 260 => 110 | n => n, fun | 9 => 9 | 21 => 21 | 3 => 3 | 4 => 4 | 5 => 5 | 105 => 235 | 119 => 257 | 0 => 0 | 46 => 168 | 139 => 260 | 138 => 259 | n => n, fun | 3 => 2 | 4 => 3 | n => n⟩
theorem Tryz.lays197 : Go.Proofs.Lays.n197 Tryz.prog Tryz.lays197_ren := {
  mixed := by kernel_rfl
  f197 := Tryz.func88.trans (congrArg some (by kernel_rfl))
  f260 := Tryz.func110.trans (congrArg some (by kernel_rfl))
  t0 := Tryz.underlying0
  a0 := Tryz.isAgg0
  z0 := Tryz.sizeOf0
  v0 := Tryz.zeroValue0
  t3 := Tryz.underlying3
  a3 := Tryz.isAgg3
  z3 := Tryz.sizeOf3
  v3 := Tryz.zeroValue3
  t4 := Tryz.underlying4
  a4 := Tryz.isAgg4
  z4 := Tryz.sizeOf4
  v4 := Tryz.zeroValue4
  t5 := Tryz.underlying5
  a5 := Tryz.isAgg5
  z5 := Tryz.sizeOf5
  v5 := Tryz.zeroValue5
  t9 := Tryz.underlying9
  a9 := Tryz.isAgg9
  z9 := Tryz.sizeOf9
  v9 := Tryz.zeroValue9
  t21 := Tryz.underlying21
  a21 := Tryz.isAgg21
  z21 := Tryz.sizeOf21
  v21 := Tryz.zeroValue21
  t46 := Tryz.underlying168
  a46 := Tryz.isAgg168
  z46 := Tryz.sizeOf168
  v46 := Tryz.zeroValue168
  t105 := Tryz.underlying235
  a105 := Tryz.isAgg235
  z105 := Tryz.sizeOf235
  v105 := Tryz.zeroValue235
  t119 := Tryz.underlying257
  a119 := Tryz.isAgg257
  z119 := Tryz.sizeOf257
  t138 := Tryz.underlying259
  a138 := Tryz.isAgg259
  z138 := Tryz.sizeOf259
  v138 := Tryz.zeroValue259
  t139 := Tryz.underlying260
  a139 := Tryz.isAgg260
  z139 := Tryz.sizeOf260
  v139 := Tryz.zeroValue260
  g3 := by kernel_rfl
  g4 := by kernel_rfl }
open Go.RowKit Go.Lib in
/-- unicode/utf8.DecodeRuneInString: "DecodeRuneInString is like DecodeRune but its input is a string.": ("DecodeRune unpacks the first UTF-8 encoding in p and returns the rune and its width in bytes."): WHERE s BEGINS WITH AN ASCII BYTE x: (x, 1). (LAID: no walk: one application.) -/
theorem Tryz.utf8_DecodeRuneInString_ascii (s : ByteArray) (x : UInt8) (w : World) (h0 : s.data.toList[0]? = some x) (hx : x.toNat < 128) :
    Calls Tryz.prog 88 #[.string s] w fun e w' => e = .returned (.tuple #[.int .i32 x.toNat, .int .i64 1]) ∧ w' = w := Any.utf8_DecodeRuneInString_ascii Tryz.lays197 s x w h0 hx
def Tryz.lays260_ren : Go.Shelf.Ren := ⟨fun | 260 => 110 | n => n, fun | 9 => 9 | 21 => 21 | 3 => 3 | 4 => 4 | 5 => 5 | 119 => 257 | 0 => 0 | 46 => 168 | 139 => 260 | 138 => 259 | n => n, fun | 3 => 2 | 4 => 3 | n => n⟩
theorem Tryz.lays260 : Go.Proofs.Lays.n260 Tryz.prog Tryz.lays260_ren := {
  mixed := by kernel_rfl
  f260 := Tryz.func110.trans (congrArg some (by kernel_rfl))
  t0 := Tryz.underlying0
  a0 := Tryz.isAgg0
  z0 := Tryz.sizeOf0
  v0 := Tryz.zeroValue0
  t3 := Tryz.underlying3
  a3 := Tryz.isAgg3
  z3 := Tryz.sizeOf3
  v3 := Tryz.zeroValue3
  t4 := Tryz.underlying4
  a4 := Tryz.isAgg4
  z4 := Tryz.sizeOf4
  v4 := Tryz.zeroValue4
  t5 := Tryz.underlying5
  a5 := Tryz.isAgg5
  z5 := Tryz.sizeOf5
  v5 := Tryz.zeroValue5
  t9 := Tryz.underlying9
  a9 := Tryz.isAgg9
  z9 := Tryz.sizeOf9
  v9 := Tryz.zeroValue9
  t21 := Tryz.underlying21
  a21 := Tryz.isAgg21
  z21 := Tryz.sizeOf21
  v21 := Tryz.zeroValue21
  t46 := Tryz.underlying168
  a46 := Tryz.isAgg168
  z46 := Tryz.sizeOf168
  v46 := Tryz.zeroValue168
  t119 := Tryz.underlying257
  a119 := Tryz.isAgg257
  z119 := Tryz.sizeOf257
  t138 := Tryz.underlying259
  a138 := Tryz.isAgg259
  z138 := Tryz.sizeOf259
  v138 := Tryz.zeroValue259
  t139 := Tryz.underlying260
  a139 := Tryz.isAgg260
  z139 := Tryz.sizeOf260
  v139 := Tryz.zeroValue260
  g3 := by kernel_rfl
  g4 := by kernel_rfl }
open Go.RowKit Go.Lib in
theorem Tryz.utf8_decodeRuneInStringSlow (s : ByteArray) (w : World) (hT : Lib.Utf8Tabs 2 3 w) :
    Calls Tryz.prog 110 #[.string s] w fun e w' => e = .returned (.tuple #[.int .i32 (Lib.decodeGo s).1, .int .i64 (Lib.decodeGo s).2]) ∧ Below w.heap.size w w' := Any.utf8_decodeRuneInStringSlow Tryz.lays260 s w hT
open Go.RowKit Go.Lib in
/-- **unicode/utf8.DecodeRuneInString AT EVERY STRING.** (LAID: no walk: one application.) -/
theorem Tryz.utf8_DecodeRuneInString (s : ByteArray) (w : World) (hT : Lib.Utf8Tabs 2 3 w) :
    Calls Tryz.prog 88 #[.string s] w fun e w' => e = .returned (.tuple #[.int .i32 (Lib.decodeGo s).1, .int .i64 (Lib.decodeGo s).2]) ∧ Below w.heap.size w w' := Any.utf8_DecodeRuneInString Tryz.lays197 s w hT
def Tryz.lays311_ren : Go.Shelf.Ren := ⟨fun | 311 => 124 | n => n, fun | 193 => 270 | 49 => 22 | 4 => 4 | 3 => 3 | 0 => 0 | 226 => 287 | 198 => 275 | 46 => 168 | n => n, fun | n => n⟩
theorem Tryz.lays311 : Go.Proofs.Lays.n311 Tryz.prog Tryz.lays311_ren := {
  mixed := by kernel_rfl
  f311 := Tryz.func124.trans (congrArg some (by kernel_rfl))
  t0 := Tryz.underlying0
  a0 := Tryz.isAgg0
  z0 := Tryz.sizeOf0
  v0 := Tryz.zeroValue0
  t3 := Tryz.underlying3
  a3 := Tryz.isAgg3
  z3 := Tryz.sizeOf3
  v3 := Tryz.zeroValue3
  t4 := Tryz.underlying4
  a4 := Tryz.isAgg4
  z4 := Tryz.sizeOf4
  v4 := Tryz.zeroValue4
  t46 := Tryz.underlying168
  a46 := Tryz.isAgg168
  z46 := Tryz.sizeOf168
  v46 := Tryz.zeroValue168
  t49 := Tryz.underlying22
  a49 := Tryz.isAgg22
  z49 := Tryz.sizeOf22
  v49 := Tryz.zeroValue22
  t193 := Tryz.underlying270
  a193 := Tryz.isAgg270
  z193 := Tryz.sizeOf270
  v193 := Tryz.zeroValue270
  t198 := Tryz.underlying275
  a198 := Tryz.isAgg275
  z198 := Tryz.sizeOf275
  v198 := Tryz.zeroValue275
  t226 := Tryz.underlying287
  a226 := Tryz.isAgg287
  z226 := Tryz.sizeOf287
  v226 := Tryz.zeroValue287 }
open Go.RowKit Go.Lib in
theorem Tryz.unicode_is16_white (R oR : Nat) (z : Nat) (w : World) (hz : z < 65536) (hz0 : 255 < z) (c6 : w.cell? ⟨R, oR + 6, none⟩ = some (.int .u16 160)) (c7 : w.cell? ⟨R, oR + 7, none⟩ = some (.int .u16 5760)) (c8 : w.cell? ⟨R, oR + 8, none⟩ = some (.int .u16 5600)) (c9 : w.cell? ⟨R, oR + 9, none⟩ = some (.int .u16 8192)) (c10 : w.cell? ⟨R, oR + 10, none⟩ = some (.int .u16 8202)) (c11 : w.cell? ⟨R, oR + 11, none⟩ = some (.int .u16 1)) (c12 : w.cell? ⟨R, oR + 12, none⟩ = some (.int .u16 8232)) (c13 : w.cell? ⟨R, oR + 13, none⟩ = some (.int .u16 8233)) (c14 : w.cell? ⟨R, oR + 14, none⟩ = some (.int .u16 1)) (c15 : w.cell? ⟨R, oR + 15, none⟩ = some (.int .u16 8239)) (c16 : w.cell? ⟨R, oR + 16, none⟩ = some (.int .u16 8287)) (c17 : w.cell? ⟨R, oR + 17, none⟩ = some (.int .u16 48)) (c18 : w.cell? ⟨R, oR + 18, none⟩ = some (.int .u16 12288)) (c19 : w.cell? ⟨R, oR + 19, none⟩ = some (.int .u16 12288)) (c20 : w.cell? ⟨R, oR + 20, none⟩ = some (.int .u16 1)) :
    Calls Tryz.prog 124 #[.slice (some ⟨R, oR + 6, none⟩) 5 5, .int .u16 z] w fun e w' => e = .returned (.bool (Lib.isSpaceR z)) ∧ Below w.heap.size w w' := Any.unicode_is16_white Tryz.lays311 R oR z w hz hz0 c6 c7 c8 c9 c10 c11 c12 c13 c14 c15 c16 c17 c18 c19 c20
def Tryz.lays261_ren : Go.Shelf.Ren := ⟨fun | 261 => 115 | 311 => 124 | 312 => 125 | n => n, fun | 141 => 264 | 21 => 21 | 4 => 4 | 0 => 0 | 196 => 273 | 193 => 270 | 3 => 3 | 51 => 247 | 198 => 275 | 49 => 22 | 194 => 271 | 201 => 278 | 226 => 287 | 46 => 168 | 227 => 288 | n => n, fun | n => n⟩
theorem Tryz.lays261 : Go.Proofs.Lays.n261 Tryz.prog Tryz.lays261_ren := {
  mixed := by kernel_rfl
  f261 := Tryz.func115.trans (congrArg some (by kernel_rfl))
  f311 := Tryz.func124.trans (congrArg some (by kernel_rfl))
  f312 := Tryz.func125.trans (congrArg some (by kernel_rfl))
  t0 := Tryz.underlying0
  a0 := Tryz.isAgg0
  z0 := Tryz.sizeOf0
  v0 := Tryz.zeroValue0
  t3 := Tryz.underlying3
  a3 := Tryz.isAgg3
  z3 := Tryz.sizeOf3
  v3 := Tryz.zeroValue3
  t4 := Tryz.underlying4
  a4 := Tryz.isAgg4
  z4 := Tryz.sizeOf4
  v4 := Tryz.zeroValue4
  t21 := Tryz.underlying21
  a21 := Tryz.isAgg21
  z21 := Tryz.sizeOf21
  v21 := Tryz.zeroValue21
  t46 := Tryz.underlying168
  a46 := Tryz.isAgg168
  z46 := Tryz.sizeOf168
  v46 := Tryz.zeroValue168
  t49 := Tryz.underlying22
  a49 := Tryz.isAgg22
  z49 := Tryz.sizeOf22
  v49 := Tryz.zeroValue22
  t51 := Tryz.underlying247
  a51 := Tryz.isAgg247
  z51 := Tryz.sizeOf247
  v51 := Tryz.zeroValue247
  t141 := Tryz.underlying264
  a141 := Tryz.isAgg264
  z141 := Tryz.sizeOf264
  v141 := Tryz.zeroValue264
  t193 := Tryz.underlying270
  a193 := Tryz.isAgg270
  z193 := Tryz.sizeOf270
  v193 := Tryz.zeroValue270
  t194 := Tryz.underlying271
  a194 := Tryz.isAgg271
  z194 := Tryz.sizeOf271
  v194 := Tryz.zeroValue271
  t196 := Tryz.underlying273
  a196 := Tryz.isAgg273
  z196 := Tryz.sizeOf273
  v196 := Tryz.zeroValue273
  t198 := Tryz.underlying275
  a198 := Tryz.isAgg275
  z198 := Tryz.sizeOf275
  v198 := Tryz.zeroValue275
  t201 := Tryz.underlying278
  a201 := Tryz.isAgg278
  z201 := Tryz.sizeOf278
  v201 := Tryz.zeroValue278
  t226 := Tryz.underlying287
  a226 := Tryz.isAgg287
  z226 := Tryz.sizeOf287
  v226 := Tryz.zeroValue287
  t227 := Tryz.underlying288
  a227 := Tryz.isAgg288
  z227 := Tryz.sizeOf288
  v227 := Tryz.zeroValue288 }
open Go.RowKit Go.Lib in
/-- unicode.isExcludingLatin(White_Space, r), r beyond U+00FF or negative. (LAID: no walk: one application.) -/
theorem Tryz.unicode_isExcludingLatin_white (T oT R oR : Nat) (r : Int) (w : World) (hlo : -2147483648 ≤ r) (hhi : r ≤ 2147483647) (hr : r < 0 ∨ 255 < r) (h2 : w.cell? ⟨T, oT, none⟩ = some (.slice (some ⟨R, oR, none⟩) 7 7)) (h3 : w.cell? ⟨T, oT + 1, none⟩ = some (.slice none 0 0)) (h4 : w.cell? ⟨T, oT + 2, none⟩ = some (.int .i64 2)) (h5 : ∀ i, i < 21 → w.cell? ⟨R, oR + i, none⟩ = some (.int .u16 (whiteT.getD i 0))) :
    Calls Tryz.prog 115 #[.pointer (some ⟨T, oT, none⟩), .int .i32 r] w fun e w' => e = .returned (.bool (Lib.isSpaceZ r)) ∧ Below w.heap.size w w' := Any.unicode_isExcludingLatin_white Tryz.lays261 T oT R oR r w hlo hhi hr h2 h3 h4 h5
open Go.RowKit Go.Lib in
theorem Tryz.unicode_is16_any (T : Array Rg) (R oR cap : Nat) (z : Nat) (w : World) (hz : z < 65536) (hT : RgTab .u16 R oR T w) (hok : RgOk 65536 T) (hn : T.size ≤ 1000000000) :
    Calls Tryz.prog 124 #[.slice (some ⟨R, oR, none⟩) T.size cap, .int .u16 z] w fun e w' => e = .returned (.bool (is16Go T z)) ∧ ∃ q, w' = w.drewN q := Any.unicode_is16_any Tryz.lays311 T R oR cap z w hz hT hok hn
def Tryz.lays312_ren : Go.Shelf.Ren := ⟨fun | 312 => 125 | n => n, fun | 194 => 271 | 51 => 247 | 4 => 4 | 3 => 3 | 0 => 0 | 227 => 288 | 201 => 278 | 46 => 168 | n => n, fun | n => n⟩
theorem Tryz.lays312 : Go.Proofs.Lays.n312 Tryz.prog Tryz.lays312_ren := {
  mixed := by kernel_rfl
  f312 := Tryz.func125.trans (congrArg some (by kernel_rfl))
  t0 := Tryz.underlying0
  a0 := Tryz.isAgg0
  z0 := Tryz.sizeOf0
  v0 := Tryz.zeroValue0
  t3 := Tryz.underlying3
  a3 := Tryz.isAgg3
  z3 := Tryz.sizeOf3
  v3 := Tryz.zeroValue3
  t4 := Tryz.underlying4
  a4 := Tryz.isAgg4
  z4 := Tryz.sizeOf4
  v4 := Tryz.zeroValue4
  t46 := Tryz.underlying168
  a46 := Tryz.isAgg168
  z46 := Tryz.sizeOf168
  v46 := Tryz.zeroValue168
  t51 := Tryz.underlying247
  a51 := Tryz.isAgg247
  z51 := Tryz.sizeOf247
  v51 := Tryz.zeroValue247
  t194 := Tryz.underlying271
  a194 := Tryz.isAgg271
  z194 := Tryz.sizeOf271
  v194 := Tryz.zeroValue271
  t201 := Tryz.underlying278
  a201 := Tryz.isAgg278
  z201 := Tryz.sizeOf278
  v201 := Tryz.zeroValue278
  t227 := Tryz.underlying288
  a227 := Tryz.isAgg288
  z227 := Tryz.sizeOf288
  v227 := Tryz.zeroValue288 }
open Go.RowKit Go.Lib in
theorem Tryz.unicode_is32_any (T : Array Rg) (R oR cap : Nat) (z : Nat) (w : World) (hz : z < 4294967296) (hT : RgTab .u32 R oR T w) (hok : RgOk 4294967296 T) (hn : T.size ≤ 1000000000) :
    Calls Tryz.prog 125 #[.slice (some ⟨R, oR, none⟩) T.size cap, .int .u32 z] w fun e w' => e = .returned (.bool (is32Go T z)) ∧ Below w.heap.size w w' := Any.unicode_is32_any Tryz.lays312 T R oR cap z w hz hT hok hn
open Go.RowKit Go.Lib in
theorem Tryz.unicode_isExcludingLatin_any (Tb oT : Nat) (T : RTab) (r : Int) (w : World) (hlo : -2147483648 ≤ r) (hhi : r ≤ 2147483647) (hA : RTabAt Tb oT T w) (hok : RTabOk T) :
    Calls Tryz.prog 115 #[.pointer (some ⟨Tb, oT, none⟩), .int .i32 r] w fun e w' => e = .returned (.bool (exclGo T r)) ∧ Below w.heap.size w w' := Any.unicode_isExcludingLatin_any Tryz.lays261 Tb oT T r w hlo hhi hA hok
open Go.RowKit Go.Lib in
/-- unicode.IsLetter(r) AT EVERY int32, over whatever table the variable unicode.Letter leads to. (LAID: no walk: one application.) -/
theorem Tryz.unicode_IsLetter_any (T : RTab) (r : Int) (w : World) (hlo : -2147483648 ≤ r) (hhi : r ≤ 2147483647) (htab : Lib.TabIs Tryz.prog w "unicode.properties" .u8 Lib.propertiesTab) (hV : RVar 5 T w) (hok : RTabOk T) :
    Calls Tryz.prog 94 #[.int .i32 r] w fun e w' => e = .returned (.bool (if latin1 r then isLetterL r else exclGo T r)) ∧ Below w.heap.size w w' := Any.unicode_IsLetter_any Tryz.lays200 (by kernel_rfl) T r w hlo hhi htab hV hok
open Go.RowKit Go.Lib in
/-- unicode.IsDigit(r) AT EVERY int32, over whatever table the variable unicode.Digit leads to. (LAID: no walk: one application.) -/
theorem Tryz.unicode_IsDigit_any (T : RTab) (r : Int) (w : World) (hlo : -2147483648 ≤ r) (hhi : r ≤ 2147483647) (hV : RVar 6 T w) (hok : RTabOk T) :
    Calls Tryz.prog 95 #[.int .i32 r] w fun e w' => e = .returned (.bool (if r ≤ 255 then isDigitL r else exclGo T r)) ∧ Below w.heap.size w w' := Any.unicode_IsDigit_any Tryz.lays198 T r w hlo hhi hV hok
open Go.RowKit Go.Lib in
/-- unicode.IsLetter(r) AT EVERY int32, the tables as their initialisers lay them: 'Lib.isLetterU r'. (LAID: no walk: one application.) -/
theorem Tryz.unicode_IsLetter_all (r : Int) (w : World) (hlo : -2147483648 ≤ r) (hhi : r ≤ 2147483647) (htab : Lib.TabIs Tryz.prog w "unicode.properties" .u8 Lib.propertiesTab) (hV : RVar 5 letterT w) :
    Calls Tryz.prog 94 #[.int .i32 r] w fun e w' => e = .returned (.bool (isLetterU r)) ∧ Below w.heap.size w w' := Any.unicode_IsLetter_all Tryz.lays200 (by kernel_rfl) r w hlo hhi htab hV
open Go.RowKit Go.Lib in
/-- unicode.IsDigit(r) AT EVERY int32: 'Lib.isDigitU r'. (LAID: no walk: one application.) -/
theorem Tryz.unicode_IsDigit_all (r : Int) (w : World) (hlo : -2147483648 ≤ r) (hhi : r ≤ 2147483647) (hV : RVar 6 digitT w) :
    Calls Tryz.prog 95 #[.int .i32 r] w fun e w' => e = .returned (.bool (isDigitU r)) ∧ Below w.heap.size w w' := Any.unicode_IsDigit_all Tryz.lays198 r w hlo hhi hV
end Go.Proofs
