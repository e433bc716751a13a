/-
  DERIVED: THE SHELF's CONTRACTS AT THIS DUMP, IN PLAIN WORDS (tools/lay-plain.mjs out of 'TrydShelf.lean', which tools/lay-shelf.mjs wrote): THE SAME DECLARATIONS UNDER THE SAME NAMES: 'import', 'namespace', 'open', 'def', 'theorem' AND NOTHING ELSE: no command of the shelf's: FOR A HAND-IN. Each laying: the table of numbers ('.._ren') and one theorem, a field a fact of the dump's own or the kernel's comparison; each contract: ONE APPLICATION.
-/
import Derived.Shelf.Strings.Builder1
import Derived.Shelf.Small.Strs
import Derived.Shelf.Small.Wraps
import Derived.Shelf.Strings.BuilderF
import Derived.Shelf.Strings.BuilderK
import Derived.Shelf.Strings.Search1
import Derived.Shelf.Strings.Prefix
import Derived.Shelf.Unicode.Latin
import Derived.Shelf.Unicode.Props
import Derived.Shelf.Unicode.Is16White
import Derived.Shelf.Unicode.Is16Any
import Derived.Ground.PaProg
import Derived.Shelf.Path.LazyBuf
import Derived.Shelf.Path.CleanRel
import Derived.Shelf.Path.CleanAbs
import Derived.Shelf.Path.Clean
import Derived.Shelf.Path.CleanRules
import Derived.Test.YtgkhfcoieknjeaaDoorProg
namespace Go.Proofs
open Go.Shelf
def Tryd.lays169_ren : Go.Shelf.Ren := ⟨fun | 169 => 94 | n => n, fun | 70 => 156 | 9 => 9 | 0 => 0 | 72 => 158 | 37 => 137 | 127 => 173 | 3 => 3 | 5 => 5 | n => n, fun | n => n⟩
theorem Tryd.lays169 : Go.Proofs.Lays.n169 Tryd.prog Tryd.lays169_ren := {
  mixed := by kernel_rfl
  f169 := Tryd.func94.trans (congrArg some (by kernel_rfl))
  t0 := Tryd.underlying0
  a0 := Tryd.isAgg0
  z0 := Tryd.sizeOf0
  v0 := Tryd.zeroValue0
  t3 := Tryd.underlying3
  a3 := Tryd.isAgg3
  z3 := Tryd.sizeOf3
  v3 := Tryd.zeroValue3
  t9 := Tryd.underlying9
  a9 := Tryd.isAgg9
  z9 := Tryd.sizeOf9
  v9 := Tryd.zeroValue9
  t37 := Tryd.underlying137
  a37 := Tryd.isAgg137
  z37 := Tryd.sizeOf137
  v37 := Tryd.zeroValue137
  t70 := Tryd.underlying156
  a70 := Tryd.isAgg156
  z70 := Tryd.sizeOf156
  v70 := Tryd.zeroValue156
  t72 := Tryd.underlying158
  a72 := Tryd.isAgg158
  z72 := Tryd.sizeOf158
  v72 := Tryd.zeroValue158
  t127 := Tryd.underlying173
  a127 := Tryd.isAgg173
  z127 := Tryd.sizeOf173
  v127 := Tryd.zeroValue173 }
theorem Tryd.Builder_Extra_169 : Builder.Extra Tryd.prog Tryd.lays169_ren := {
  sizeBuilder := by kernel_rfl
  liesBuilder := by kernel_rfl
  t5 := Tryd.underlying5
  a5 := Tryd.isAgg5
  z5 := Tryd.sizeOf5
  v5 := Tryd.zeroValue5
  infoByte := by kernel_rfl
  cellsByte := by kernel_rfl
  sizeByte := by kernel_rfl
  neB5 := by decide }
open Go.RowKit in
/-- (*strings.Builder).String: "String returns the accumulated string.": OF A BUILDER THAT HOLDS AT LEAST ONE BYTE. ✋ THE MODEL FREEZES THOSE BYTES IN THE BUFFER (unsafe.String): a later write INTO them ends the model's run without an answer; a later append BEHIND them goes on. The statement's order of evaluation is drawn: one draw. (LAID: no walk: one application.) -/
theorem Tryd.Builder_String (B b : Nat) (l : List UInt8) (w : World) (h : Lib.IsBuilder 158 5 B b (Lib.byteCells l) w) (h0 : l ≠ []) :
    Calls Tryd.prog 94 #[.pointer (some ⟨b, 0, none⟩)] w fun e w' => e = .returned (.string ⟨l.toArray⟩) ∧ Below B w w' := Any.Builder_String Tryd.lays169 Tryd.Builder_Extra_169 B b l w h h0
open Go.RowKit in
/-- (*strings.Builder).String OF A BUILDER THAT HOLDS NO BYTE: the empty string. (Its buffer is nil, or a row of which it has taken nothing yet; where that row has NO capacity the model lays one new block for unsafe.SliceData's 'some address'.) One draw. (LAID: no walk: one application.) -/
theorem Tryd.Builder_String_empty (B b : Nat) (w : World) (h : Lib.IsBuilder 158 5 B b [] w) (hBw : B ≤ w.heap.size) :
    Calls Tryd.prog 94 #[.pointer (some ⟨b, 0, none⟩)] w fun e w' => e = .returned (.string ⟨#[]⟩) ∧ Below B w w' := Any.Builder_String_empty Tryd.lays169 Tryd.Builder_Extra_169 B b w h hBw
open Go.RowKit in
/-- (*strings.Builder).String: "String returns the accumulated string.": WHATEVER THE BUILDER HOLDS. (LAID: no walk: one application.) -/
theorem Tryd.Builder_String_any (B b : Nat) (l : List UInt8) (w : World) (h : Lib.IsBuilder 158 5 B b (Lib.byteCells l) w) (hBw : B ≤ w.heap.size) :
    Calls Tryd.prog 94 #[.pointer (some ⟨b, 0, none⟩)] w fun e w' => e = .returned (.string ⟨l.toArray⟩) ∧ Below B w w' := Any.Builder_String_any Tryd.lays169 Tryd.Builder_Extra_169 B b l w h hBw
def Tryd.lays137_ren : Go.Shelf.Ren := ⟨fun | 137 => 61 | 217 => 71 | 266 => 81 | n => n, fun | 9 => 9 | 5 => 5 | 3 => 3 | n => n, fun | n => n⟩
theorem Tryd.lays137 : Go.Proofs.Lays.n137 Tryd.prog Tryd.lays137_ren := {
  mixed := by kernel_rfl
  f137 := Tryd.func61.trans (congrArg some (by kernel_rfl))
  f217 := Tryd.func71.trans (congrArg some (by kernel_rfl))
  f266 := Tryd.func81.trans (congrArg some (by kernel_rfl))
  t3 := Tryd.underlying3
  a3 := Tryd.isAgg3
  z3 := Tryd.sizeOf3
  v3 := Tryd.zeroValue3
  t5 := Tryd.underlying5
  a5 := Tryd.isAgg5
  z5 := Tryd.sizeOf5
  v5 := Tryd.zeroValue5
  t9 := Tryd.underlying9
  a9 := Tryd.isAgg9
  z9 := Tryd.sizeOf9
  v9 := Tryd.zeroValue9 }
open Go.RowKit in
/-- strings.IndexByte: "IndexByte returns the index of the first instance of c in s, or -1 if c is not present in s.": IT RETURNS 'Lib.indexByte s c'; the world is as it was. (LAID: no walk: one application.) -/
theorem Tryd.strings_IndexByte (s : ByteArray) (c : Int) (w : World) :
    Calls Tryd.prog 61 #[.string s, .int .u8 c] w fun e w' => e = .returned (.int .i64 (Lib.indexByte s.data.toList c.toNat.toUInt8)) ∧ w' = w := Any.strings_IndexByte Tryd.lays137 s c w
def Tryd.lays211_ren : Go.Shelf.Ren := ⟨fun | 211 => 75 | 207 => 87 | n => n, fun | 9 => 9 | 4 => 4 | 3 => 3 | n => n, fun | n => n⟩
theorem Tryd.lays211 : Go.Proofs.Lays.n211 Tryd.prog Tryd.lays211_ren := {
  mixed := by kernel_rfl
  f207 := Tryd.func87.trans (congrArg some (by kernel_rfl))
  f211 := Tryd.func75.trans (congrArg some (by kernel_rfl))
  t3 := Tryd.underlying3
  a3 := Tryd.isAgg3
  z3 := Tryd.sizeOf3
  v3 := Tryd.zeroValue3
  t4 := Tryd.underlying4
  a4 := Tryd.isAgg4
  z4 := Tryd.sizeOf4
  v4 := Tryd.zeroValue4
  t9 := Tryd.underlying9
  a9 := Tryd.isAgg9
  z9 := Tryd.sizeOf9
  v9 := Tryd.zeroValue9 }
open Go.RowKit in
/-- internal/stringslite.CutSuffix (what strings.CutSuffix calls). (LAID: no walk: one application.) -/
theorem Tryd.stringslite_CutSuffix (s p : ByteArray) (w : World) (hs : s.size ≤ 9223372036854775807) :
    Calls Tryd.prog 75 #[.string s, .string p] w fun e w' => e = .returned (.tuple #[.string ⟨(Lib.trimSuffix s.data.toList p.data.toList).toArray⟩, .bool (Lib.hasSuffix s.data.toList p.data.toList)]) ∧ w' = w := Any.stringslite_CutSuffix Tryd.lays211 s p w hs
def Tryd.lays104_ren : Go.Shelf.Ren := ⟨fun | 104 => 64 | 211 => 75 | 207 => 87 | n => n, fun | 9 => 9 | 4 => 4 | 24 => 118 | 3 => 3 | n => n, fun | n => n⟩
theorem Tryd.lays104 : Go.Proofs.Lays.n104 Tryd.prog Tryd.lays104_ren := {
  mixed := by kernel_rfl
  f104 := Tryd.func64.trans (congrArg some (by kernel_rfl))
  f207 := Tryd.func87.trans (congrArg some (by kernel_rfl))
  f211 := Tryd.func75.trans (congrArg some (by kernel_rfl))
  t3 := Tryd.underlying3
  a3 := Tryd.isAgg3
  z3 := Tryd.sizeOf3
  v3 := Tryd.zeroValue3
  t4 := Tryd.underlying4
  a4 := Tryd.isAgg4
  z4 := Tryd.sizeOf4
  v4 := Tryd.zeroValue4
  t9 := Tryd.underlying9
  a9 := Tryd.isAgg9
  z9 := Tryd.sizeOf9
  v9 := Tryd.zeroValue9
  t24 := Tryd.underlying118
  a24 := Tryd.isAgg118
  z24 := Tryd.sizeOf118
  v24 := Tryd.zeroValue118 }
open Go.RowKit in
/-- strings.CutSuffix: "CutSuffix returns s without the provided ending suffix string and reports whether it found the suffix. If s doesn't end with suffix, CutSuffix returns s, false. If suffix is the empty string, CutSuffix returns s, true.": IT RETURNS '(Lib.trimSuffix s p, Lib.hasSuffix s p)'; the world is as it was. (LAID: no walk: one application.) -/
theorem Tryd.strings_CutSuffix (s p : ByteArray) (w : World) (hs : s.size ≤ 9223372036854775807) :
    Calls Tryd.prog 64 #[.string s, .string p] w fun e w' => e = .returned (.tuple #[.string ⟨(Lib.trimSuffix s.data.toList p.data.toList).toArray⟩, .bool (Lib.hasSuffix s.data.toList p.data.toList)]) ∧ w' = w := Any.strings_CutSuffix Tryd.lays104 s p w hs
open Go.RowKit in
/-- (*strings.Builder).String: "String returns the accumulated string.": OF A BUILDER THAT HOLDS AT LEAST ONE BYTE. ✋ THE MODEL FREEZES THOSE BYTES IN THE BUFFER (unsafe.String): a later write INTO them ends the model's run without an answer; a later append BEHIND them goes on. The statement's order of evaluation is drawn: one draw. THE FORM '_f': IT SAYS BESIDES THAT THE BUILDER IS A BUILDER STILL ('Lib.IsBuilderF', the same bytes): SO IT CAN BE WRITTEN ON: 'b.WriteString(b.String()[:k])'. (LAID: no walk: one application.) -/
theorem Tryd.Builder_String_f (B b : Nat) (l : List UInt8) (w : World) (h : Lib.IsBuilderF 158 5 B b (Lib.byteCells l) w) (h0 : l ≠ []) :
    Calls Tryd.prog 94 #[.pointer (some ⟨b, 0, none⟩)] w fun e w' => e = .returned (.string ⟨l.toArray⟩) ∧ (Lib.IsBuilderF 158 5 B b (Lib.byteCells l) w' ∧ Below B w w') := Any.Builder_String_f Tryd.lays169 Tryd.Builder_Extra_169 B b l w h h0
open Go.RowKit in
/-- (*strings.Builder).String OF A BUILDER THAT HOLDS NO BYTE: the empty string; THE FORM '_f': a builder still. (LAID: no walk: one application.) -/
theorem Tryd.Builder_String_empty_f (B b : Nat) (w : World) (h : Lib.IsBuilderF 158 5 B b [] w) (hBw : B ≤ w.heap.size) :
    Calls Tryd.prog 94 #[.pointer (some ⟨b, 0, none⟩)] w fun e w' => e = .returned (.string ⟨#[]⟩) ∧ (Lib.IsBuilderF 158 5 B b [] w' ∧ Below B w w') := Any.Builder_String_empty_f Tryd.lays169 Tryd.Builder_Extra_169 B b w h hBw
open Go.RowKit in
/-- (*strings.Builder).String: "String returns the accumulated string.": WHATEVER THE BUILDER HOLDS; THE FORM '_f': OF A BUILDER THAT MAY HAVE BEEN READ BEFORE; AND IT IS A BUILDER STILL, holding the same bytes: it can be written on. (LAID: no walk: one application.) -/
theorem Tryd.Builder_String_any_f (B b : Nat) (l : List UInt8) (w : World) (h : Lib.IsBuilderF 158 5 B b (Lib.byteCells l) w) (hBw : B ≤ w.heap.size) :
    Calls Tryd.prog 94 #[.pointer (some ⟨b, 0, none⟩)] w fun e w' => e = .returned (.string ⟨l.toArray⟩) ∧ (Lib.IsBuilderF 158 5 B b (Lib.byteCells l) w' ∧ Below B w w') := Any.Builder_String_any_f Tryd.lays169 Tryd.Builder_Extra_169 B b l w h hBw
open Go.RowKit in
/-- (*strings.Builder).String: "String returns the accumulated string.": OF A BUILDER THAT HOLDS AT LEAST ONE BYTE. ✋ THE MODEL FREEZES THOSE BYTES IN THE BUFFER (unsafe.String): a later write INTO them ends the model's run without an answer; a later append BEHIND them goes on. The statement's order of evaluation is drawn: one draw. THE FORM '_k': OVER 'Lib.IsBuilderF' (a builder that 'String()' may have read), AND WITH THE FRAME THAT REACHES ABOVE THE BUILDER: 'Lib.OthersKept': every block that is not b and is no row of uint8's stands as it stood: the iterator of a range among them. (LAID: no walk: one application.) -/
theorem Tryd.Builder_String_k (B b : Nat) (l : List UInt8) (w : World) (h : Lib.IsBuilderF 158 5 B b (Lib.byteCells l) w) (h0 : l ≠ []) :
    Calls Tryd.prog 94 #[.pointer (some ⟨b, 0, none⟩)] w fun e w' => e = .returned (.string ⟨l.toArray⟩) ∧ (Lib.IsBuilderF 158 5 B b (Lib.byteCells l) w' ∧ Below B w w' ∧ Lib.OthersKept 5 (some b) w w') := Any.Builder_String_k Tryd.lays169 Tryd.Builder_Extra_169 B b l w h h0
open Go.RowKit in
/-- (*strings.Builder).String OF A BUILDER THAT HOLDS NO BYTE: the empty string; THE FORM '_k': OVER 'Lib.IsBuilderF' (a builder that 'String()' may have read), AND WITH THE FRAME THAT REACHES ABOVE THE BUILDER: 'Lib.OthersKept': every block that is not b and is no row of uint8's stands as it stood: the iterator of a range among them. (LAID: no walk: one application.) -/
theorem Tryd.Builder_String_empty_k (B b : Nat) (w : World) (h : Lib.IsBuilderF 158 5 B b [] w) (hBw : B ≤ w.heap.size) :
    Calls Tryd.prog 94 #[.pointer (some ⟨b, 0, none⟩)] w fun e w' => e = .returned (.string ⟨#[]⟩) ∧ (Lib.IsBuilderF 158 5 B b [] w' ∧ Below B w w' ∧ Lib.OthersKept 5 (some b) w w') := Any.Builder_String_empty_k Tryd.lays169 Tryd.Builder_Extra_169 B b w h hBw
open Go.RowKit in
/-- (*strings.Builder).String: "String returns the accumulated string.": WHATEVER THE BUILDER HOLDS; THE FORM '_k': OVER 'Lib.IsBuilderF' (a builder that 'String()' may have read), AND WITH THE FRAME THAT REACHES ABOVE THE BUILDER: 'Lib.OthersKept': every block that is not b and is no row of uint8's stands as it stood: the iterator of a range among them. (LAID: no walk: one application.) -/
theorem Tryd.Builder_String_any_k (B b : Nat) (l : List UInt8) (w : World) (h : Lib.IsBuilderF 158 5 B b (Lib.byteCells l) w) (hBw : B ≤ w.heap.size) :
    Calls Tryd.prog 94 #[.pointer (some ⟨b, 0, none⟩)] w fun e w' => e = .returned (.string ⟨l.toArray⟩) ∧ (Lib.IsBuilderF 158 5 B b (Lib.byteCells l) w' ∧ Below B w w' ∧ Lib.OthersKept 5 (some b) w w') := Any.Builder_String_any_k Tryd.lays169 Tryd.Builder_Extra_169 B b l w h hBw
def Tryd.lays217_ren : Go.Shelf.Ren := ⟨fun | 217 => 71 | 266 => 81 | n => n, fun | 9 => 9 | 5 => 5 | 3 => 3 | n => n, fun | n => n⟩
theorem Tryd.lays217 : Go.Proofs.Lays.n217 Tryd.prog Tryd.lays217_ren := {
  mixed := by kernel_rfl
  f217 := Tryd.func71.trans (congrArg some (by kernel_rfl))
  f266 := Tryd.func81.trans (congrArg some (by kernel_rfl))
  t3 := Tryd.underlying3
  a3 := Tryd.isAgg3
  z3 := Tryd.sizeOf3
  v3 := Tryd.zeroValue3
  t5 := Tryd.underlying5
  a5 := Tryd.isAgg5
  z5 := Tryd.sizeOf5
  v5 := Tryd.zeroValue5
  t9 := Tryd.underlying9
  a9 := Tryd.isAgg9
  z9 := Tryd.sizeOf9
  v9 := Tryd.zeroValue9 }
open Go.RowKit Go.Lib in
/-- internal/stringslite.IndexByte (what strings.IndexByte calls): IT RETURNS 'Lib.indexByte s c'; the world is as it was. (LAID: no walk: one application.) -/
theorem Tryd.stringslite_IndexByte (s : ByteArray) (c : Int) (w : World) :
    Calls Tryd.prog 71 #[.string s, .int .u8 c] w fun e w' => e = .returned (.int .i64 (Lib.indexByte s.data.toList c.toNat.toUInt8)) ∧ w' = w := Any.stringslite_IndexByte Tryd.lays217 s c w
def Tryd.lays206_ren : Go.Shelf.Ren := ⟨fun | 206 => 85 | n => n, fun | 9 => 9 | 4 => 4 | 3 => 3 | n => n, fun | n => n⟩
theorem Tryd.lays206 : Go.Proofs.Lays.n206 Tryd.prog Tryd.lays206_ren := {
  mixed := by kernel_rfl
  f206 := Tryd.func85.trans (congrArg some (by kernel_rfl))
  t3 := Tryd.underlying3
  a3 := Tryd.isAgg3
  z3 := Tryd.sizeOf3
  v3 := Tryd.zeroValue3
  t4 := Tryd.underlying4
  a4 := Tryd.isAgg4
  z4 := Tryd.sizeOf4
  v4 := Tryd.zeroValue4
  t9 := Tryd.underlying9
  a9 := Tryd.isAgg9
  z9 := Tryd.sizeOf9
  v9 := Tryd.zeroValue9 }
open Go.RowKit Go.Lib in
/-- internal/stringslite.HasPrefix (what strings.HasPrefix calls). (LAID: no walk: one application.) -/
theorem Tryd.stringslite_HasPrefix (s p : ByteArray) (w : World) :
    Calls Tryd.prog 85 #[.string s, .string p] w fun e w' => e = .returned (.bool (Lib.hasPrefix s.data.toList p.data.toList)) ∧ w' = w := Any.stringslite_HasPrefix Tryd.lays206 s p w
def Tryd.lays99_ren : Go.Shelf.Ren := ⟨fun | 99 => 73 | 206 => 85 | n => n, fun | 9 => 9 | 4 => 4 | 3 => 3 | n => n, fun | n => n⟩
theorem Tryd.lays99 : Go.Proofs.Lays.n99 Tryd.prog Tryd.lays99_ren := {
  mixed := by kernel_rfl
  f99 := Tryd.func73.trans (congrArg some (by kernel_rfl))
  f206 := Tryd.func85.trans (congrArg some (by kernel_rfl))
  t3 := Tryd.underlying3
  a3 := Tryd.isAgg3
  z3 := Tryd.sizeOf3
  v3 := Tryd.zeroValue3
  t4 := Tryd.underlying4
  a4 := Tryd.isAgg4
  z4 := Tryd.sizeOf4
  v4 := Tryd.zeroValue4
  t9 := Tryd.underlying9
  a9 := Tryd.isAgg9
  z9 := Tryd.sizeOf9
  v9 := Tryd.zeroValue9 }
open Go.RowKit Go.Lib in
/-- strings.HasPrefix: "HasPrefix reports whether the string s begins with prefix.": IT RETURNS 'Lib.hasPrefix s prefix'; the world is as it was. (LAID: no walk: one application.) -/
theorem Tryd.strings_HasPrefix (s p : ByteArray) (w : World) :
    Calls Tryd.prog 73 #[.string s, .string p] w fun e w' => e = .returned (.bool (Lib.hasPrefix s.data.toList p.data.toList)) ∧ w' = w := Any.strings_HasPrefix Tryd.lays99 s p w
def Tryd.lays207_ren : Go.Shelf.Ren := ⟨fun | 207 => 87 | n => n, fun | 9 => 9 | 4 => 4 | 3 => 3 | n => n, fun | n => n⟩
theorem Tryd.lays207 : Go.Proofs.Lays.n207 Tryd.prog Tryd.lays207_ren := {
  mixed := by kernel_rfl
  f207 := Tryd.func87.trans (congrArg some (by kernel_rfl))
  t3 := Tryd.underlying3
  a3 := Tryd.isAgg3
  z3 := Tryd.sizeOf3
  v3 := Tryd.zeroValue3
  t4 := Tryd.underlying4
  a4 := Tryd.isAgg4
  z4 := Tryd.sizeOf4
  v4 := Tryd.zeroValue4
  t9 := Tryd.underlying9
  a9 := Tryd.isAgg9
  z9 := Tryd.sizeOf9
  v9 := Tryd.zeroValue9 }
open Go.RowKit Go.Lib in
/-- internal/stringslite.HasSuffix (what strings.HasSuffix calls). (LAID: no walk: one application.) -/
theorem Tryd.stringslite_HasSuffix (s p : ByteArray) (w : World) (hs : s.size ≤ 9223372036854775807) :
    Calls Tryd.prog 87 #[.string s, .string p] w fun e w' => e = .returned (.bool (Lib.hasSuffix s.data.toList p.data.toList)) ∧ w' = w := Any.stringslite_HasSuffix Tryd.lays207 s p w hs
def Tryd.lays198_ren : Go.Shelf.Ren := ⟨fun | 198 => 77 | 261 => 88 | 311 => 95 | 312 => 96 | n => n, fun | 21 => 21 | 4 => 4 | 141 => 148 | 0 => 0 | 196 => 164 | 193 => 161 | 3 => 3 | 51 => 145 | 198 => 167 | 49 => 165 | 194 => 162 | 201 => 170 | 226 => 174 | 46 => 153 | 227 => 175 | n => n, fun | 5 => 2 | n => n⟩
theorem Tryd.lays198 : Go.Proofs.Lays.n198 Tryd.prog Tryd.lays198_ren := {
  mixed := by kernel_rfl
  f198 := Tryd.func77.trans (congrArg some (by kernel_rfl))
  f261 := Tryd.func88.trans (congrArg some (by kernel_rfl))
  f311 := Tryd.func95.trans (congrArg some (by kernel_rfl))
  f312 := Tryd.func96.trans (congrArg some (by kernel_rfl))
  t0 := Tryd.underlying0
  a0 := Tryd.isAgg0
  z0 := Tryd.sizeOf0
  v0 := Tryd.zeroValue0
  t3 := Tryd.underlying3
  a3 := Tryd.isAgg3
  z3 := Tryd.sizeOf3
  v3 := Tryd.zeroValue3
  t4 := Tryd.underlying4
  a4 := Tryd.isAgg4
  z4 := Tryd.sizeOf4
  v4 := Tryd.zeroValue4
  t21 := Tryd.underlying21
  a21 := Tryd.isAgg21
  z21 := Tryd.sizeOf21
  v21 := Tryd.zeroValue21
  t46 := Tryd.underlying153
  a46 := Tryd.isAgg153
  z46 := Tryd.sizeOf153
  v46 := Tryd.zeroValue153
  t49 := Tryd.underlying165
  a49 := Tryd.isAgg165
  z49 := Tryd.sizeOf165
  v49 := Tryd.zeroValue165
  t51 := Tryd.underlying145
  a51 := Tryd.isAgg145
  z51 := Tryd.sizeOf145
  v51 := Tryd.zeroValue145
  t141 := Tryd.underlying148
  a141 := Tryd.isAgg148
  z141 := Tryd.sizeOf148
  v141 := Tryd.zeroValue148
  t193 := Tryd.underlying161
  a193 := Tryd.isAgg161
  z193 := Tryd.sizeOf161
  v193 := Tryd.zeroValue161
  t194 := Tryd.underlying162
  a194 := Tryd.isAgg162
  z194 := Tryd.sizeOf162
  v194 := Tryd.zeroValue162
  t196 := Tryd.underlying164
  a196 := Tryd.isAgg164
  z196 := Tryd.sizeOf164
  v196 := Tryd.zeroValue164
  t198 := Tryd.underlying167
  a198 := Tryd.isAgg167
  z198 := Tryd.sizeOf167
  v198 := Tryd.zeroValue167
  t201 := Tryd.underlying170
  a201 := Tryd.isAgg170
  z201 := Tryd.sizeOf170
  v201 := Tryd.zeroValue170
  t226 := Tryd.underlying174
  a226 := Tryd.isAgg174
  z226 := Tryd.sizeOf174
  v226 := Tryd.zeroValue174
  t227 := Tryd.underlying175
  a227 := Tryd.isAgg175
  z227 := Tryd.sizeOf175
  v227 := Tryd.zeroValue175
  g5 := by kernel_rfl }
open Go.RowKit Go.Lib in
theorem Tryd.unicode_IsDigit (r : Int) (w : World) (h : r ≤ 255) :
    Calls Tryd.prog 77 #[.int .i32 r] w fun e w' => e = .returned (.bool (Lib.isDigitL r)) ∧ w' = w := Any.unicode_IsDigit Tryd.lays198 r w h
def Tryd.lays200_ren : Go.Shelf.Ren := ⟨fun | 200 => 76 | 261 => 88 | 311 => 95 | 312 => 96 | n => n, fun | 21 => 21 | 4 => 4 | 51 => 145 | 5 => 5 | 119 => 146 | 0 => 0 | 141 => 148 | 196 => 164 | 193 => 161 | 3 => 3 | 198 => 167 | 49 => 165 | 194 => 162 | 201 => 170 | 226 => 174 | 46 => 153 | 227 => 175 | n => n, fun | 7 => 0 | 8 => 1 | n => n⟩
theorem Tryd.lays200 : Go.Proofs.Lays.n200 Tryd.prog Tryd.lays200_ren := {
  mixed := by kernel_rfl
  f200 := Tryd.func76.trans (congrArg some (by kernel_rfl))
  f261 := Tryd.func88.trans (congrArg some (by kernel_rfl))
  f311 := Tryd.func95.trans (congrArg some (by kernel_rfl))
  f312 := Tryd.func96.trans (congrArg some (by kernel_rfl))
  t0 := Tryd.underlying0
  a0 := Tryd.isAgg0
  z0 := Tryd.sizeOf0
  v0 := Tryd.zeroValue0
  t3 := Tryd.underlying3
  a3 := Tryd.isAgg3
  z3 := Tryd.sizeOf3
  v3 := Tryd.zeroValue3
  t4 := Tryd.underlying4
  a4 := Tryd.isAgg4
  z4 := Tryd.sizeOf4
  v4 := Tryd.zeroValue4
  t5 := Tryd.underlying5
  a5 := Tryd.isAgg5
  z5 := Tryd.sizeOf5
  v5 := Tryd.zeroValue5
  t21 := Tryd.underlying21
  a21 := Tryd.isAgg21
  z21 := Tryd.sizeOf21
  v21 := Tryd.zeroValue21
  t46 := Tryd.underlying153
  a46 := Tryd.isAgg153
  z46 := Tryd.sizeOf153
  v46 := Tryd.zeroValue153
  t49 := Tryd.underlying165
  a49 := Tryd.isAgg165
  z49 := Tryd.sizeOf165
  v49 := Tryd.zeroValue165
  t51 := Tryd.underlying145
  a51 := Tryd.isAgg145
  z51 := Tryd.sizeOf145
  v51 := Tryd.zeroValue145
  t119 := Tryd.underlying146
  a119 := Tryd.isAgg146
  z119 := Tryd.sizeOf146
  t141 := Tryd.underlying148
  a141 := Tryd.isAgg148
  z141 := Tryd.sizeOf148
  v141 := Tryd.zeroValue148
  t193 := Tryd.underlying161
  a193 := Tryd.isAgg161
  z193 := Tryd.sizeOf161
  v193 := Tryd.zeroValue161
  t194 := Tryd.underlying162
  a194 := Tryd.isAgg162
  z194 := Tryd.sizeOf162
  v194 := Tryd.zeroValue162
  t196 := Tryd.underlying164
  a196 := Tryd.isAgg164
  z196 := Tryd.sizeOf164
  v196 := Tryd.zeroValue164
  t198 := Tryd.underlying167
  a198 := Tryd.isAgg167
  z198 := Tryd.sizeOf167
  v198 := Tryd.zeroValue167
  t201 := Tryd.underlying170
  a201 := Tryd.isAgg170
  z201 := Tryd.sizeOf170
  v201 := Tryd.zeroValue170
  t226 := Tryd.underlying174
  a226 := Tryd.isAgg174
  z226 := Tryd.sizeOf174
  v226 := Tryd.zeroValue174
  t227 := Tryd.underlying175
  a227 := Tryd.isAgg175
  z227 := Tryd.sizeOf175
  v227 := Tryd.zeroValue175
  g7 := by kernel_rfl
  g8 := by kernel_rfl }
open Go.RowKit Go.Lib in
theorem Tryd.unicode_IsLetter (c : Nat) (w : World) (hc : c < 256) (htab : Lib.TabIs Tryd.prog w "unicode.properties" .u8 Lib.propertiesTab) :
    Calls Tryd.prog 76 #[.int .i32 c] w fun e w' => e = .returned (.bool (Lib.isLetterL c)) ∧ w' = w := Any.unicode_IsLetter Tryd.lays200 (by kernel_rfl) c w hc htab
def Tryd.lays311_ren : Go.Shelf.Ren := ⟨fun | 311 => 95 | n => n, fun | 193 => 161 | 49 => 165 | 4 => 4 | 3 => 3 | 0 => 0 | 226 => 174 | 198 => 167 | 46 => 153 | n => n, fun | n => n⟩
theorem Tryd.lays311 : Go.Proofs.Lays.n311 Tryd.prog Tryd.lays311_ren := {
  mixed := by kernel_rfl
  f311 := Tryd.func95.trans (congrArg some (by kernel_rfl))
  t0 := Tryd.underlying0
  a0 := Tryd.isAgg0
  z0 := Tryd.sizeOf0
  v0 := Tryd.zeroValue0
  t3 := Tryd.underlying3
  a3 := Tryd.isAgg3
  z3 := Tryd.sizeOf3
  v3 := Tryd.zeroValue3
  t4 := Tryd.underlying4
  a4 := Tryd.isAgg4
  z4 := Tryd.sizeOf4
  v4 := Tryd.zeroValue4
  t46 := Tryd.underlying153
  a46 := Tryd.isAgg153
  z46 := Tryd.sizeOf153
  v46 := Tryd.zeroValue153
  t49 := Tryd.underlying165
  a49 := Tryd.isAgg165
  z49 := Tryd.sizeOf165
  v49 := Tryd.zeroValue165
  t193 := Tryd.underlying161
  a193 := Tryd.isAgg161
  z193 := Tryd.sizeOf161
  v193 := Tryd.zeroValue161
  t198 := Tryd.underlying167
  a198 := Tryd.isAgg167
  z198 := Tryd.sizeOf167
  v198 := Tryd.zeroValue167
  t226 := Tryd.underlying174
  a226 := Tryd.isAgg174
  z226 := Tryd.sizeOf174
  v226 := Tryd.zeroValue174 }
open Go.RowKit Go.Lib in
theorem Tryd.unicode_is16_white (R oR : Nat) (z : Nat) (w : World) (hz : z < 65536) (hz0 : 255 < z) (c6 : w.cell? ⟨R, oR + 6, none⟩ = some (.int .u16 160)) (c7 : w.cell? ⟨R, oR + 7, none⟩ = some (.int .u16 5760)) (c8 : w.cell? ⟨R, oR + 8, none⟩ = some (.int .u16 5600)) (c9 : w.cell? ⟨R, oR + 9, none⟩ = some (.int .u16 8192)) (c10 : w.cell? ⟨R, oR + 10, none⟩ = some (.int .u16 8202)) (c11 : w.cell? ⟨R, oR + 11, none⟩ = some (.int .u16 1)) (c12 : w.cell? ⟨R, oR + 12, none⟩ = some (.int .u16 8232)) (c13 : w.cell? ⟨R, oR + 13, none⟩ = some (.int .u16 8233)) (c14 : w.cell? ⟨R, oR + 14, none⟩ = some (.int .u16 1)) (c15 : w.cell? ⟨R, oR + 15, none⟩ = some (.int .u16 8239)) (c16 : w.cell? ⟨R, oR + 16, none⟩ = some (.int .u16 8287)) (c17 : w.cell? ⟨R, oR + 17, none⟩ = some (.int .u16 48)) (c18 : w.cell? ⟨R, oR + 18, none⟩ = some (.int .u16 12288)) (c19 : w.cell? ⟨R, oR + 19, none⟩ = some (.int .u16 12288)) (c20 : w.cell? ⟨R, oR + 20, none⟩ = some (.int .u16 1)) :
    Calls Tryd.prog 95 #[.slice (some ⟨R, oR + 6, none⟩) 5 5, .int .u16 z] w fun e w' => e = .returned (.bool (Lib.isSpaceR z)) ∧ Below w.heap.size w w' := Any.unicode_is16_white Tryd.lays311 R oR z w hz hz0 c6 c7 c8 c9 c10 c11 c12 c13 c14 c15 c16 c17 c18 c19 c20
open Go.RowKit Go.Lib in
theorem Tryd.unicode_is16_any (T : Array Rg) (R oR cap : Nat) (z : Nat) (w : World) (hz : z < 65536) (hT : RgTab .u16 R oR T w) (hok : RgOk 65536 T) (hn : T.size ≤ 1000000000) :
    Calls Tryd.prog 95 #[.slice (some ⟨R, oR, none⟩) T.size cap, .int .u16 z] w fun e w' => e = .returned (.bool (is16Go T z)) ∧ ∃ q, w' = w.drewN q := Any.unicode_is16_any Tryd.lays311 T R oR cap z w hz hT hok hn
def Tryd.laysPa47_ren : Go.Shelf.Ren := ⟨fun | 47 => 83 | n => n, fun | 48 => 149 | 3 => 3 | 5 => 5 | 0 => 0 | 42 => 139 | 30 => 137 | 4 => 4 | 9 => 9 | n => n, fun | n => n⟩
theorem Tryd.laysPa47 : Go.Proofs.Lays.p47 Tryd.prog Tryd.laysPa47_ren := {
  mixed := by kernel_rfl
  f47 := Tryd.func83.trans (congrArg some (by kernel_rfl))
  t0 := Tryd.underlying0
  a0 := Tryd.isAgg0
  z0 := Tryd.sizeOf0
  v0 := Tryd.zeroValue0
  t3 := Tryd.underlying3
  a3 := Tryd.isAgg3
  z3 := Tryd.sizeOf3
  v3 := Tryd.zeroValue3
  t4 := Tryd.underlying4
  a4 := Tryd.isAgg4
  z4 := Tryd.sizeOf4
  v4 := Tryd.zeroValue4
  t5 := Tryd.underlying5
  a5 := Tryd.isAgg5
  z5 := Tryd.sizeOf5
  v5 := Tryd.zeroValue5
  t9 := Tryd.underlying9
  a9 := Tryd.isAgg9
  z9 := Tryd.sizeOf9
  v9 := Tryd.zeroValue9
  t30 := Tryd.underlying137
  a30 := Tryd.isAgg137
  z30 := Tryd.sizeOf137
  v30 := Tryd.zeroValue137
  t42 := Tryd.underlying139
  a42 := Tryd.isAgg139
  z42 := Tryd.sizeOf139
  v42 := Tryd.zeroValue139
  t48 := Tryd.underlying149
  a48 := Tryd.isAgg149
  z48 := Tryd.sizeOf149
  v48 := Tryd.zeroValue149 }
open Go.RowKit Go.Lib in
/-- (*path.lazybuf).index: the byte at place i of what the buffer reads ('c'); the world is as it was. (LAID: no walk: one application.) -/
theorem Tryd.lazybuf_index (B : Nat) (s : ByteArray) (c : List UInt8) (wv i : Nat) (w : World) (hz : Lz.Lazy 139 5 B s c wv w) (hi : i < s.size) :
    Calls Tryd.prog 83 #[.pointer (some ⟨B, 0, none⟩), .int .i64 i] w fun e w' => e = .returned (.int .u8 ((c[i]?.getD 0).toNat : Int)) ∧ w' = w := Any.lazybuf_index Tryd.laysPa47 B s c wv i w hz hi
def Tryd.laysPa48_ren : Go.Shelf.Ren := ⟨fun | 48 => 84 | n => n, fun | 48 => 149 | 9 => 9 | 0 => 0 | 42 => 139 | 30 => 137 | 4 => 4 | 3 => 3 | 5 => 5 | n => n, fun | n => n⟩
theorem Tryd.laysPa48 : Go.Proofs.Lays.p48 Tryd.prog Tryd.laysPa48_ren := {
  mixed := by kernel_rfl
  f48 := Tryd.func84.trans (congrArg some (by kernel_rfl))
  t0 := Tryd.underlying0
  a0 := Tryd.isAgg0
  z0 := Tryd.sizeOf0
  v0 := Tryd.zeroValue0
  t3 := Tryd.underlying3
  a3 := Tryd.isAgg3
  z3 := Tryd.sizeOf3
  v3 := Tryd.zeroValue3
  t4 := Tryd.underlying4
  a4 := Tryd.isAgg4
  z4 := Tryd.sizeOf4
  v4 := Tryd.zeroValue4
  t5 := Tryd.underlying5
  a5 := Tryd.isAgg5
  z5 := Tryd.sizeOf5
  v5 := Tryd.zeroValue5
  t9 := Tryd.underlying9
  a9 := Tryd.isAgg9
  z9 := Tryd.sizeOf9
  v9 := Tryd.zeroValue9
  t30 := Tryd.underlying137
  a30 := Tryd.isAgg137
  z30 := Tryd.sizeOf137
  v30 := Tryd.zeroValue137
  t42 := Tryd.underlying139
  a42 := Tryd.isAgg139
  z42 := Tryd.sizeOf139
  v42 := Tryd.zeroValue139
  t48 := Tryd.underlying149
  a48 := Tryd.isAgg149
  z48 := Tryd.sizeOf149
  v48 := Tryd.zeroValue149 }
open Go.RowKit Go.Lib in
/-- (*path.lazybuf).string: what has been appended, as a string; the world is as it was but for the count of draws. (LAID: no walk: one application.) -/
theorem Tryd.lazybuf_string (B : Nat) (s : ByteArray) (c : List UInt8) (wv : Nat) (w : World) (hz : Lz.Lazy 139 5 B s c wv w) (hw : wv ≤ s.size) :
    Calls Tryd.prog 84 #[.pointer (some ⟨B, 0, none⟩)] w fun e w' => e = .returned (.string ⟨(c.take wv).toArray⟩) ∧ ∃ n, w' = w.drewN n := Any.lazybuf_string Tryd.laysPa48 B s c wv w hz hw
def Tryd.laysPah46_ren : Go.Shelf.Ren := ⟨fun | 46 => 82 | n => n, fun | 48 => 149 | 5 => 5 | 0 => 0 | 42 => 139 | 30 => 137 | 4 => 4 | 3 => 3 | 9 => 9 | n => n, fun | n => n⟩
theorem Tryd.laysPah46 : Go.Proofs.Lays.ph46 Tryd.prog Tryd.laysPah46_ren := {
  mixed := by kernel_rfl
  f46 := Tryd.func82.trans (congrArg some (by kernel_rfl))
  t0 := Tryd.underlying0
  a0 := Tryd.isAgg0
  z0 := Tryd.sizeOf0
  v0 := Tryd.zeroValue0
  t3 := Tryd.underlying3
  a3 := Tryd.isAgg3
  z3 := Tryd.sizeOf3
  v3 := Tryd.zeroValue3
  t4 := Tryd.underlying4
  a4 := Tryd.isAgg4
  z4 := Tryd.sizeOf4
  v4 := Tryd.zeroValue4
  t5 := Tryd.underlying5
  a5 := Tryd.isAgg5
  z5 := Tryd.sizeOf5
  v5 := Tryd.zeroValue5
  t9 := Tryd.underlying9
  a9 := Tryd.isAgg9
  z9 := Tryd.sizeOf9
  v9 := Tryd.zeroValue9
  t30 := Tryd.underlying137
  a30 := Tryd.isAgg137
  z30 := Tryd.sizeOf137
  v30 := Tryd.zeroValue137
  t42 := Tryd.underlying139
  a42 := Tryd.isAgg139
  z42 := Tryd.sizeOf139
  v42 := Tryd.zeroValue139
  t48 := Tryd.underlying149
  a48 := Tryd.isAgg149
  z48 := Tryd.sizeOf149
  v48 := Tryd.zeroValue149
  info5 := by kernel_rfl }
open Go.RowKit Go.Lib in
/-- (*path.lazybuf).append, wherever there is room ('w < len(s)'): THE BUFFER THEN READS SOME c' WHOSE FIRST w + 1 BYTES ARE WHAT HAD BEEN APPENDED, AND x; below block B the world is as it was. (All three ways of the text: the byte is s's own next byte · the output parts from s here: 'make', 'copy' · the buffer is there already.) (LAID: no walk: one application.) -/
theorem Tryd.lazybuf_append (B : Nat) (s : ByteArray) (c : List UInt8) (wv : Nat) (x : UInt8) (w : World) (hz : Lz.Lazy 139 5 B s c wv w) (hw : wv < s.size) (hbig : s.size ≤ 281474976710656) :
    Calls Tryd.prog 82 #[.pointer (some ⟨B, 0, none⟩), .int .u8 (x.toNat : Int)] w fun e w' => e = .returned (.tuple #[]) ∧ ∃ c', Lz.Lazy 139 5 B s c' (wv + 1) w' ∧ c'.take (wv + 1) = c.take wv ++ [x] ∧ Below B w w' := Any.lazybuf_append Tryd.laysPah46 B s c wv x w hz hw hbig
open Go.RowKit Go.Lib in
/-- append at the slash and at the dot, as path.Clean calls it. (LAID: no walk: one application.) -/
theorem Tryd.lazybuf_append47 (B : Nat) (s : ByteArray) (c : List UInt8) (wv : Nat) (w : World) (hz : Lz.Lazy 139 5 B s c wv w) (hw : wv < s.size) (hbig : s.size ≤ 281474976710656) :
    Calls Tryd.prog 82 #[.pointer (some ⟨B, 0, none⟩), .int .u8 47] w fun e w' => e = .returned (.tuple #[]) ∧ ∃ c', Lz.Lazy 139 5 B s c' (wv + 1) w' ∧ c'.take (wv + 1) = c.take wv ++ [47] ∧ Below B w w' := Any.lazybuf_append47 Tryd.laysPah46 B s c wv w hz hw hbig
open Go.RowKit Go.Lib in
theorem Tryd.lazybuf_append46 (B : Nat) (s : ByteArray) (c : List UInt8) (wv : Nat) (w : World) (hz : Lz.Lazy 139 5 B s c wv w) (hw : wv < s.size) (hbig : s.size ≤ 281474976710656) :
    Calls Tryd.prog 82 #[.pointer (some ⟨B, 0, none⟩), .int .u8 46] w fun e w' => e = .returned (.tuple #[]) ∧ ∃ c', Lz.Lazy 139 5 B s c' (wv + 1) w' ∧ c'.take (wv + 1) = c.take wv ++ [46] ∧ Below B w w' := Any.lazybuf_append46 Tryd.laysPah46 B s c wv w hz hw hbig
def Tryd.laysPah30_ren : Go.Shelf.Ren := ⟨fun | 30 => 72 | 46 => 82 | 47 => 83 | 48 => 84 | n => n, fun | 9 => 9 | 4 => 4 | 5 => 5 | 3 => 3 | 42 => 139 | 0 => 0 | 48 => 149 | 30 => 137 | n => n, fun | n => n⟩
theorem Tryd.laysPah30 : Go.Proofs.Lays.ph30 Tryd.prog Tryd.laysPah30_ren := {
  mixed := by kernel_rfl
  f30 := Tryd.func72.trans (congrArg some (by kernel_rfl))
  f46 := Tryd.func82.trans (congrArg some (by kernel_rfl))
  f47 := Tryd.func83.trans (congrArg some (by kernel_rfl))
  f48 := Tryd.func84.trans (congrArg some (by kernel_rfl))
  t0 := Tryd.underlying0
  a0 := Tryd.isAgg0
  z0 := Tryd.sizeOf0
  v0 := Tryd.zeroValue0
  t3 := Tryd.underlying3
  a3 := Tryd.isAgg3
  z3 := Tryd.sizeOf3
  v3 := Tryd.zeroValue3
  t4 := Tryd.underlying4
  a4 := Tryd.isAgg4
  z4 := Tryd.sizeOf4
  v4 := Tryd.zeroValue4
  t5 := Tryd.underlying5
  a5 := Tryd.isAgg5
  z5 := Tryd.sizeOf5
  v5 := Tryd.zeroValue5
  t9 := Tryd.underlying9
  a9 := Tryd.isAgg9
  z9 := Tryd.sizeOf9
  v9 := Tryd.zeroValue9
  t30 := Tryd.underlying137
  a30 := Tryd.isAgg137
  z30 := Tryd.sizeOf137
  v30 := Tryd.zeroValue137
  t42 := Tryd.underlying139
  a42 := Tryd.isAgg139
  z42 := Tryd.sizeOf139
  v42 := Tryd.zeroValue139
  t48 := Tryd.underlying149
  a48 := Tryd.isAgg149
  z48 := Tryd.sizeOf149
  v48 := Tryd.zeroValue149
  info5 := by kernel_rfl }
open Go.RowKit Go.Lib in
theorem Tryd.path_Clean_rel (s : ByteArray) (w : World) (hbig : s.size ≤ 281474976710656) (h0 : 0 < s.size) (hro : (s[0]'h0) ≠ 47) (R RR : List UInt8) (hR : Pa.cleanLoop s.data.toList false s.data.toList.length [] 0 0 = R) (hRR : (if R = [] then [46] else R) = RR) :
    Calls Tryd.prog 72 #[.string s] w fun e w' => e = .returned (.string ⟨RR.toArray⟩) ∧ Below w.heap.size w w' := Any.path_Clean_rel Tryd.laysPah30 s w hbig h0 hro R RR hR hRR
open Go.RowKit Go.Lib in
theorem Tryd.path_Clean_abs (s : ByteArray) (w : World) (hbig : s.size ≤ 281474976710656) (h0 : 0 < s.size) (hro : (s[0]'h0) = 47) (R RR : List UInt8) (hR : Pa.cleanLoop s.data.toList true s.data.toList.length [47] 1 1 = R) (hRR : (if R = [] then [46] else R) = RR) :
    Calls Tryd.prog 72 #[.string s] w fun e w' => e = .returned (.string ⟨RR.toArray⟩) ∧ Below w.heap.size w w' := Any.path_Clean_abs Tryd.laysPah30 s w hbig h0 hro R RR hR hRR
open Go.RowKit Go.Lib in
/-- path.Clean: "Clean returns the shortest path name equivalent to path by purely lexical processing. It applies the following rules iteratively until no further processing can be done: 1. Replace multiple slashes with a single slash. 2. Eliminate each . path name element (the current directory). 3. Eliminate each inner .. path name element (the parent directory) along with the non-.. element that precedes it. 4. Eliminate .. elements that begin a rooted path: that is, replace "/.." by "/" at the beginning of a path. The returned path ends in a slash only if it is the root "/". If the result of this process is an empty string, Clean returns the string ".".": IT RETURNS 'Pa.clean path'. (LAID: no walk: one application.) -/
theorem Tryd.path_Clean (s : ByteArray) (w : World) (hbig : s.size ≤ 281474976710656) :
    Calls Tryd.prog 72 #[.string s] w fun e w' => e = .returned (.string ⟨(Pa.clean s.data.toList).toArray⟩) ∧ Below w.heap.size w w' := Any.path_Clean Tryd.laysPah30 s w hbig
open Go.RowKit Go.Lib in
theorem Tryd.path_Clean_rules (s : ByteArray) (w : World) (hbig : s.size ≤ 281474976710656) :
    Calls Tryd.prog 72 #[.string s] w fun e w' => e = .returned (.string ⟨(Pa.cleanEls s.data.toList).toArray⟩) ∧ Below w.heap.size w w' := Any.path_Clean_rules Tryd.laysPah30 s w hbig
end Go.Proofs
