/-
  DERIVED: THE SHELF's CONTRACTS AT THIS DUMP, IN PLAIN WORDS (tools/lay-plain.mjs out of 'TrydShelf.lean', which tools/lay-shelf.mjs wrote): THE SAME DECLARATIONS UNDER THE SAME NAMES: 'import', 'namespace', 'open', 'def', 'theorem' AND NOTHING ELSE: no command of the shelf's: FOR A HAND-IN. Each laying: the table of numbers ('.._ren') and one theorem, a field a fact of the dump's own or the kernel's comparison; each contract: ONE APPLICATION.
-/
import Derived.Shelf.Small.Strs
import Derived.Shelf.Small.Wraps
import Derived.Shelf.Strings.Search1
import Derived.Shelf.Strings.Prefix
import Derived.Ground.PaProg
import Derived.Shelf.Path.LazyBuf
import Derived.Shelf.Path.CleanRel
import Derived.Shelf.Path.CleanAbs
import Derived.Shelf.Path.Clean
import Derived.Shelf.Path.CleanRules
import Derived.Test.YtkfokofccakagaaDoorProg
namespace Go.Proofs
open Go.Shelf
def Tryd.lays137_ren : Go.Shelf.Ren := ⟨fun | 137 => 68 | 217 => 78 | 266 => 87 | n => n, fun | 9 => 9 | 5 => 5 | 3 => 3 | n => n, fun | n => n⟩
theorem Tryd.lays137 : Go.Proofs.Lays.n137 Tryd.prog Tryd.lays137_ren := {
  mixed := by kernel_rfl
  f137 := Tryd.func68.trans (congrArg some (by kernel_rfl))
  f217 := Tryd.func78.trans (congrArg some (by kernel_rfl))
  f266 := Tryd.func87.trans (congrArg some (by kernel_rfl))
  t3 := Tryd.underlying3
  a3 := Tryd.isAgg3
  z3 := Tryd.sizeOf3
  v3 := Tryd.zeroValue3
  t5 := Tryd.underlying5
  a5 := Tryd.isAgg5
  z5 := Tryd.sizeOf5
  v5 := Tryd.zeroValue5
  t9 := Tryd.underlying9
  a9 := Tryd.isAgg9
  z9 := Tryd.sizeOf9
  v9 := Tryd.zeroValue9 }
open Go.RowKit in
/-- strings.IndexByte: "IndexByte returns the index of the first instance of c in s, or -1 if c is not present in s.": IT RETURNS 'Lib.indexByte s c'; the world is as it was. (LAID: no walk: one application.) -/
theorem Tryd.strings_IndexByte (s : ByteArray) (c : Int) (w : World) :
    Calls Tryd.prog 68 #[.string s, .int .u8 c] w fun e w' => e = .returned (.int .i64 (Lib.indexByte s.data.toList c.toNat.toUInt8)) ∧ w' = w := Any.strings_IndexByte Tryd.lays137 s c w
def Tryd.lays211_ren : Go.Shelf.Ren := ⟨fun | 211 => 82 | 207 => 93 | n => n, fun | 9 => 9 | 4 => 4 | 3 => 3 | n => n, fun | n => n⟩
theorem Tryd.lays211 : Go.Proofs.Lays.n211 Tryd.prog Tryd.lays211_ren := {
  mixed := by kernel_rfl
  f207 := Tryd.func93.trans (congrArg some (by kernel_rfl))
  f211 := Tryd.func82.trans (congrArg some (by kernel_rfl))
  t3 := Tryd.underlying3
  a3 := Tryd.isAgg3
  z3 := Tryd.sizeOf3
  v3 := Tryd.zeroValue3
  t4 := Tryd.underlying4
  a4 := Tryd.isAgg4
  z4 := Tryd.sizeOf4
  v4 := Tryd.zeroValue4
  t9 := Tryd.underlying9
  a9 := Tryd.isAgg9
  z9 := Tryd.sizeOf9
  v9 := Tryd.zeroValue9 }
open Go.RowKit in
/-- internal/stringslite.CutSuffix (what strings.CutSuffix calls). (LAID: no walk: one application.) -/
theorem Tryd.stringslite_CutSuffix (s p : ByteArray) (w : World) (hs : s.size ≤ 9223372036854775807) :
    Calls Tryd.prog 82 #[.string s, .string p] w fun e w' => e = .returned (.tuple #[.string ⟨(Lib.trimSuffix s.data.toList p.data.toList).toArray⟩, .bool (Lib.hasSuffix s.data.toList p.data.toList)]) ∧ w' = w := Any.stringslite_CutSuffix Tryd.lays211 s p w hs
def Tryd.lays104_ren : Go.Shelf.Ren := ⟨fun | 104 => 71 | 211 => 82 | 207 => 93 | n => n, fun | 9 => 9 | 4 => 4 | 24 => 100 | 3 => 3 | n => n, fun | n => n⟩
theorem Tryd.lays104 : Go.Proofs.Lays.n104 Tryd.prog Tryd.lays104_ren := {
  mixed := by kernel_rfl
  f104 := Tryd.func71.trans (congrArg some (by kernel_rfl))
  f207 := Tryd.func93.trans (congrArg some (by kernel_rfl))
  f211 := Tryd.func82.trans (congrArg some (by kernel_rfl))
  t3 := Tryd.underlying3
  a3 := Tryd.isAgg3
  z3 := Tryd.sizeOf3
  v3 := Tryd.zeroValue3
  t4 := Tryd.underlying4
  a4 := Tryd.isAgg4
  z4 := Tryd.sizeOf4
  v4 := Tryd.zeroValue4
  t9 := Tryd.underlying9
  a9 := Tryd.isAgg9
  z9 := Tryd.sizeOf9
  v9 := Tryd.zeroValue9
  t24 := Tryd.underlying100
  a24 := Tryd.isAgg100
  z24 := Tryd.sizeOf100
  v24 := Tryd.zeroValue100 }
open Go.RowKit in
/-- strings.CutSuffix: "CutSuffix returns s without the provided ending suffix string and reports whether it found the suffix. If s doesn't end with suffix, CutSuffix returns s, false. If suffix is the empty string, CutSuffix returns s, true.": IT RETURNS '(Lib.trimSuffix s p, Lib.hasSuffix s p)'; the world is as it was. (LAID: no walk: one application.) -/
theorem Tryd.strings_CutSuffix (s p : ByteArray) (w : World) (hs : s.size ≤ 9223372036854775807) :
    Calls Tryd.prog 71 #[.string s, .string p] w fun e w' => e = .returned (.tuple #[.string ⟨(Lib.trimSuffix s.data.toList p.data.toList).toArray⟩, .bool (Lib.hasSuffix s.data.toList p.data.toList)]) ∧ w' = w := Any.strings_CutSuffix Tryd.lays104 s p w hs
def Tryd.lays217_ren : Go.Shelf.Ren := ⟨fun | 217 => 78 | 266 => 87 | n => n, fun | 9 => 9 | 5 => 5 | 3 => 3 | n => n, fun | n => n⟩
theorem Tryd.lays217 : Go.Proofs.Lays.n217 Tryd.prog Tryd.lays217_ren := {
  mixed := by kernel_rfl
  f217 := Tryd.func78.trans (congrArg some (by kernel_rfl))
  f266 := Tryd.func87.trans (congrArg some (by kernel_rfl))
  t3 := Tryd.underlying3
  a3 := Tryd.isAgg3
  z3 := Tryd.sizeOf3
  v3 := Tryd.zeroValue3
  t5 := Tryd.underlying5
  a5 := Tryd.isAgg5
  z5 := Tryd.sizeOf5
  v5 := Tryd.zeroValue5
  t9 := Tryd.underlying9
  a9 := Tryd.isAgg9
  z9 := Tryd.sizeOf9
  v9 := Tryd.zeroValue9 }
open Go.RowKit Go.Lib in
/-- internal/stringslite.IndexByte (what strings.IndexByte calls): IT RETURNS 'Lib.indexByte s c'; the world is as it was. (LAID: no walk: one application.) -/
theorem Tryd.stringslite_IndexByte (s : ByteArray) (c : Int) (w : World) :
    Calls Tryd.prog 78 #[.string s, .int .u8 c] w fun e w' => e = .returned (.int .i64 (Lib.indexByte s.data.toList c.toNat.toUInt8)) ∧ w' = w := Any.stringslite_IndexByte Tryd.lays217 s c w
def Tryd.lays206_ren : Go.Shelf.Ren := ⟨fun | 206 => 91 | n => n, fun | 9 => 9 | 4 => 4 | 3 => 3 | n => n, fun | n => n⟩
theorem Tryd.lays206 : Go.Proofs.Lays.n206 Tryd.prog Tryd.lays206_ren := {
  mixed := by kernel_rfl
  f206 := Tryd.func91.trans (congrArg some (by kernel_rfl))
  t3 := Tryd.underlying3
  a3 := Tryd.isAgg3
  z3 := Tryd.sizeOf3
  v3 := Tryd.zeroValue3
  t4 := Tryd.underlying4
  a4 := Tryd.isAgg4
  z4 := Tryd.sizeOf4
  v4 := Tryd.zeroValue4
  t9 := Tryd.underlying9
  a9 := Tryd.isAgg9
  z9 := Tryd.sizeOf9
  v9 := Tryd.zeroValue9 }
open Go.RowKit Go.Lib in
/-- internal/stringslite.HasPrefix (what strings.HasPrefix calls). (LAID: no walk: one application.) -/
theorem Tryd.stringslite_HasPrefix (s p : ByteArray) (w : World) :
    Calls Tryd.prog 91 #[.string s, .string p] w fun e w' => e = .returned (.bool (Lib.hasPrefix s.data.toList p.data.toList)) ∧ w' = w := Any.stringslite_HasPrefix Tryd.lays206 s p w
def Tryd.lays99_ren : Go.Shelf.Ren := ⟨fun | 99 => 80 | 206 => 91 | n => n, fun | 9 => 9 | 4 => 4 | 3 => 3 | n => n, fun | n => n⟩
theorem Tryd.lays99 : Go.Proofs.Lays.n99 Tryd.prog Tryd.lays99_ren := {
  mixed := by kernel_rfl
  f99 := Tryd.func80.trans (congrArg some (by kernel_rfl))
  f206 := Tryd.func91.trans (congrArg some (by kernel_rfl))
  t3 := Tryd.underlying3
  a3 := Tryd.isAgg3
  z3 := Tryd.sizeOf3
  v3 := Tryd.zeroValue3
  t4 := Tryd.underlying4
  a4 := Tryd.isAgg4
  z4 := Tryd.sizeOf4
  v4 := Tryd.zeroValue4
  t9 := Tryd.underlying9
  a9 := Tryd.isAgg9
  z9 := Tryd.sizeOf9
  v9 := Tryd.zeroValue9 }
open Go.RowKit Go.Lib in
/-- strings.HasPrefix: "HasPrefix reports whether the string s begins with prefix.": IT RETURNS 'Lib.hasPrefix s prefix'; the world is as it was. (LAID: no walk: one application.) -/
theorem Tryd.strings_HasPrefix (s p : ByteArray) (w : World) :
    Calls Tryd.prog 80 #[.string s, .string p] w fun e w' => e = .returned (.bool (Lib.hasPrefix s.data.toList p.data.toList)) ∧ w' = w := Any.strings_HasPrefix Tryd.lays99 s p w
def Tryd.lays207_ren : Go.Shelf.Ren := ⟨fun | 207 => 93 | n => n, fun | 9 => 9 | 4 => 4 | 3 => 3 | n => n, fun | n => n⟩
theorem Tryd.lays207 : Go.Proofs.Lays.n207 Tryd.prog Tryd.lays207_ren := {
  mixed := by kernel_rfl
  f207 := Tryd.func93.trans (congrArg some (by kernel_rfl))
  t3 := Tryd.underlying3
  a3 := Tryd.isAgg3
  z3 := Tryd.sizeOf3
  v3 := Tryd.zeroValue3
  t4 := Tryd.underlying4
  a4 := Tryd.isAgg4
  z4 := Tryd.sizeOf4
  v4 := Tryd.zeroValue4
  t9 := Tryd.underlying9
  a9 := Tryd.isAgg9
  z9 := Tryd.sizeOf9
  v9 := Tryd.zeroValue9 }
open Go.RowKit Go.Lib in
/-- internal/stringslite.HasSuffix (what strings.HasSuffix calls). (LAID: no walk: one application.) -/
theorem Tryd.stringslite_HasSuffix (s p : ByteArray) (w : World) (hs : s.size ≤ 9223372036854775807) :
    Calls Tryd.prog 93 #[.string s, .string p] w fun e w' => e = .returned (.bool (Lib.hasSuffix s.data.toList p.data.toList)) ∧ w' = w := Any.stringslite_HasSuffix Tryd.lays207 s p w hs
def Tryd.laysPa47_ren : Go.Shelf.Ren := ⟨fun | 47 => 89 | n => n, fun | 48 => 125 | 3 => 3 | 5 => 5 | 0 => 0 | 42 => 116 | 30 => 71 | 4 => 4 | 9 => 9 | n => n, fun | n => n⟩
theorem Tryd.laysPa47 : Go.Proofs.Lays.p47 Tryd.prog Tryd.laysPa47_ren := {
  mixed := by kernel_rfl
  f47 := Tryd.func89.trans (congrArg some (by kernel_rfl))
  t0 := Tryd.underlying0
  a0 := Tryd.isAgg0
  z0 := Tryd.sizeOf0
  v0 := Tryd.zeroValue0
  t3 := Tryd.underlying3
  a3 := Tryd.isAgg3
  z3 := Tryd.sizeOf3
  v3 := Tryd.zeroValue3
  t4 := Tryd.underlying4
  a4 := Tryd.isAgg4
  z4 := Tryd.sizeOf4
  v4 := Tryd.zeroValue4
  t5 := Tryd.underlying5
  a5 := Tryd.isAgg5
  z5 := Tryd.sizeOf5
  v5 := Tryd.zeroValue5
  t9 := Tryd.underlying9
  a9 := Tryd.isAgg9
  z9 := Tryd.sizeOf9
  v9 := Tryd.zeroValue9
  t30 := Tryd.underlying71
  a30 := Tryd.isAgg71
  z30 := Tryd.sizeOf71
  v30 := Tryd.zeroValue71
  t42 := Tryd.underlying116
  a42 := Tryd.isAgg116
  z42 := Tryd.sizeOf116
  v42 := Tryd.zeroValue116
  t48 := Tryd.underlying125
  a48 := Tryd.isAgg125
  z48 := Tryd.sizeOf125
  v48 := Tryd.zeroValue125 }
open Go.RowKit Go.Lib in
/-- (*path.lazybuf).index: the byte at place i of what the buffer reads ('c'); the world is as it was. (LAID: no walk: one application.) -/
theorem Tryd.lazybuf_index (B : Nat) (s : ByteArray) (c : List UInt8) (wv i : Nat) (w : World) (hz : Lz.Lazy 116 5 B s c wv w) (hi : i < s.size) :
    Calls Tryd.prog 89 #[.pointer (some ⟨B, 0, none⟩), .int .i64 i] w fun e w' => e = .returned (.int .u8 ((c[i]?.getD 0).toNat : Int)) ∧ w' = w := Any.lazybuf_index Tryd.laysPa47 B s c wv i w hz hi
def Tryd.laysPa48_ren : Go.Shelf.Ren := ⟨fun | 48 => 90 | n => n, fun | 48 => 125 | 9 => 9 | 0 => 0 | 42 => 116 | 30 => 71 | 4 => 4 | 3 => 3 | 5 => 5 | n => n, fun | n => n⟩
theorem Tryd.laysPa48 : Go.Proofs.Lays.p48 Tryd.prog Tryd.laysPa48_ren := {
  mixed := by kernel_rfl
  f48 := Tryd.func90.trans (congrArg some (by kernel_rfl))
  t0 := Tryd.underlying0
  a0 := Tryd.isAgg0
  z0 := Tryd.sizeOf0
  v0 := Tryd.zeroValue0
  t3 := Tryd.underlying3
  a3 := Tryd.isAgg3
  z3 := Tryd.sizeOf3
  v3 := Tryd.zeroValue3
  t4 := Tryd.underlying4
  a4 := Tryd.isAgg4
  z4 := Tryd.sizeOf4
  v4 := Tryd.zeroValue4
  t5 := Tryd.underlying5
  a5 := Tryd.isAgg5
  z5 := Tryd.sizeOf5
  v5 := Tryd.zeroValue5
  t9 := Tryd.underlying9
  a9 := Tryd.isAgg9
  z9 := Tryd.sizeOf9
  v9 := Tryd.zeroValue9
  t30 := Tryd.underlying71
  a30 := Tryd.isAgg71
  z30 := Tryd.sizeOf71
  v30 := Tryd.zeroValue71
  t42 := Tryd.underlying116
  a42 := Tryd.isAgg116
  z42 := Tryd.sizeOf116
  v42 := Tryd.zeroValue116
  t48 := Tryd.underlying125
  a48 := Tryd.isAgg125
  z48 := Tryd.sizeOf125
  v48 := Tryd.zeroValue125 }
open Go.RowKit Go.Lib in
/-- (*path.lazybuf).string: what has been appended, as a string; the world is as it was but for the count of draws. (LAID: no walk: one application.) -/
theorem Tryd.lazybuf_string (B : Nat) (s : ByteArray) (c : List UInt8) (wv : Nat) (w : World) (hz : Lz.Lazy 116 5 B s c wv w) (hw : wv ≤ s.size) :
    Calls Tryd.prog 90 #[.pointer (some ⟨B, 0, none⟩)] w fun e w' => e = .returned (.string ⟨(c.take wv).toArray⟩) ∧ ∃ n, w' = w.drewN n := Any.lazybuf_string Tryd.laysPa48 B s c wv w hz hw
def Tryd.laysPah46_ren : Go.Shelf.Ren := ⟨fun | 46 => 88 | n => n, fun | 48 => 125 | 5 => 5 | 0 => 0 | 42 => 116 | 30 => 71 | 4 => 4 | 3 => 3 | 9 => 9 | n => n, fun | n => n⟩
theorem Tryd.laysPah46 : Go.Proofs.Lays.ph46 Tryd.prog Tryd.laysPah46_ren := {
  mixed := by kernel_rfl
  f46 := Tryd.func88.trans (congrArg some (by kernel_rfl))
  t0 := Tryd.underlying0
  a0 := Tryd.isAgg0
  z0 := Tryd.sizeOf0
  v0 := Tryd.zeroValue0
  t3 := Tryd.underlying3
  a3 := Tryd.isAgg3
  z3 := Tryd.sizeOf3
  v3 := Tryd.zeroValue3
  t4 := Tryd.underlying4
  a4 := Tryd.isAgg4
  z4 := Tryd.sizeOf4
  v4 := Tryd.zeroValue4
  t5 := Tryd.underlying5
  a5 := Tryd.isAgg5
  z5 := Tryd.sizeOf5
  v5 := Tryd.zeroValue5
  t9 := Tryd.underlying9
  a9 := Tryd.isAgg9
  z9 := Tryd.sizeOf9
  v9 := Tryd.zeroValue9
  t30 := Tryd.underlying71
  a30 := Tryd.isAgg71
  z30 := Tryd.sizeOf71
  v30 := Tryd.zeroValue71
  t42 := Tryd.underlying116
  a42 := Tryd.isAgg116
  z42 := Tryd.sizeOf116
  v42 := Tryd.zeroValue116
  t48 := Tryd.underlying125
  a48 := Tryd.isAgg125
  z48 := Tryd.sizeOf125
  v48 := Tryd.zeroValue125
  info5 := by kernel_rfl }
open Go.RowKit Go.Lib in
/-- (*path.lazybuf).append, wherever there is room ('w < len(s)'): THE BUFFER THEN READS SOME c' WHOSE FIRST w + 1 BYTES ARE WHAT HAD BEEN APPENDED, AND x; below block B the world is as it was. (All three ways of the text: the byte is s's own next byte · the output parts from s here: 'make', 'copy' · the buffer is there already.) (LAID: no walk: one application.) -/
theorem Tryd.lazybuf_append (B : Nat) (s : ByteArray) (c : List UInt8) (wv : Nat) (x : UInt8) (w : World) (hz : Lz.Lazy 116 5 B s c wv w) (hw : wv < s.size) (hbig : s.size ≤ 281474976710656) :
    Calls Tryd.prog 88 #[.pointer (some ⟨B, 0, none⟩), .int .u8 (x.toNat : Int)] w fun e w' => e = .returned (.tuple #[]) ∧ ∃ c', Lz.Lazy 116 5 B s c' (wv + 1) w' ∧ c'.take (wv + 1) = c.take wv ++ [x] ∧ Below B w w' := Any.lazybuf_append Tryd.laysPah46 B s c wv x w hz hw hbig
open Go.RowKit Go.Lib in
/-- append at the slash and at the dot, as path.Clean calls it. (LAID: no walk: one application.) -/
theorem Tryd.lazybuf_append47 (B : Nat) (s : ByteArray) (c : List UInt8) (wv : Nat) (w : World) (hz : Lz.Lazy 116 5 B s c wv w) (hw : wv < s.size) (hbig : s.size ≤ 281474976710656) :
    Calls Tryd.prog 88 #[.pointer (some ⟨B, 0, none⟩), .int .u8 47] w fun e w' => e = .returned (.tuple #[]) ∧ ∃ c', Lz.Lazy 116 5 B s c' (wv + 1) w' ∧ c'.take (wv + 1) = c.take wv ++ [47] ∧ Below B w w' := Any.lazybuf_append47 Tryd.laysPah46 B s c wv w hz hw hbig
open Go.RowKit Go.Lib in
theorem Tryd.lazybuf_append46 (B : Nat) (s : ByteArray) (c : List UInt8) (wv : Nat) (w : World) (hz : Lz.Lazy 116 5 B s c wv w) (hw : wv < s.size) (hbig : s.size ≤ 281474976710656) :
    Calls Tryd.prog 88 #[.pointer (some ⟨B, 0, none⟩), .int .u8 46] w fun e w' => e = .returned (.tuple #[]) ∧ ∃ c', Lz.Lazy 116 5 B s c' (wv + 1) w' ∧ c'.take (wv + 1) = c.take wv ++ [46] ∧ Below B w w' := Any.lazybuf_append46 Tryd.laysPah46 B s c wv w hz hw hbig
def Tryd.laysPah30_ren : Go.Shelf.Ren := ⟨fun | 30 => 79 | 46 => 88 | 47 => 89 | 48 => 90 | n => n, fun | 9 => 9 | 4 => 4 | 5 => 5 | 3 => 3 | 42 => 116 | 0 => 0 | 48 => 125 | 30 => 71 | n => n, fun | n => n⟩
theorem Tryd.laysPah30 : Go.Proofs.Lays.ph30 Tryd.prog Tryd.laysPah30_ren := {
  mixed := by kernel_rfl
  f30 := Tryd.func79.trans (congrArg some (by kernel_rfl))
  f46 := Tryd.func88.trans (congrArg some (by kernel_rfl))
  f47 := Tryd.func89.trans (congrArg some (by kernel_rfl))
  f48 := Tryd.func90.trans (congrArg some (by kernel_rfl))
  t0 := Tryd.underlying0
  a0 := Tryd.isAgg0
  z0 := Tryd.sizeOf0
  v0 := Tryd.zeroValue0
  t3 := Tryd.underlying3
  a3 := Tryd.isAgg3
  z3 := Tryd.sizeOf3
  v3 := Tryd.zeroValue3
  t4 := Tryd.underlying4
  a4 := Tryd.isAgg4
  z4 := Tryd.sizeOf4
  v4 := Tryd.zeroValue4
  t5 := Tryd.underlying5
  a5 := Tryd.isAgg5
  z5 := Tryd.sizeOf5
  v5 := Tryd.zeroValue5
  t9 := Tryd.underlying9
  a9 := Tryd.isAgg9
  z9 := Tryd.sizeOf9
  v9 := Tryd.zeroValue9
  t30 := Tryd.underlying71
  a30 := Tryd.isAgg71
  z30 := Tryd.sizeOf71
  v30 := Tryd.zeroValue71
  t42 := Tryd.underlying116
  a42 := Tryd.isAgg116
  z42 := Tryd.sizeOf116
  v42 := Tryd.zeroValue116
  t48 := Tryd.underlying125
  a48 := Tryd.isAgg125
  z48 := Tryd.sizeOf125
  v48 := Tryd.zeroValue125
  info5 := by kernel_rfl }
open Go.RowKit Go.Lib in
theorem Tryd.path_Clean_rel (s : ByteArray) (w : World) (hbig : s.size ≤ 281474976710656) (h0 : 0 < s.size) (hro : (s[0]'h0) ≠ 47) (R RR : List UInt8) (hR : Pa.cleanLoop s.data.toList false s.data.toList.length [] 0 0 = R) (hRR : (if R = [] then [46] else R) = RR) :
    Calls Tryd.prog 79 #[.string s] w fun e w' => e = .returned (.string ⟨RR.toArray⟩) ∧ Below w.heap.size w w' := Any.path_Clean_rel Tryd.laysPah30 s w hbig h0 hro R RR hR hRR
open Go.RowKit Go.Lib in
theorem Tryd.path_Clean_abs (s : ByteArray) (w : World) (hbig : s.size ≤ 281474976710656) (h0 : 0 < s.size) (hro : (s[0]'h0) = 47) (R RR : List UInt8) (hR : Pa.cleanLoop s.data.toList true s.data.toList.length [47] 1 1 = R) (hRR : (if R = [] then [46] else R) = RR) :
    Calls Tryd.prog 79 #[.string s] w fun e w' => e = .returned (.string ⟨RR.toArray⟩) ∧ Below w.heap.size w w' := Any.path_Clean_abs Tryd.laysPah30 s w hbig h0 hro R RR hR hRR
open Go.RowKit Go.Lib in
/-- path.Clean: "Clean returns the shortest path name equivalent to path by purely lexical processing. It applies the following rules iteratively until no further processing can be done: 1. Replace multiple slashes with a single slash. 2. Eliminate each . path name element (the current directory). 3. Eliminate each inner .. path name element (the parent directory) along with the non-.. element that precedes it. 4. Eliminate .. elements that begin a rooted path: that is, replace "/.." by "/" at the beginning of a path. The returned path ends in a slash only if it is the root "/". If the result of this process is an empty string, Clean returns the string ".".": IT RETURNS 'Pa.clean path'. (LAID: no walk: one application.) -/
theorem Tryd.path_Clean (s : ByteArray) (w : World) (hbig : s.size ≤ 281474976710656) :
    Calls Tryd.prog 79 #[.string s] w fun e w' => e = .returned (.string ⟨(Pa.clean s.data.toList).toArray⟩) ∧ Below w.heap.size w w' := Any.path_Clean Tryd.laysPah30 s w hbig
open Go.RowKit Go.Lib in
theorem Tryd.path_Clean_rules (s : ByteArray) (w : World) (hbig : s.size ≤ 281474976710656) :
    Calls Tryd.prog 79 #[.string s] w fun e w' => e = .returned (.string ⟨(Pa.cleanEls s.data.toList).toArray⟩) ∧ Below w.heap.size w w' := Any.path_Clean_rules Tryd.laysPah30 s w hbig
end Go.Proofs
