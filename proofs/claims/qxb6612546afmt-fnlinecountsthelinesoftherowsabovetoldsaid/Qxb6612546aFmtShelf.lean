/-
  DERIVED: THE SHELF's CONTRACTS AT THIS DUMP, IN PLAIN WORDS (tools/lay-plain.mjs out of 'TryfShelf.lean', which tools/lay-shelf.mjs wrote): THE SAME DECLARATIONS UNDER THE SAME NAMES: 'import', 'namespace', 'open', 'def', 'theorem' AND NOTHING ELSE: no command of the shelf's: FOR A HAND-IN. Each laying: the table of numbers ('.._ren') and one theorem, a field a fact of the dump's own or the kernel's comparison; each contract: ONE APPLICATION.
-/
import Derived.Shelf.Small.Utf8
import Derived.Shelf.Strings.Prefix
import Derived.Shelf.Bytes.SlIndexAt
import Derived.Shelf.Bytes.SlSearch0
import Derived.Shelf.Bytes.IndexByte
import Derived.Test.Qxb6612546aFmtProg
namespace Go.Proofs
open Go.Shelf
def Tryf.lays118_ren : Go.Shelf.Ren := ⟨fun | 118 => 56 | n => n, fun | 21 => 21 | 3 => 3 | 4 => 4 | n => n, fun | n => n⟩
theorem Tryf.lays118 : Go.Proofs.Lays.n118 Tryf.prog Tryf.lays118_ren := {
  mixed := by kernel_rfl
  f118 := Tryf.func56.trans (congrArg some (by kernel_rfl))
  t3 := Tryf.underlying3
  a3 := Tryf.isAgg3
  z3 := Tryf.sizeOf3
  v3 := Tryf.zeroValue3
  t4 := Tryf.underlying4
  a4 := Tryf.isAgg4
  z4 := Tryf.sizeOf4
  v4 := Tryf.zeroValue4
  t21 := Tryf.underlying21
  a21 := Tryf.isAgg21
  z21 := Tryf.sizeOf21
  v21 := Tryf.zeroValue21 }
/-- utf8.RuneLen: "RuneLen returns the number of bytes in the UTF-8 encoding of the rune. It returns -1 if the rune is not a valid value to encode in UTF-8.": IT RETURNS 'Lib.runeLen r'; the world is as it was. (LAID: no walk: one application.) -/
theorem Tryf.utf8_RuneLen (r : Int) (w : World) :
    Calls Tryf.prog 56 #[.int .i32 r] w fun e w' => e = .returned (.int .i64 (Lib.runeLen r)) ∧ w' = w := Any.utf8_RuneLen Tryf.lays118 r w
def Tryf.lays119_ren : Go.Shelf.Ren := ⟨fun | 119 => 64 | n => n, fun | 21 => 21 | 4 => 4 | n => n, fun | n => n⟩
theorem Tryf.lays119 : Go.Proofs.Lays.n119 Tryf.prog Tryf.lays119_ren := {
  mixed := by kernel_rfl
  f119 := Tryf.func64.trans (congrArg some (by kernel_rfl))
  t4 := Tryf.underlying4
  a4 := Tryf.isAgg4
  z4 := Tryf.sizeOf4
  v4 := Tryf.zeroValue4
  t21 := Tryf.underlying21
  a21 := Tryf.isAgg21
  z21 := Tryf.sizeOf21
  v21 := Tryf.zeroValue21 }
/-- utf8.ValidRune: "ValidRune reports whether r can be legally encoded as UTF-8. Code points that are out of range or a surrogate half are illegal.": IT RETURNS 'Lib.validRune r'; the world is as it was. (LAID: no walk: one application.) -/
theorem Tryf.utf8_ValidRune (r : Int) (w : World) :
    Calls Tryf.prog 64 #[.int .i32 r] w fun e w' => e = .returned (.bool (Lib.validRune r)) ∧ w' = w := Any.utf8_ValidRune Tryf.lays119 r w
def Tryf.lays206_ren : Go.Shelf.Ren := ⟨fun | 206 => 63 | n => n, fun | 9 => 9 | 4 => 4 | 3 => 3 | n => n, fun | n => n⟩
theorem Tryf.lays206 : Go.Proofs.Lays.n206 Tryf.prog Tryf.lays206_ren := {
  mixed := by kernel_rfl
  f206 := Tryf.func63.trans (congrArg some (by kernel_rfl))
  t3 := Tryf.underlying3
  a3 := Tryf.isAgg3
  z3 := Tryf.sizeOf3
  v3 := Tryf.zeroValue3
  t4 := Tryf.underlying4
  a4 := Tryf.isAgg4
  z4 := Tryf.sizeOf4
  v4 := Tryf.zeroValue4
  t9 := Tryf.underlying9
  a9 := Tryf.isAgg9
  z9 := Tryf.sizeOf9
  v9 := Tryf.zeroValue9 }
open Go.RowKit Go.Lib in
/-- internal/stringslite.HasPrefix (what strings.HasPrefix calls). (LAID: no walk: one application.) -/
theorem Tryf.stringslite_HasPrefix (s p : ByteArray) (w : World) :
    Calls Tryf.prog 63 #[.string s, .string p] w fun e w' => e = .returned (.bool (Lib.hasPrefix s.data.toList p.data.toList)) ∧ w' = w := Any.stringslite_HasPrefix Tryf.lays206 s p w
def Tryf.lays208_ren : Go.Shelf.Ren := ⟨fun | 208 => 50 | 206 => 63 | n => n, fun | 9 => 9 | 4 => 4 | 3 => 3 | n => n, fun | n => n⟩
theorem Tryf.lays208 : Go.Proofs.Lays.n208 Tryf.prog Tryf.lays208_ren := {
  mixed := by kernel_rfl
  f206 := Tryf.func63.trans (congrArg some (by kernel_rfl))
  f208 := Tryf.func50.trans (congrArg some (by kernel_rfl))
  t3 := Tryf.underlying3
  a3 := Tryf.isAgg3
  z3 := Tryf.sizeOf3
  v3 := Tryf.zeroValue3
  t4 := Tryf.underlying4
  a4 := Tryf.isAgg4
  z4 := Tryf.sizeOf4
  v4 := Tryf.zeroValue4
  t9 := Tryf.underlying9
  a9 := Tryf.isAgg9
  z9 := Tryf.sizeOf9
  v9 := Tryf.zeroValue9 }
open Go.RowKit Go.Lib in
/-- internal/stringslite.TrimPrefix (what strings.TrimPrefix calls). (LAID: no walk: one application.) -/
theorem Tryf.stringslite_TrimPrefix (s p : ByteArray) (w : World) :
    Calls Tryf.prog 50 #[.string s, .string p] w fun e w' => e = .returned (.string ⟨(Lib.trimPrefix s.data.toList p.data.toList).toArray⟩) ∧ w' = w := Any.stringslite_TrimPrefix Tryf.lays208 s p w
def Tryf.lays101_ren : Go.Shelf.Ren := ⟨fun | 101 => 46 | 208 => 50 | 206 => 63 | n => n, fun | 9 => 9 | 4 => 4 | 3 => 3 | n => n, fun | n => n⟩
theorem Tryf.lays101 : Go.Proofs.Lays.n101 Tryf.prog Tryf.lays101_ren := {
  mixed := by kernel_rfl
  f101 := Tryf.func46.trans (congrArg some (by kernel_rfl))
  f206 := Tryf.func63.trans (congrArg some (by kernel_rfl))
  f208 := Tryf.func50.trans (congrArg some (by kernel_rfl))
  t3 := Tryf.underlying3
  a3 := Tryf.isAgg3
  z3 := Tryf.sizeOf3
  v3 := Tryf.zeroValue3
  t4 := Tryf.underlying4
  a4 := Tryf.isAgg4
  z4 := Tryf.sizeOf4
  v4 := Tryf.zeroValue4
  t9 := Tryf.underlying9
  a9 := Tryf.isAgg9
  z9 := Tryf.sizeOf9
  v9 := Tryf.zeroValue9 }
open Go.RowKit Go.Lib in
/-- strings.TrimPrefix: "TrimPrefix returns s without the provided leading prefix string. If s doesn't start with prefix, s is returned unchanged.": IT RETURNS 'Lib.trimPrefix s prefix'; the world is as it was. (LAID: no walk: one application.) -/
theorem Tryf.strings_TrimPrefix (s p : ByteArray) (w : World) :
    Calls Tryf.prog 46 #[.string s, .string p] w fun e w' => e = .returned (.string ⟨(Lib.trimPrefix s.data.toList p.data.toList).toArray⟩) ∧ w' = w := Any.strings_TrimPrefix Tryf.lays101 s p w
def Tryf.lays187_ren : Go.Shelf.Ren := ⟨fun | 187 => 61 | 255 => 72 | n => n, fun | 37 => 29 | 5 => 5 | 3 => 3 | n => n, fun | n => n⟩
theorem Tryf.lays187 : Go.Proofs.Lays.n187 Tryf.prog Tryf.lays187_ren := {
  mixed := by kernel_rfl
  f187 := Tryf.func61.trans (congrArg some (by kernel_rfl))
  f255 := Tryf.func72.trans (congrArg some (by kernel_rfl))
  t3 := Tryf.underlying3
  a3 := Tryf.isAgg3
  z3 := Tryf.sizeOf3
  v3 := Tryf.zeroValue3
  t5 := Tryf.underlying5
  a5 := Tryf.isAgg5
  z5 := Tryf.sizeOf5
  v5 := Tryf.zeroValue5
  t37 := Tryf.underlying29
  a37 := Tryf.isAgg29
  z37 := Tryf.sizeOf29
  v37 := Tryf.zeroValue29 }
open Go.RowKit Go.Lib in
/-- bytes.IndexByte, b at whatever address: "IndexByte returns the index of the first instance of c in b, or -1 if c is not present in b." (LAID: no walk: one application.) -/
theorem Tryf.bytes_IndexByte_at (a : Addr) (n c : Nat) (xs : List Int) (cv : Int) (w : World) (hx : xs.length = n) (hc : ∀ i, i < n → w.cell? (a.add i) = some (.int .u8 (xs.getD i 0))) :
    Calls Tryf.prog 61 #[.slice (some a) n c, .int .u8 cv] w fun e w' => e = .returned (.int .i64 (Lib.indexByte (Lib.bytesOf xs) cv.toNat.toUInt8)) ∧ w' = w := Any.bytes_IndexByte_at Tryf.lays187 a n c xs cv w hx hc
open Go.Proofs Go.RowKit Go.Lib in
/-- bytes.IndexByte, the slice's bytes told by a ByteArray. (LAID: no walk: one application.) -/
theorem Tryf.bytes_IndexByte_bytes (b o cap : Nat) (t : ByteArray) (cv : Int) (w : World) (hc : Lib.Bytes w b o t) :
    Calls Tryf.prog 61 #[.slice (some ⟨b, o, none⟩) t.size cap, .int .u8 cv] w fun e w' => e = .returned (.int .i64 (Lib.indexByte t.data.toList cv.toNat.toUInt8)) ∧ w' = w := Any.bytes_IndexByte_bytes Tryf.lays187 b o cap t cv w hc
/-- bytes.IndexByte: "IndexByte returns the index of the first instance of c in b, or -1 if c is not present in b.": IT RETURNS 'Lib.indexByte (the bytes of b) c'; the world is as it was. 'xs': the numbers that the slice's cells hold. (LAID: no walk: one application.) -/
theorem Tryf.bytes_IndexByte (b o n c : Nat) (xs : List Int) (cv : Int) (w : World) (hx : xs.length = n) (hc : ∀ i, i < n → w.cell? ⟨b, o + i, none⟩ = some (.int .u8 (xs.getD i 0))) :
    Calls Tryf.prog 61 #[.slice (some ⟨b, o, none⟩) n c, .int .u8 cv] w fun e w' => e = .returned (.int .i64 (Lib.indexByte (Lib.bytesOf xs) cv.toNat.toUInt8)) ∧ w' = w := Any.bytes_IndexByte Tryf.lays187 b o n c xs cv w hx hc
/-- bytes.IndexByte AT nil: -1. (LAID: no walk: one application.) -/
theorem Tryf.bytes_IndexByte_nil (cv : Int) (w : World) :
    Calls Tryf.prog 61 #[.slice none 0 0, .int .u8 cv] w fun e w' => e = .returned (.int .i64 (-1)) ∧ w' = w := Any.bytes_IndexByte_nil Tryf.lays187 cv w
end Go.Proofs
