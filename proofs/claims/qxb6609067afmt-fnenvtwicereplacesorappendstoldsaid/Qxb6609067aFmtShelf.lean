import Derived.Shelf.Strings.Builder1
import Derived.Shelf.Strings.Builder2
import Derived.Shelf.Strings.TrimSpace
import Derived.Shelf.Small.Utf8
import Derived.Shelf.Small.Strs
import Derived.Shelf.Strings.Search1
import Derived.Shelf.Strings.Search2
import Derived.Shelf.Strings.Search3
import Derived.Shelf.Strings.Cut
import Derived.Shelf.Strings.Count
import Derived.Shelf.LaysM
import Derived.Shelf.Strings.Shaped
import Derived.Shelf.Strings.Prefix
import Derived.Shelf.Strings.Split
import Derived.Shelf.Strings.Replace
import Derived.Shelf.Strings.SplitShaped
import Derived.Shelf.Unicode.Latin
import Derived.Shelf.Unicode.DecodeSlow
import Derived.Shelf.Unicode.DecodeAny
import Derived.Shelf.Unicode.Is16White
import Derived.Shelf.Unicode.IsSpaceAny
import Derived.Shelf.Unicode.DecodeLast
import Derived.Shelf.Strings.TrimSpaceAny
import Derived.Test.Qxb6609067aFmtProg
namespace Go.Proofs
open Go.Shelf
def Tryf.lays163_ren : Go.Shelf.Ren := ⟨fun | 163 => 38 | 237 => 44 | 199 => 45 | 238 => 46 | 272 => 60 | 261 => 61 | 273 => 62 | 197 => 55 | 315 => 73 | 311 => 74 | 312 => 75 | 271 => 76 | 260 => 71 | 120 => 81 | n => n, fun | 9 => 9 | 37 => 60 | 3 => 3 | 0 => 0 | 5 => 5 | 4 => 4 | 40 => 62 | 119 => 63 | 21 => 21 | 51 => 81 | 141 => 83 | 105 => 76 | 196 => 95 | 193 => 92 | 198 => 98 | 49 => 96 | 194 => 93 | 201 => 101 | 226 => 111 | 46 => 89 | 227 => 112 | 139 => 110 | 138 => 109 | n => n, fun | 0 => 0 | 6 => 1 | 3 => 3 | 4 => 4 | n => n⟩
theorem Tryf.lays163 : Go.Proofs.Lays.n163 Tryf.prog Tryf.lays163_ren := {
  mixed := by kernel_rfl
  f120 := Tryf.func81.trans (congrArg some (by kernel_rfl))
  f163 := Tryf.func38.trans (congrArg some (by kernel_rfl))
  f197 := Tryf.func55.trans (congrArg some (by kernel_rfl))
  f199 := Tryf.func45.trans (congrArg some (by kernel_rfl))
  f237 := Tryf.func44.trans (congrArg some (by kernel_rfl))
  f238 := Tryf.func46.trans (congrArg some (by kernel_rfl))
  f260 := Tryf.func71.trans (congrArg some (by kernel_rfl))
  f261 := Tryf.func61.trans (congrArg some (by kernel_rfl))
  f271 := Tryf.func76.trans (congrArg some (by kernel_rfl))
  f272 := Tryf.func60.trans (congrArg some (by kernel_rfl))
  f273 := Tryf.func62.trans (congrArg some (by kernel_rfl))
  f311 := Tryf.func74.trans (congrArg some (by kernel_rfl))
  f312 := Tryf.func75.trans (congrArg some (by kernel_rfl))
  f315 := Tryf.func73.trans (congrArg some (by kernel_rfl))
  t0 := Tryf.underlying0
  a0 := Tryf.isAgg0
  z0 := Tryf.sizeOf0
  v0 := Tryf.zeroValue0
  t3 := Tryf.underlying3
  a3 := Tryf.isAgg3
  z3 := Tryf.sizeOf3
  v3 := Tryf.zeroValue3
  t4 := Tryf.underlying4
  a4 := Tryf.isAgg4
  z4 := Tryf.sizeOf4
  v4 := Tryf.zeroValue4
  t5 := Tryf.underlying5
  a5 := Tryf.isAgg5
  z5 := Tryf.sizeOf5
  v5 := Tryf.zeroValue5
  t9 := Tryf.underlying9
  a9 := Tryf.isAgg9
  z9 := Tryf.sizeOf9
  v9 := Tryf.zeroValue9
  t21 := Tryf.underlying21
  a21 := Tryf.isAgg21
  z21 := Tryf.sizeOf21
  v21 := Tryf.zeroValue21
  t37 := Tryf.underlying60
  a37 := Tryf.isAgg60
  z37 := Tryf.sizeOf60
  v37 := Tryf.zeroValue60
  t40 := Tryf.underlying62
  a40 := Tryf.isAgg62
  z40 := Tryf.sizeOf62
  v40 := Tryf.zeroValue62
  t46 := Tryf.underlying89
  a46 := Tryf.isAgg89
  z46 := Tryf.sizeOf89
  v46 := Tryf.zeroValue89
  t49 := Tryf.underlying96
  a49 := Tryf.isAgg96
  z49 := Tryf.sizeOf96
  v49 := Tryf.zeroValue96
  t51 := Tryf.underlying81
  a51 := Tryf.isAgg81
  z51 := Tryf.sizeOf81
  v51 := Tryf.zeroValue81
  t105 := Tryf.underlying76
  a105 := Tryf.isAgg76
  z105 := Tryf.sizeOf76
  v105 := Tryf.zeroValue76
  t119 := Tryf.underlying63
  a119 := Tryf.isAgg63
  z119 := Tryf.sizeOf63
  t138 := Tryf.underlying109
  a138 := Tryf.isAgg109
  z138 := Tryf.sizeOf109
  v138 := Tryf.zeroValue109
  t139 := Tryf.underlying110
  a139 := Tryf.isAgg110
  z139 := Tryf.sizeOf110
  v139 := Tryf.zeroValue110
  t141 := Tryf.underlying83
  a141 := Tryf.isAgg83
  z141 := Tryf.sizeOf83
  v141 := Tryf.zeroValue83
  t193 := Tryf.underlying92
  a193 := Tryf.isAgg92
  z193 := Tryf.sizeOf92
  v193 := Tryf.zeroValue92
  t194 := Tryf.underlying93
  a194 := Tryf.isAgg93
  z194 := Tryf.sizeOf93
  v194 := Tryf.zeroValue93
  t196 := Tryf.underlying95
  a196 := Tryf.isAgg95
  z196 := Tryf.sizeOf95
  v196 := Tryf.zeroValue95
  t198 := Tryf.underlying98
  a198 := Tryf.isAgg98
  z198 := Tryf.sizeOf98
  v198 := Tryf.zeroValue98
  t201 := Tryf.underlying101
  a201 := Tryf.isAgg101
  z201 := Tryf.sizeOf101
  v201 := Tryf.zeroValue101
  t226 := Tryf.underlying111
  a226 := Tryf.isAgg111
  z226 := Tryf.sizeOf111
  v226 := Tryf.zeroValue111
  t227 := Tryf.underlying112
  a227 := Tryf.isAgg112
  z227 := Tryf.sizeOf112
  v227 := Tryf.zeroValue112
  g0 := by kernel_rfl
  g3 := by kernel_rfl
  g4 := by kernel_rfl
  g6 := by kernel_rfl }
theorem Tryf.Space_Extra_163 : Space.Extra Tryf.prog Tryf.lays163_ren := {
  gNamed := by kernel_rfl }
def Tryf.lays137_ren : Go.Shelf.Ren := ⟨fun | 137 => 57 | 217 => 63 | 266 => 77 | n => n, fun | 9 => 9 | 5 => 5 | 3 => 3 | n => n, fun | n => n⟩
theorem Tryf.lays137 : Go.Proofs.Lays.n137 Tryf.prog Tryf.lays137_ren := {
  mixed := by kernel_rfl
  f137 := Tryf.func57.trans (congrArg some (by kernel_rfl))
  f217 := Tryf.func63.trans (congrArg some (by kernel_rfl))
  f266 := Tryf.func77.trans (congrArg some (by kernel_rfl))
  t3 := Tryf.underlying3
  a3 := Tryf.isAgg3
  z3 := Tryf.sizeOf3
  v3 := Tryf.zeroValue3
  t5 := Tryf.underlying5
  a5 := Tryf.isAgg5
  z5 := Tryf.sizeOf5
  v5 := Tryf.zeroValue5
  t9 := Tryf.underlying9
  a9 := Tryf.isAgg9
  z9 := Tryf.sizeOf9
  v9 := Tryf.zeroValue9 }
open Go.RowKit in
/-- strings.IndexByte: "IndexByte returns the index of the first instance of c in s, or -1 if c is not present in s.": IT RETURNS 'Lib.indexByte s c'; the world is as it was. (LAID: no walk: one application.) -/
theorem Tryf.strings_IndexByte (s : ByteArray) (c : Int) (w : World) :
    Calls Tryf.prog 57 #[.string s, .int .u8 c] w fun e w' => e = .returned (.int .i64 (Lib.indexByte s.data.toList c.toNat.toUInt8)) ∧ w' = w := Any.strings_IndexByte Tryf.lays137 s c w
def Tryf.lays145_ren : Go.Shelf.Ren := ⟨fun | 145 => 35 | 220 => 41 | 219 => 50 | 217 => 63 | 225 => 64 | 224 => 65 | 267 => 66 | 266 => 77 | 314 => 78 | n => n, fun | 9 => 9 | 4 => 4 | 59 => 54 | 3 => 3 | 5 => 5 | 46 => 89 | 146 => 103 | 51 => 81 | n => n, fun | 1 => 2 | n => n⟩
theorem Tryf.lays145 : Go.Proofs.Lays.n145 Tryf.prog Tryf.lays145_ren := {
  mixed := by kernel_rfl
  f145 := Tryf.func35.trans (congrArg some (by kernel_rfl))
  f217 := Tryf.func63.trans (congrArg some (by kernel_rfl))
  f219 := Tryf.func50.trans (congrArg some (by kernel_rfl))
  f220 := Tryf.func41.trans (congrArg some (by kernel_rfl))
  f224 := Tryf.func65.trans (congrArg some (by kernel_rfl))
  f225 := Tryf.func64.trans (congrArg some (by kernel_rfl))
  f266 := Tryf.func77.trans (congrArg some (by kernel_rfl))
  f267 := Tryf.func66.trans (congrArg some (by kernel_rfl))
  f314 := Tryf.func78.trans (congrArg some (by kernel_rfl))
  t3 := Tryf.underlying3
  a3 := Tryf.isAgg3
  z3 := Tryf.sizeOf3
  v3 := Tryf.zeroValue3
  t4 := Tryf.underlying4
  a4 := Tryf.isAgg4
  z4 := Tryf.sizeOf4
  v4 := Tryf.zeroValue4
  t5 := Tryf.underlying5
  a5 := Tryf.isAgg5
  z5 := Tryf.sizeOf5
  v5 := Tryf.zeroValue5
  t9 := Tryf.underlying9
  a9 := Tryf.isAgg9
  z9 := Tryf.sizeOf9
  v9 := Tryf.zeroValue9
  t46 := Tryf.underlying89
  a46 := Tryf.isAgg89
  z46 := Tryf.sizeOf89
  v46 := Tryf.zeroValue89
  t51 := Tryf.underlying81
  a51 := Tryf.isAgg81
  z51 := Tryf.sizeOf81
  v51 := Tryf.zeroValue81
  t59 := Tryf.underlying54
  a59 := Tryf.isAgg54
  z59 := Tryf.sizeOf54
  v59 := Tryf.zeroValue54
  t146 := Tryf.underlying103
  a146 := Tryf.isAgg103
  z146 := Tryf.sizeOf103
  v146 := Tryf.zeroValue103
  g1 := by kernel_rfl }
open Go.RowKit Go.Lib in
/-- strings.Cut: "Cut slices s around the first instance of sep, returning the text before and after sep. The found result reports whether sep appears in s. If sep does not appear in s, cut returns s, "", false.": IT RETURNS 'Lib.cut s sep'; the world is as it was but for the count of draws. (LAID: no walk: one application.) -/
theorem Tryf.strings_Cut (s sep : ByteArray) (m : Int) (w : World) (hs : s.size < 4294967281) (hm : w.cell? ⟨2, 0, none⟩ = some (.int .i64 m)) :
    Calls Tryf.prog 35 #[.string s, .string sep] w fun e w' => e = .returned (.tuple #[.string ⟨(Lib.cut s.data.toList sep.data.toList).1.toArray⟩, .string ⟨(Lib.cut s.data.toList sep.data.toList).2.1.toArray⟩, .bool (Lib.cut s.data.toList sep.data.toList).2.2]) ∧ ∃ n, w' = w.drewN n := Any.strings_Cut Tryf.lays145 s sep m w hs hm
def Tryf.lays99_ren : Go.Shelf.Ren := ⟨fun | 99 => 58 | 206 => 72 | n => n, fun | 9 => 9 | 4 => 4 | 3 => 3 | n => n, fun | n => n⟩
theorem Tryf.lays99 : Go.Proofs.Lays.n99 Tryf.prog Tryf.lays99_ren := {
  mixed := by kernel_rfl
  f99 := Tryf.func58.trans (congrArg some (by kernel_rfl))
  f206 := Tryf.func72.trans (congrArg some (by kernel_rfl))
  t3 := Tryf.underlying3
  a3 := Tryf.isAgg3
  z3 := Tryf.sizeOf3
  v3 := Tryf.zeroValue3
  t4 := Tryf.underlying4
  a4 := Tryf.isAgg4
  z4 := Tryf.sizeOf4
  v4 := Tryf.zeroValue4
  t9 := Tryf.underlying9
  a9 := Tryf.isAgg9
  z9 := Tryf.sizeOf9
  v9 := Tryf.zeroValue9 }
open Go.RowKit Go.Lib in
/-- strings.HasPrefix: "HasPrefix reports whether the string s begins with prefix.": IT RETURNS 'Lib.hasPrefix s prefix'; the world is as it was. (LAID: no walk: one application.) -/
theorem Tryf.strings_HasPrefix (s p : ByteArray) (w : World) :
    Calls Tryf.prog 58 #[.string s, .string p] w fun e w' => e = .returned (.bool (Lib.hasPrefix s.data.toList p.data.toList)) ∧ w' = w := Any.strings_HasPrefix Tryf.lays99 s p w
def Tryf.lays155_ren : Go.Shelf.Ren := ⟨fun | 155 => 36 | 154 => 42 | 138 => 51 | 165 => 52 | 143 => 53 | 166 => 54 | 197 => 55 | 169 => 56 | 195 => 67 | 218 => 68 | 240 => 69 | 241 => 70 | 219 => 50 | 260 => 71 | 276 => 79 | 277 => 80 | 217 => 63 | 225 => 64 | 224 => 65 | 267 => 66 | 266 => 77 | 314 => 78 | n => n, fun | 9 => 9 | 3 => 3 | 4 => 4 | 72 => 72 | 0 => 0 | 76 => 74 | 105 => 76 | 21 => 21 | 5 => 5 | 70 => 70 | 20 => 20 | 37 => 60 | 75 => 32 | 127 => 91 | 164 => 105 | 46 => 89 | 119 => 63 | 139 => 110 | 138 => 109 | 146 => 103 | 51 => 81 | 80 => 78 | n => n, fun | 1 => 2 | 3 => 3 | 4 => 4 | n => n⟩
theorem Tryf.lays155 : Go.Proofs.Lays.n155 Tryf.prog Tryf.lays155_ren := {
  mixed := by kernel_rfl
  f138 := Tryf.func51.trans (congrArg some (by kernel_rfl))
  f143 := Tryf.func53.trans (congrArg some (by kernel_rfl))
  f154 := Tryf.func42.trans (congrArg some (by kernel_rfl))
  f155 := Tryf.func36.trans (congrArg some (by kernel_rfl))
  f165 := Tryf.func52.trans (congrArg some (by kernel_rfl))
  f166 := Tryf.func54.trans (congrArg some (by kernel_rfl))
  f169 := Tryf.func56.trans (congrArg some (by kernel_rfl))
  f195 := Tryf.func67.trans (congrArg some (by kernel_rfl))
  f197 := Tryf.func55.trans (congrArg some (by kernel_rfl))
  f217 := Tryf.func63.trans (congrArg some (by kernel_rfl))
  f218 := Tryf.func68.trans (congrArg some (by kernel_rfl))
  f219 := Tryf.func50.trans (congrArg some (by kernel_rfl))
  f224 := Tryf.func65.trans (congrArg some (by kernel_rfl))
  f225 := Tryf.func64.trans (congrArg some (by kernel_rfl))
  f240 := Tryf.func69.trans (congrArg some (by kernel_rfl))
  f241 := Tryf.func70.trans (congrArg some (by kernel_rfl))
  f260 := Tryf.func71.trans (congrArg some (by kernel_rfl))
  f266 := Tryf.func77.trans (congrArg some (by kernel_rfl))
  f267 := Tryf.func66.trans (congrArg some (by kernel_rfl))
  f276 := Tryf.func79.trans (congrArg some (by kernel_rfl))
  f277 := Tryf.func80.trans (congrArg some (by kernel_rfl))
  f314 := Tryf.func78.trans (congrArg some (by kernel_rfl))
  t0 := Tryf.underlying0
  a0 := Tryf.isAgg0
  z0 := Tryf.sizeOf0
  v0 := Tryf.zeroValue0
  t3 := Tryf.underlying3
  a3 := Tryf.isAgg3
  z3 := Tryf.sizeOf3
  v3 := Tryf.zeroValue3
  t4 := Tryf.underlying4
  a4 := Tryf.isAgg4
  z4 := Tryf.sizeOf4
  v4 := Tryf.zeroValue4
  t5 := Tryf.underlying5
  a5 := Tryf.isAgg5
  z5 := Tryf.sizeOf5
  v5 := Tryf.zeroValue5
  t9 := Tryf.underlying9
  a9 := Tryf.isAgg9
  z9 := Tryf.sizeOf9
  v9 := Tryf.zeroValue9
  t20 := Tryf.underlying20
  a20 := Tryf.isAgg20
  z20 := Tryf.sizeOf20
  v20 := Tryf.zeroValue20
  t21 := Tryf.underlying21
  a21 := Tryf.isAgg21
  z21 := Tryf.sizeOf21
  v21 := Tryf.zeroValue21
  t37 := Tryf.underlying60
  a37 := Tryf.isAgg60
  z37 := Tryf.sizeOf60
  v37 := Tryf.zeroValue60
  t46 := Tryf.underlying89
  a46 := Tryf.isAgg89
  z46 := Tryf.sizeOf89
  v46 := Tryf.zeroValue89
  t51 := Tryf.underlying81
  a51 := Tryf.isAgg81
  z51 := Tryf.sizeOf81
  v51 := Tryf.zeroValue81
  t70 := Tryf.underlying70
  a70 := Tryf.isAgg70
  z70 := Tryf.sizeOf70
  v70 := Tryf.zeroValue70
  t72 := Tryf.underlying72
  a72 := Tryf.isAgg72
  z72 := Tryf.sizeOf72
  v72 := Tryf.zeroValue72
  t75 := Tryf.underlying32
  a75 := Tryf.isAgg32
  z75 := Tryf.sizeOf32
  v75 := Tryf.zeroValue32
  t76 := Tryf.underlying74
  a76 := Tryf.isAgg74
  z76 := Tryf.sizeOf74
  v76 := Tryf.zeroValue74
  t105 := Tryf.underlying76
  a105 := Tryf.isAgg76
  z105 := Tryf.sizeOf76
  v105 := Tryf.zeroValue76
  t119 := Tryf.underlying63
  a119 := Tryf.isAgg63
  z119 := Tryf.sizeOf63
  t127 := Tryf.underlying91
  a127 := Tryf.isAgg91
  z127 := Tryf.sizeOf91
  v127 := Tryf.zeroValue91
  t138 := Tryf.underlying109
  a138 := Tryf.isAgg109
  z138 := Tryf.sizeOf109
  v138 := Tryf.zeroValue109
  t139 := Tryf.underlying110
  a139 := Tryf.isAgg110
  z139 := Tryf.sizeOf110
  v139 := Tryf.zeroValue110
  t146 := Tryf.underlying103
  a146 := Tryf.isAgg103
  z146 := Tryf.sizeOf103
  v146 := Tryf.zeroValue103
  t164 := Tryf.underlying105
  a164 := Tryf.isAgg105
  z164 := Tryf.sizeOf105
  v164 := Tryf.zeroValue105
  g1 := by kernel_rfl
  g3 := by kernel_rfl
  g4 := by kernel_rfl }
theorem Tryf.Builder_Extra_155 : Builder.Extra Tryf.prog Tryf.lays155_ren := {
  sizeBuilder := by kernel_rfl
  liesBuilder := by kernel_rfl
  t5 := Tryf.underlying5
  a5 := Tryf.isAgg5
  z5 := Tryf.sizeOf5
  v5 := Tryf.zeroValue5
  infoByte := by kernel_rfl
  cellsByte := by kernel_rfl
  sizeByte := by kernel_rfl
  neB5 := by decide }
open Go.RowKit Go.Lib in
/-- strings.ReplaceAll: "ReplaceAll returns a copy of the string s with all non-overlapping instances of old replaced by new.": AT AN old THAT IS NOT EMPTY: 'Lib.replaceAll s old new'. (LAID: no walk: one application.) -/
theorem Tryf.strings_ReplaceAll (s old new : ByteArray) (m : Int) (w : World) (hs : s.size < 4294967281) (hm : w.cell? ⟨2, 0, none⟩ = some (.int .i64 m)) (h1 : 1 ≤ old.size) (hlen : s.size + Lib.countB s old * new.size ≤ 140737488355328) :
    Calls Tryf.prog 36 #[.string s, .string old, .string new] w fun e w' =>
      e = .returned (.string ⟨(Lib.replaceAll s.data.toList old.data.toList new.data.toList).toArray⟩) ∧ Below w.heap.size w w' := Any.strings_ReplaceAll Tryf.lays155 Tryf.Builder_Extra_155 s old new m w hs hm h1 hlen
def Tryf.laysM155_ren : Go.Shelf.Ren := ⟨fun | 155 => 36 | 154 => 42 | 138 => 51 | 165 => 52 | 143 => 53 | 166 => 54 | 197 => 55 | 169 => 56 | 195 => 67 | 218 => 68 | 240 => 69 | 241 => 70 | 219 => 50 | 260 => 71 | 276 => 79 | 277 => 80 | 217 => 63 | 225 => 64 | 224 => 65 | 267 => 66 | 266 => 77 | 314 => 78 | n => n, fun | 9 => 9 | 3 => 3 | 4 => 4 | 72 => 72 | 0 => 0 | 76 => 74 | 105 => 76 | 21 => 21 | 5 => 5 | 70 => 70 | 20 => 20 | 37 => 60 | 75 => 32 | 127 => 91 | 164 => 105 | 46 => 89 | 119 => 63 | 139 => 110 | 138 => 109 | 146 => 103 | 51 => 81 | 80 => 78 | n => n, fun | 1 => 2 | 3 => 3 | 4 => 4 | n => n⟩
theorem Tryf.laysM155 : Go.Proofs.LaysM.n155 Tryf.prog Tryf.laysM155_ren := {
  mixed := by kernel_rfl
  f138 := Tryf.func51.trans (congrArg some (by kernel_rfl))
  f143 := Tryf.func53.trans (congrArg some (by kernel_rfl))
  f154 := Tryf.func42.trans (congrArg some (by kernel_rfl))
  f155 := Tryf.func36.trans (congrArg some (by kernel_rfl))
  f165 := Tryf.func52.trans (congrArg some (by kernel_rfl))
  f166 := Tryf.func54.trans (congrArg some (by kernel_rfl))
  f169 := Tryf.func56.trans (congrArg some (by kernel_rfl))
  f195 := Tryf.func67.trans (congrArg some (by kernel_rfl))
  f197 := Tryf.func55.trans (congrArg some (by kernel_rfl))
  f217 := Tryf.func63.trans (congrArg some (by kernel_rfl))
  f218 := Tryf.func68.trans (congrArg some (by kernel_rfl))
  f219 := Tryf.func50.trans (congrArg some (by kernel_rfl))
  f224 := Tryf.func65.trans (congrArg some (by kernel_rfl))
  f225 := Tryf.func64.trans (congrArg some (by kernel_rfl))
  f240 := Tryf.func69.trans (congrArg some (by kernel_rfl))
  f241 := Tryf.func70.trans (congrArg some (by kernel_rfl))
  f260 := Tryf.func71.trans (congrArg some (by kernel_rfl))
  f266 := Tryf.func77.trans (congrArg some (by kernel_rfl))
  f267 := Tryf.func66.trans (congrArg some (by kernel_rfl))
  f276 := Tryf.func79.trans (congrArg some (by kernel_rfl))
  f277 := Tryf.func80.trans (congrArg some (by kernel_rfl))
  f314 := Tryf.func78.trans (congrArg some (by kernel_rfl))
  t0 := Tryf.underlying0
  a0 := Tryf.isAgg0
  z0 := Tryf.sizeOf0
  v0 := Tryf.zeroValue0
  t3 := Tryf.underlying3
  a3 := Tryf.isAgg3
  z3 := Tryf.sizeOf3
  v3 := Tryf.zeroValue3
  t4 := Tryf.underlying4
  a4 := Tryf.isAgg4
  z4 := Tryf.sizeOf4
  v4 := Tryf.zeroValue4
  t5 := Tryf.underlying5
  a5 := Tryf.isAgg5
  z5 := Tryf.sizeOf5
  v5 := Tryf.zeroValue5
  t9 := Tryf.underlying9
  a9 := Tryf.isAgg9
  z9 := Tryf.sizeOf9
  v9 := Tryf.zeroValue9
  t20 := Tryf.underlying20
  a20 := Tryf.isAgg20
  z20 := Tryf.sizeOf20
  v20 := Tryf.zeroValue20
  t21 := Tryf.underlying21
  a21 := Tryf.isAgg21
  z21 := Tryf.sizeOf21
  v21 := Tryf.zeroValue21
  t37 := Tryf.underlying60
  a37 := Tryf.isAgg60
  z37 := Tryf.sizeOf60
  v37 := Tryf.zeroValue60
  t46 := Tryf.underlying89
  a46 := Tryf.isAgg89
  z46 := Tryf.sizeOf89
  v46 := Tryf.zeroValue89
  t51 := Tryf.underlying81
  a51 := Tryf.isAgg81
  z51 := Tryf.sizeOf81
  v51 := Tryf.zeroValue81
  t70 := Tryf.underlying70
  a70 := Tryf.isAgg70
  z70 := Tryf.sizeOf70
  v70 := Tryf.zeroValue70
  t72 := Tryf.underlying72
  a72 := Tryf.isAgg72
  z72 := Tryf.sizeOf72
  v72 := Tryf.zeroValue72
  t75 := Tryf.underlying32
  a75 := Tryf.isAgg32
  z75 := Tryf.sizeOf32
  v75 := Tryf.zeroValue32
  t76 := Tryf.underlying74
  a76 := Tryf.isAgg74
  z76 := Tryf.sizeOf74
  v76 := Tryf.zeroValue74
  t105 := Tryf.underlying76
  a105 := Tryf.isAgg76
  z105 := Tryf.sizeOf76
  v105 := Tryf.zeroValue76
  t119 := Tryf.underlying63
  a119 := Tryf.isAgg63
  z119 := Tryf.sizeOf63
  t127 := Tryf.underlying91
  a127 := Tryf.isAgg91
  z127 := Tryf.sizeOf91
  v127 := Tryf.zeroValue91
  t138 := Tryf.underlying109
  a138 := Tryf.isAgg109
  z138 := Tryf.sizeOf109
  v138 := Tryf.zeroValue109
  t139 := Tryf.underlying110
  a139 := Tryf.isAgg110
  z139 := Tryf.sizeOf110
  v139 := Tryf.zeroValue110
  t146 := Tryf.underlying103
  a146 := Tryf.isAgg103
  z146 := Tryf.sizeOf103
  v146 := Tryf.zeroValue103
  t164 := Tryf.underlying105
  a164 := Tryf.isAgg105
  z164 := Tryf.sizeOf105
  v164 := Tryf.zeroValue105
  g1 := by kernel_rfl
  g3 := by kernel_rfl
  g4 := by kernel_rfl
  t80 := Tryf.underlying78
  a80 := Tryf.isAgg78
  z80 := Tryf.sizeOf78
  v80 := Tryf.zeroValue78
  i0 := by kernel_rfl
  i3 := by kernel_rfl
  i4 := by kernel_rfl
  i5 := by kernel_rfl
  i9 := by kernel_rfl
  i20 := by kernel_rfl
  i21 := by kernel_rfl
  i37 := by kernel_rfl
  i46 := by kernel_rfl
  i51 := by kernel_rfl
  i70 := by kernel_rfl
  i72 := by kernel_rfl
  i75 := by kernel_rfl
  i76 := by kernel_rfl
  i80 := by kernel_rfl
  i105 := by kernel_rfl
  i127 := by kernel_rfl
  i138 := by kernel_rfl
  i139 := by kernel_rfl
  i146 := by kernel_rfl
  i164 := by kernel_rfl
  m1 := by kernel_rfl
  s1_3 := fun w h => Go.Proofs.cell_of_shapedOpen_int (zero := #[.int .i64 0]) (t := 3) h (of_decide_eq_true (by kernel_rfl)) (by kernel_rfl) rfl (by kernel_rfl) (by kernel_rfl) Tryf.underlying3
  m3 := by kernel_rfl
  m4 := by kernel_rfl }
open Go.RowKit in
theorem Tryf.strings_TrimSpace_any (s : ByteArray) (w : World) (hs : s.size ≤ 9223372036854775807) (htab : Lib.TabIs Tryf.prog w "strings.asciiSpace" .u8 Lib.asciiSpaceTab) (hU8 : Lib.Utf8Tabs 3 4 w) (hWS : Lib.WhiteTab 1 w) :
    Calls Tryf.prog 38 #[.string s] w fun e w' => e = .returned (.string ⟨(Lib.trimSpaceD s.data.toList).toArray⟩) ∧ Below w.heap.size w w' := Any.strings_TrimSpace_any Tryf.lays163 Tryf.Space_Extra_163 s w hs htab hU8 hWS
end Go.Proofs
