/-
  DERIVED: THE SHELF's CONTRACTS AT THIS DUMP, IN PLAIN WORDS (tools/lay-plain.mjs out of 'YtdljobmhnnegiaaDoorShelfZ.lean', which tools/lay-shelf.mjs wrote): THE SAME DECLARATIONS UNDER THE SAME NAMES: 'import', 'namespace', 'open', 'def', 'theorem' AND NOTHING ELSE: no command of the shelf's: FOR A HAND-IN. Each laying: the table of numbers ('.._ren') and one theorem, a field a fact of the dump's own or the kernel's comparison; each contract: ONE APPLICATION.
-/
import Derived.Shelf.Unicode.PredsPay
import Derived.Shelf.Spec.DecodeRune
import Derived.Shelf.Strings.Prefix
import Derived.Shelf.Strings.TrimSpaceAny
import Derived.Ground.NamesProg
import Derived.Ground.Names7Prog
import Derived.Test.YtdljobmhnnegiaaDoorProg
namespace Go.Proofs
open Go.Shelf
def Tryd.lays32_ren : Go.Shelf.Ren := ⟨fun | 32 => 56 | 49 => 73 | n => n, fun | 30 => 23 | 21 => 21 | 3 => 3 | 0 => 0 | 5 => 5 | 4 => 4 | 33 => 96 | 66 => 112 | 25 => 131 | 69 => 134 | 68 => 133 | n => n, fun | 2 => 3 | 3 => 4 | n => n⟩
theorem Tryd.lays32 : Go.Proofs.Lays7.n32 Tryd.prog Tryd.lays32_ren := {
  mixed := by kernel_rfl
  f32 := Tryd.func56.trans (congrArg some (by kernel_rfl))
  f49 := Tryd.func73.trans (congrArg some (by kernel_rfl))
  t0 := Tryd.underlying0
  a0 := Tryd.isAgg0
  z0 := Tryd.sizeOf0
  v0 := Tryd.zeroValue0
  i0 := by kernel_rfl
  t3 := Tryd.underlying3
  a3 := Tryd.isAgg3
  z3 := Tryd.sizeOf3
  v3 := Tryd.zeroValue3
  i3 := by kernel_rfl
  t4 := Tryd.underlying4
  a4 := Tryd.isAgg4
  z4 := Tryd.sizeOf4
  v4 := Tryd.zeroValue4
  i4 := by kernel_rfl
  t5 := Tryd.underlying5
  a5 := Tryd.isAgg5
  z5 := Tryd.sizeOf5
  v5 := Tryd.zeroValue5
  i5 := by kernel_rfl
  t21 := Tryd.underlying21
  a21 := Tryd.isAgg21
  z21 := Tryd.sizeOf21
  v21 := Tryd.zeroValue21
  i21 := by kernel_rfl
  t25 := Tryd.underlying131
  a25 := Tryd.isAgg131
  z25 := Tryd.sizeOf131
  v25 := Tryd.zeroValue131
  i25 := by kernel_rfl
  t30 := Tryd.underlying23
  a30 := Tryd.isAgg23
  z30 := Tryd.sizeOf23
  v30 := Tryd.zeroValue23
  i30 := by kernel_rfl
  t33 := Tryd.underlying96
  a33 := Tryd.isAgg96
  z33 := Tryd.sizeOf96
  v33 := Tryd.zeroValue96
  i33 := by kernel_rfl
  t66 := Tryd.underlying112
  a66 := Tryd.isAgg112
  z66 := Tryd.sizeOf112
  t68 := Tryd.underlying133
  a68 := Tryd.isAgg133
  z68 := Tryd.sizeOf133
  v68 := Tryd.zeroValue133
  i68 := by kernel_rfl
  t69 := Tryd.underlying134
  a69 := Tryd.isAgg134
  z69 := Tryd.sizeOf134
  v69 := Tryd.zeroValue134
  i69 := by kernel_rfl
  g2 := by kernel_rfl
  g3 := by kernel_rfl }
open Go.RowKit Go.Lib in
theorem Tryd.utf8_DecodeRune (s : ByteArray) (b off cap : Nat) (w : World) (hT : Lib.Utf8Tabs 3 4 w)
    (hp : ∀ j, j < s.size → w.cell? ⟨b, off + j, none⟩ = some (.int .u8 (s.get! j).toNat)) :
    Calls Tryd.prog 56 #[.slice (some ⟨b, off, none⟩) s.size cap] w fun e w' => e = .returned (.tuple #[.int .i32 (Lib.decodeGo s).1, .int .i64 (Lib.decodeGo s).2]) ∧ Below w.heap.size w w' := Any7.utf8_DecodeRune Tryd.lays32 s b off cap w hT hp
def Tryd.lays202_ren : Go.Shelf.Ren := ⟨fun | 202 => 57 | 261 => 74 | 311 => 91 | 312 => 92 | n => n, fun | 21 => 21 | 4 => 4 | 51 => 111 | 5 => 5 | 119 => 112 | 0 => 0 | 141 => 114 | 196 => 138 | 193 => 135 | 3 => 3 | 198 => 141 | 49 => 139 | 194 => 136 | 201 => 144 | 226 => 154 | 46 => 131 | 227 => 155 | n => n, fun | 7 => 0 | 10 => 1 | n => n⟩
theorem Tryd.lays202 : Go.Proofs.Lays.n202 Tryd.prog Tryd.lays202_ren := {
  mixed := by kernel_rfl
  f202 := Tryd.func57.trans (congrArg some (by kernel_rfl))
  f261 := Tryd.func74.trans (congrArg some (by kernel_rfl))
  f311 := Tryd.func91.trans (congrArg some (by kernel_rfl))
  f312 := Tryd.func92.trans (congrArg some (by kernel_rfl))
  t0 := Tryd.underlying0
  a0 := Tryd.isAgg0
  z0 := Tryd.sizeOf0
  v0 := Tryd.zeroValue0
  t3 := Tryd.underlying3
  a3 := Tryd.isAgg3
  z3 := Tryd.sizeOf3
  v3 := Tryd.zeroValue3
  t4 := Tryd.underlying4
  a4 := Tryd.isAgg4
  z4 := Tryd.sizeOf4
  v4 := Tryd.zeroValue4
  t5 := Tryd.underlying5
  a5 := Tryd.isAgg5
  z5 := Tryd.sizeOf5
  v5 := Tryd.zeroValue5
  t21 := Tryd.underlying21
  a21 := Tryd.isAgg21
  z21 := Tryd.sizeOf21
  v21 := Tryd.zeroValue21
  t46 := Tryd.underlying131
  a46 := Tryd.isAgg131
  z46 := Tryd.sizeOf131
  v46 := Tryd.zeroValue131
  t49 := Tryd.underlying139
  a49 := Tryd.isAgg139
  z49 := Tryd.sizeOf139
  v49 := Tryd.zeroValue139
  t51 := Tryd.underlying111
  a51 := Tryd.isAgg111
  z51 := Tryd.sizeOf111
  v51 := Tryd.zeroValue111
  t119 := Tryd.underlying112
  a119 := Tryd.isAgg112
  z119 := Tryd.sizeOf112
  t141 := Tryd.underlying114
  a141 := Tryd.isAgg114
  z141 := Tryd.sizeOf114
  v141 := Tryd.zeroValue114
  t193 := Tryd.underlying135
  a193 := Tryd.isAgg135
  z193 := Tryd.sizeOf135
  v193 := Tryd.zeroValue135
  t194 := Tryd.underlying136
  a194 := Tryd.isAgg136
  z194 := Tryd.sizeOf136
  v194 := Tryd.zeroValue136
  t196 := Tryd.underlying138
  a196 := Tryd.isAgg138
  z196 := Tryd.sizeOf138
  v196 := Tryd.zeroValue138
  t198 := Tryd.underlying141
  a198 := Tryd.isAgg141
  z198 := Tryd.sizeOf141
  v198 := Tryd.zeroValue141
  t201 := Tryd.underlying144
  a201 := Tryd.isAgg144
  z201 := Tryd.sizeOf144
  v201 := Tryd.zeroValue144
  t226 := Tryd.underlying154
  a226 := Tryd.isAgg154
  z226 := Tryd.sizeOf154
  v226 := Tryd.zeroValue154
  t227 := Tryd.underlying155
  a227 := Tryd.isAgg155
  z227 := Tryd.sizeOf155
  v227 := Tryd.zeroValue155
  g7 := by kernel_rfl
  g10 := by kernel_rfl }
open Go.RowKit Go.Lib in
theorem Tryd.unicode_IsLower_all (r : Int) (w : World) (hlo : -2147483648 ≤ r) (hhi : r ≤ 2147483647) (htab : Lib.TabIs Tryd.prog w "unicode.properties" .u8 Lib.propertiesTab) (hV : RVar 1 lowerT w) :
    Calls Tryd.prog 57 #[.int .i32 r] w fun e w' => e = .returned (.bool (isLowerU r)) ∧ Below w.heap.size w w' := Any.unicode_IsLower_all Tryd.lays202 (by kernel_rfl) r w hlo hhi htab hV
def Tryd.lays102_ren : Go.Shelf.Ren := ⟨fun | 102 => 68 | 209 => 81 | 207 => 96 | n => n, fun | 9 => 9 | 4 => 4 | 3 => 3 | n => n, fun | n => n⟩
theorem Tryd.lays102 : Go.Proofs.Lays.n102 Tryd.prog Tryd.lays102_ren := {
  mixed := by kernel_rfl
  f102 := Tryd.func68.trans (congrArg some (by kernel_rfl))
  f207 := Tryd.func96.trans (congrArg some (by kernel_rfl))
  f209 := Tryd.func81.trans (congrArg some (by kernel_rfl))
  t3 := Tryd.underlying3
  a3 := Tryd.isAgg3
  z3 := Tryd.sizeOf3
  v3 := Tryd.zeroValue3
  t4 := Tryd.underlying4
  a4 := Tryd.isAgg4
  z4 := Tryd.sizeOf4
  v4 := Tryd.zeroValue4
  t9 := Tryd.underlying9
  a9 := Tryd.isAgg9
  z9 := Tryd.sizeOf9
  v9 := Tryd.zeroValue9 }
open Go.RowKit Go.Lib in
theorem Tryd.strings_TrimSuffix (s p : ByteArray) (w : World) (hs : s.size ≤ 9223372036854775807) :
    Calls Tryd.prog 68 #[.string s, .string p] w fun e w' => e = .returned (.string ⟨(Lib.trimSuffix s.data.toList p.data.toList).toArray⟩) ∧ w' = w := Any.strings_TrimSuffix Tryd.lays102 s p w hs
def Tryd.lays163_ren : Go.Shelf.Ren := ⟨fun | 163 => 70 | 237 => 88 | 199 => 89 | 238 => 90 | 272 => 104 | 261 => 74 | 273 => 105 | 197 => 99 | 315 => 112 | 311 => 91 | 312 => 92 | 271 => 113 | 260 => 109 | 120 => 106 | n => n, fun | 9 => 9 | 37 => 23 | 3 => 3 | 0 => 0 | 5 => 5 | 4 => 4 | 40 => 98 | 119 => 112 | 21 => 21 | 51 => 111 | 141 => 114 | 105 => 96 | 196 => 138 | 193 => 135 | 198 => 141 | 49 => 139 | 194 => 136 | 201 => 144 | 226 => 154 | 46 => 131 | 227 => 155 | 139 => 134 | 138 => 133 | n => n, fun | 0 => 2 | 6 => 6 | 3 => 3 | 4 => 4 | n => n⟩
theorem Tryd.lays163 : Go.Proofs.Lays.n163 Tryd.prog Tryd.lays163_ren := {
  mixed := by kernel_rfl
  f120 := Tryd.func106.trans (congrArg some (by kernel_rfl))
  f163 := Tryd.func70.trans (congrArg some (by kernel_rfl))
  f197 := Tryd.func99.trans (congrArg some (by kernel_rfl))
  f199 := Tryd.func89.trans (congrArg some (by kernel_rfl))
  f237 := Tryd.func88.trans (congrArg some (by kernel_rfl))
  f238 := Tryd.func90.trans (congrArg some (by kernel_rfl))
  f260 := Tryd.func109.trans (congrArg some (by kernel_rfl))
  f261 := Tryd.func74.trans (congrArg some (by kernel_rfl))
  f271 := Tryd.func113.trans (congrArg some (by kernel_rfl))
  f272 := Tryd.func104.trans (congrArg some (by kernel_rfl))
  f273 := Tryd.func105.trans (congrArg some (by kernel_rfl))
  f311 := Tryd.func91.trans (congrArg some (by kernel_rfl))
  f312 := Tryd.func92.trans (congrArg some (by kernel_rfl))
  f315 := Tryd.func112.trans (congrArg some (by kernel_rfl))
  t0 := Tryd.underlying0
  a0 := Tryd.isAgg0
  z0 := Tryd.sizeOf0
  v0 := Tryd.zeroValue0
  t3 := Tryd.underlying3
  a3 := Tryd.isAgg3
  z3 := Tryd.sizeOf3
  v3 := Tryd.zeroValue3
  t4 := Tryd.underlying4
  a4 := Tryd.isAgg4
  z4 := Tryd.sizeOf4
  v4 := Tryd.zeroValue4
  t5 := Tryd.underlying5
  a5 := Tryd.isAgg5
  z5 := Tryd.sizeOf5
  v5 := Tryd.zeroValue5
  t9 := Tryd.underlying9
  a9 := Tryd.isAgg9
  z9 := Tryd.sizeOf9
  v9 := Tryd.zeroValue9
  t21 := Tryd.underlying21
  a21 := Tryd.isAgg21
  z21 := Tryd.sizeOf21
  v21 := Tryd.zeroValue21
  t37 := Tryd.underlying23
  a37 := Tryd.isAgg23
  z37 := Tryd.sizeOf23
  v37 := Tryd.zeroValue23
  t40 := Tryd.underlying98
  a40 := Tryd.isAgg98
  z40 := Tryd.sizeOf98
  v40 := Tryd.zeroValue98
  t46 := Tryd.underlying131
  a46 := Tryd.isAgg131
  z46 := Tryd.sizeOf131
  v46 := Tryd.zeroValue131
  t49 := Tryd.underlying139
  a49 := Tryd.isAgg139
  z49 := Tryd.sizeOf139
  v49 := Tryd.zeroValue139
  t51 := Tryd.underlying111
  a51 := Tryd.isAgg111
  z51 := Tryd.sizeOf111
  v51 := Tryd.zeroValue111
  t105 := Tryd.underlying96
  a105 := Tryd.isAgg96
  z105 := Tryd.sizeOf96
  v105 := Tryd.zeroValue96
  t119 := Tryd.underlying112
  a119 := Tryd.isAgg112
  z119 := Tryd.sizeOf112
  t138 := Tryd.underlying133
  a138 := Tryd.isAgg133
  z138 := Tryd.sizeOf133
  v138 := Tryd.zeroValue133
  t139 := Tryd.underlying134
  a139 := Tryd.isAgg134
  z139 := Tryd.sizeOf134
  v139 := Tryd.zeroValue134
  t141 := Tryd.underlying114
  a141 := Tryd.isAgg114
  z141 := Tryd.sizeOf114
  v141 := Tryd.zeroValue114
  t193 := Tryd.underlying135
  a193 := Tryd.isAgg135
  z193 := Tryd.sizeOf135
  v193 := Tryd.zeroValue135
  t194 := Tryd.underlying136
  a194 := Tryd.isAgg136
  z194 := Tryd.sizeOf136
  v194 := Tryd.zeroValue136
  t196 := Tryd.underlying138
  a196 := Tryd.isAgg138
  z196 := Tryd.sizeOf138
  v196 := Tryd.zeroValue138
  t198 := Tryd.underlying141
  a198 := Tryd.isAgg141
  z198 := Tryd.sizeOf141
  v198 := Tryd.zeroValue141
  t201 := Tryd.underlying144
  a201 := Tryd.isAgg144
  z201 := Tryd.sizeOf144
  v201 := Tryd.zeroValue144
  t226 := Tryd.underlying154
  a226 := Tryd.isAgg154
  z226 := Tryd.sizeOf154
  v226 := Tryd.zeroValue154
  t227 := Tryd.underlying155
  a227 := Tryd.isAgg155
  z227 := Tryd.sizeOf155
  v227 := Tryd.zeroValue155
  g0 := by kernel_rfl
  g3 := by kernel_rfl
  g4 := by kernel_rfl
  g6 := by kernel_rfl }
theorem Tryd.Space_Extra_163 : Space.Extra Tryd.prog Tryd.lays163_ren := {
  gNamed := by kernel_rfl }
open Go.RowKit in
theorem Tryd.strings_TrimSpace_any (s : ByteArray) (w : World) (hs : s.size ≤ 9223372036854775807) (htab : Lib.TabIs Tryd.prog w "strings.asciiSpace" .u8 Lib.asciiSpaceTab) (hU8 : Lib.Utf8Tabs 3 4 w) (hWS : Lib.WhiteTab 6 w) :
    Calls Tryd.prog 70 #[.string s] w fun e w' => e = .returned (.string ⟨(Lib.trimSpaceD s.data.toList).toArray⟩) ∧ Below w.heap.size w w' := Any.strings_TrimSpace_any Tryd.lays163 Tryd.Space_Extra_163 s w hs htab hU8 hWS
end Go.Proofs
