/-
  DERIVED: THE SHELF's CONTRACTS AT THIS DUMP, IN PLAIN WORDS (tools/lay-plain.mjs out of 'Qxb6600703aDoorShelf.lean', which tools/lay-shelf.mjs wrote): THE SAME DECLARATIONS UNDER THE SAME NAMES: 'import', 'namespace', 'open', 'def', 'theorem' AND NOTHING ELSE: no command of the shelf's: FOR A HAND-IN. Each laying: the table of numbers ('.._ren') and one theorem, a field a fact of the dump's own or the kernel's comparison; each contract: ONE APPLICATION.
-/
import Derived.Shelf.Strings.Trim
import Derived.Shelf.Strings.Cut
import Derived.Shelf.Strings.Fold
import Derived.Test.Qxb6600703aDoorProg
namespace Go.Proofs
open Go.Shelf
def Tryd.lays161_ren : Go.Shelf.Ren := ⟨fun | 161 => 20 | 231 => 26 | 227 => 27 | 233 => 28 | 235 => 29 | 228 => 37 | 197 => 24 | 151 => 38 | 260 => 34 | 152 => 44 | 137 => 49 | 119 => 50 | 224 => 42 | 225 => 41 | 217 => 40 | 266 => 47 | n => n, fun | 9 => 9 | 4 => 4 | 3 => 3 | 5 => 5 | 117 => 47 | 116 => 46 | 0 => 0 | 124 => 50 | 105 => 41 | 21 => 21 | 119 => 51 | 46 => 24 | 139 => 76 | 138 => 75 | n => n, fun | 3 => 6 | 4 => 7 | n => n⟩
theorem Tryd.lays161 : Go.Proofs.Lays.n161 Tryd.prog Tryd.lays161_ren := {
  mixed := by kernel_rfl
  f119 := Tryd.func50.trans (congrArg some (by kernel_rfl))
  f137 := Tryd.func49.trans (congrArg some (by kernel_rfl))
  f151 := Tryd.func38.trans (congrArg some (by kernel_rfl))
  f152 := Tryd.func44.trans (congrArg some (by kernel_rfl))
  f161 := Tryd.func20.trans (congrArg some (by kernel_rfl))
  f197 := Tryd.func24.trans (congrArg some (by kernel_rfl))
  f217 := Tryd.func40.trans (congrArg some (by kernel_rfl))
  f224 := Tryd.func42.trans (congrArg some (by kernel_rfl))
  f225 := Tryd.func41.trans (congrArg some (by kernel_rfl))
  f227 := Tryd.func27.trans (congrArg some (by kernel_rfl))
  f228 := Tryd.func37.trans (congrArg some (by kernel_rfl))
  f231 := Tryd.func26.trans (congrArg some (by kernel_rfl))
  f233 := Tryd.func28.trans (congrArg some (by kernel_rfl))
  f235 := Tryd.func29.trans (congrArg some (by kernel_rfl))
  f260 := Tryd.func34.trans (congrArg some (by kernel_rfl))
  f266 := Tryd.func47.trans (congrArg some (by kernel_rfl))
  t0 := Tryd.underlying0
  a0 := Tryd.isAgg0
  z0 := Tryd.sizeOf0
  v0 := Tryd.zeroValue0
  t3 := Tryd.underlying3
  a3 := Tryd.isAgg3
  z3 := Tryd.sizeOf3
  v3 := Tryd.zeroValue3
  t4 := Tryd.underlying4
  a4 := Tryd.isAgg4
  z4 := Tryd.sizeOf4
  v4 := Tryd.zeroValue4
  t5 := Tryd.underlying5
  a5 := Tryd.isAgg5
  z5 := Tryd.sizeOf5
  v5 := Tryd.zeroValue5
  t9 := Tryd.underlying9
  a9 := Tryd.isAgg9
  z9 := Tryd.sizeOf9
  v9 := Tryd.zeroValue9
  t21 := Tryd.underlying21
  a21 := Tryd.isAgg21
  z21 := Tryd.sizeOf21
  v21 := Tryd.zeroValue21
  t46 := Tryd.underlying24
  a46 := Tryd.isAgg24
  z46 := Tryd.sizeOf24
  v46 := Tryd.zeroValue24
  t105 := Tryd.underlying41
  a105 := Tryd.isAgg41
  z105 := Tryd.sizeOf41
  v105 := Tryd.zeroValue41
  t116 := Tryd.underlying46
  a116 := Tryd.isAgg46
  z116 := Tryd.sizeOf46
  t117 := Tryd.underlying47
  a117 := Tryd.isAgg47
  z117 := Tryd.sizeOf47
  v117 := Tryd.zeroValue47
  t119 := Tryd.underlying51
  a119 := Tryd.isAgg51
  z119 := Tryd.sizeOf51
  t124 := Tryd.underlying50
  a124 := Tryd.isAgg50
  z124 := Tryd.sizeOf50
  v124 := Tryd.zeroValue50
  t138 := Tryd.underlying75
  a138 := Tryd.isAgg75
  z138 := Tryd.sizeOf75
  v138 := Tryd.zeroValue75
  t139 := Tryd.underlying76
  a139 := Tryd.isAgg76
  z139 := Tryd.sizeOf76
  v139 := Tryd.zeroValue76
  g3 := by kernel_rfl
  g4 := by kernel_rfl }
open Go.RowKit in
/-- strings.TrimLeft: "TrimLeft returns a slice of the string s with all leading Unicode code points contained in cutset removed.": AT A cutset OF ONE ASCII BYTE. The world is as it was. (LAID: no walk: one application.) -/
theorem Tryd.strings_TrimLeft_one (s : ByteArray) (c : UInt8) (hc : c.toNat < 128) (w : World) :
    Calls Tryd.prog 20 #[.string s, .string ⟨#[c]⟩] w fun e w' => e = .returned (.string ⟨(Lib.trimLeftB s.data.toList c).toArray⟩) ∧ w' = w := Any.strings_TrimLeft_one Tryd.lays161 s c hc w
def Tryd.lays145_ren : Go.Shelf.Ren := ⟨fun | 145 => 18 | 220 => 23 | 219 => 33 | 217 => 40 | 225 => 41 | 224 => 42 | 267 => 43 | 266 => 47 | 314 => 48 | n => n, fun | 9 => 9 | 4 => 4 | 59 => 36 | 3 => 3 | 5 => 5 | 46 => 24 | 146 => 92 | 51 => 69 | n => n, fun | 1 => 5 | n => n⟩
theorem Tryd.lays145 : Go.Proofs.Lays.n145 Tryd.prog Tryd.lays145_ren := {
  mixed := by kernel_rfl
  f145 := Tryd.func18.trans (congrArg some (by kernel_rfl))
  f217 := Tryd.func40.trans (congrArg some (by kernel_rfl))
  f219 := Tryd.func33.trans (congrArg some (by kernel_rfl))
  f220 := Tryd.func23.trans (congrArg some (by kernel_rfl))
  f224 := Tryd.func42.trans (congrArg some (by kernel_rfl))
  f225 := Tryd.func41.trans (congrArg some (by kernel_rfl))
  f266 := Tryd.func47.trans (congrArg some (by kernel_rfl))
  f267 := Tryd.func43.trans (congrArg some (by kernel_rfl))
  f314 := Tryd.func48.trans (congrArg some (by kernel_rfl))
  t3 := Tryd.underlying3
  a3 := Tryd.isAgg3
  z3 := Tryd.sizeOf3
  v3 := Tryd.zeroValue3
  t4 := Tryd.underlying4
  a4 := Tryd.isAgg4
  z4 := Tryd.sizeOf4
  v4 := Tryd.zeroValue4
  t5 := Tryd.underlying5
  a5 := Tryd.isAgg5
  z5 := Tryd.sizeOf5
  v5 := Tryd.zeroValue5
  t9 := Tryd.underlying9
  a9 := Tryd.isAgg9
  z9 := Tryd.sizeOf9
  v9 := Tryd.zeroValue9
  t46 := Tryd.underlying24
  a46 := Tryd.isAgg24
  z46 := Tryd.sizeOf24
  v46 := Tryd.zeroValue24
  t51 := Tryd.underlying69
  a51 := Tryd.isAgg69
  z51 := Tryd.sizeOf69
  v51 := Tryd.zeroValue69
  t59 := Tryd.underlying36
  a59 := Tryd.isAgg36
  z59 := Tryd.sizeOf36
  v59 := Tryd.zeroValue36
  t146 := Tryd.underlying92
  a146 := Tryd.isAgg92
  z146 := Tryd.sizeOf92
  v146 := Tryd.zeroValue92
  g1 := by kernel_rfl }
open Go.RowKit Go.Lib in
/-- strings.Cut: "Cut slices s around the first instance of sep, returning the text before and after sep. The found result reports whether sep appears in s. If sep does not appear in s, cut returns s, "", false.": IT RETURNS 'Lib.cut s sep'; the world is as it was but for the count of draws. (LAID: no walk: one application.) -/
theorem Tryd.strings_Cut (s sep : ByteArray) (m : Int) (w : World) (hs : s.size < 4294967281) (hm : w.cell? ⟨5, 0, none⟩ = some (.int .i64 m)) :
    Calls Tryd.prog 18 #[.string s, .string sep] w fun e w' => e = .returned (.tuple #[.string ⟨(Lib.cut s.data.toList sep.data.toList).1.toArray⟩, .string ⟨(Lib.cut s.data.toList sep.data.toList).2.1.toArray⟩, .bool (Lib.cut s.data.toList sep.data.toList).2.2]) ∧ ∃ n, w' = w.drewN n := Any.strings_Cut Tryd.lays145 s sep m w hs hm
def Tryd.lays164_ren : Go.Shelf.Ren := ⟨fun | 164 => 19 | 197 => 24 | 239 => 25 | 260 => 34 | 274 => 35 | 275 => 36 | n => n, fun | 9 => 9 | 4 => 4 | 3 => 3 | 5 => 5 | 0 => 0 | 21 => 21 | 105 => 41 | 156 => 56 | 49 => 55 | 157 => 57 | 46 => 24 | 159 => 59 | 162 => 62 | 160 => 60 | 119 => 51 | 139 => 76 | 138 => 75 | 208 => 80 | 51 => 69 | 206 => 78 | n => n, fun | 11 => 1 | 12 => 2 | 13 => 3 | 3 => 6 | 4 => 7 | n => n⟩
theorem Tryd.lays164 : Go.Proofs.Lays.n164 Tryd.prog Tryd.lays164_ren := {
  mixed := by kernel_rfl
  f164 := Tryd.func19.trans (congrArg some (by kernel_rfl))
  f197 := Tryd.func24.trans (congrArg some (by kernel_rfl))
  f239 := Tryd.func25.trans (congrArg some (by kernel_rfl))
  f260 := Tryd.func34.trans (congrArg some (by kernel_rfl))
  f274 := Tryd.func35.trans (congrArg some (by kernel_rfl))
  f275 := Tryd.func36.trans (congrArg some (by kernel_rfl))
  t0 := Tryd.underlying0
  a0 := Tryd.isAgg0
  z0 := Tryd.sizeOf0
  v0 := Tryd.zeroValue0
  t3 := Tryd.underlying3
  a3 := Tryd.isAgg3
  z3 := Tryd.sizeOf3
  v3 := Tryd.zeroValue3
  t4 := Tryd.underlying4
  a4 := Tryd.isAgg4
  z4 := Tryd.sizeOf4
  v4 := Tryd.zeroValue4
  t5 := Tryd.underlying5
  a5 := Tryd.isAgg5
  z5 := Tryd.sizeOf5
  v5 := Tryd.zeroValue5
  t9 := Tryd.underlying9
  a9 := Tryd.isAgg9
  z9 := Tryd.sizeOf9
  v9 := Tryd.zeroValue9
  t21 := Tryd.underlying21
  a21 := Tryd.isAgg21
  z21 := Tryd.sizeOf21
  v21 := Tryd.zeroValue21
  t46 := Tryd.underlying24
  a46 := Tryd.isAgg24
  z46 := Tryd.sizeOf24
  v46 := Tryd.zeroValue24
  t49 := Tryd.underlying55
  a49 := Tryd.isAgg55
  z49 := Tryd.sizeOf55
  v49 := Tryd.zeroValue55
  t51 := Tryd.underlying69
  a51 := Tryd.isAgg69
  z51 := Tryd.sizeOf69
  v51 := Tryd.zeroValue69
  t105 := Tryd.underlying41
  a105 := Tryd.isAgg41
  z105 := Tryd.sizeOf41
  v105 := Tryd.zeroValue41
  t119 := Tryd.underlying51
  a119 := Tryd.isAgg51
  z119 := Tryd.sizeOf51
  t138 := Tryd.underlying75
  a138 := Tryd.isAgg75
  z138 := Tryd.sizeOf75
  v138 := Tryd.zeroValue75
  t139 := Tryd.underlying76
  a139 := Tryd.isAgg76
  z139 := Tryd.sizeOf76
  v139 := Tryd.zeroValue76
  t156 := Tryd.underlying56
  a156 := Tryd.isAgg56
  z156 := Tryd.sizeOf56
  t157 := Tryd.underlying57
  a157 := Tryd.isAgg57
  z157 := Tryd.sizeOf57
  v157 := Tryd.zeroValue57
  t159 := Tryd.underlying59
  a159 := Tryd.isAgg59
  z159 := Tryd.sizeOf59
  v159 := Tryd.zeroValue59
  t160 := Tryd.underlying60
  a160 := Tryd.isAgg60
  z160 := Tryd.sizeOf60
  v160 := Tryd.zeroValue60
  t162 := Tryd.underlying62
  a162 := Tryd.isAgg62
  z162 := Tryd.sizeOf62
  v162 := Tryd.zeroValue62
  t206 := Tryd.underlying78
  a206 := Tryd.isAgg78
  z206 := Tryd.sizeOf78
  v206 := Tryd.zeroValue78
  t208 := Tryd.underlying80
  a208 := Tryd.isAgg80
  z208 := Tryd.sizeOf80
  v208 := Tryd.zeroValue80
  g3 := by kernel_rfl
  g4 := by kernel_rfl
  g11 := by kernel_rfl
  g12 := by kernel_rfl
  g13 := by kernel_rfl }
open Go.RowKit Go.Lib in
theorem Tryd.strings_EqualFold (s t : ByteArray) (w : World) (hs : s.size < 4294967281) (has : ∀ (j : Nat) b, s.data.toList[j]? = some b → b.toNat < 128) (hat : ∀ (j : Nat) b, t.data.toList[j]? = some b → b.toNat < 128) :
    Calls Tryd.prog 19 #[.string s, .string t] w fun e w' => e = .returned (.bool (Lib.equalFold s.data.toList t.data.toList)) ∧ w' = w := Any.strings_EqualFold Tryd.lays164 s t w hs has hat
end Go.Proofs
