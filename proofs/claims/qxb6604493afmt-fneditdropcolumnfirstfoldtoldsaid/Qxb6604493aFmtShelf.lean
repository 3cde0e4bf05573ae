/-
  The shelf's contracts that this seat's walks use, in plain words (made by the kit's lay-shelf.mjs and lay-plain.mjs for this dump; what those could not lay by themselves is taken off the one laying of strings.ToUpper, whose closure holds all of it).
-/
import Derived.Shelf.Strings.OnBuilder
import Derived.Shelf.Strings.BuilderK
import Derived.Shelf.Strings.BuilderRune
import Derived.Shelf.Unicode.DecodeAny
import Derived.Shelf.Unicode.CaseLookup
import Derived.Shelf.Unicode.CaseConvert
import Derived.Test.Qxb6604493aFmtProg
namespace Go.Proofs.Qxb6604493aFmt
open Go.Shelf Go.RowKit Go.Lib
def Tryf.lays158_ren : Go.Shelf.Ren := ⟨fun | 158 => 37 | 165 => 41 | 166 => 42 | 167 => 43 | 169 => 39 | 230 => 44 | 203 => 45 | 240 => 46 | 241 => 48 | 197 => 27 | 118 => 49 | 168 => 38 | 270 => 50 | 262 => 51 | 276 => 52 | 277 => 54 | 260 => 34 | 242 => 47 | 313 => 55 | 278 => 53 | 274 => 35 | 275 => 36 | n => n, fun | 9 => 9 | 4 => 4 | 3 => 3 | 5 => 5 | 72 => 104 | 0 => 0 | 76 => 105 | 75 => 46 | 107 => 78 | 70 => 101 | 20 => 20 | 37 => 102 | 127 => 126 | 21 => 21 | 105 => 76 | 164 => 130 | 162 => 96 | 203 => 133 | 119 => 112 | 46 => 91 | 139 => 115 | 138 => 114 | 51 => 116 | 160 => 94 | 208 => 120 | 206 => 118 | 80 => 107 | n => n, fun | 13 => 2 | 3 => 3 | 4 => 4 | n => n⟩
theorem Tryf.lays158 : Go.Proofs.Lays.n158 Tryf.prog Tryf.lays158_ren := {
  mixed := by kernel_rfl
  f118 := Tryf.func49.trans (congrArg some (by kernel_rfl))
  f158 := Tryf.func37.trans (congrArg some (by kernel_rfl))
  f165 := Tryf.func41.trans (congrArg some (by kernel_rfl))
  f166 := Tryf.func42.trans (congrArg some (by kernel_rfl))
  f167 := Tryf.func43.trans (congrArg some (by kernel_rfl))
  f168 := Tryf.func38.trans (congrArg some (by kernel_rfl))
  f169 := Tryf.func39.trans (congrArg some (by kernel_rfl))
  f197 := Tryf.func27.trans (congrArg some (by kernel_rfl))
  f203 := Tryf.func45.trans (congrArg some (by kernel_rfl))
  f230 := Tryf.func44.trans (congrArg some (by kernel_rfl))
  f240 := Tryf.func46.trans (congrArg some (by kernel_rfl))
  f241 := Tryf.func48.trans (congrArg some (by kernel_rfl))
  f242 := Tryf.func47.trans (congrArg some (by kernel_rfl))
  f260 := Tryf.func34.trans (congrArg some (by kernel_rfl))
  f262 := Tryf.func51.trans (congrArg some (by kernel_rfl))
  f270 := Tryf.func50.trans (congrArg some (by kernel_rfl))
  f274 := Tryf.func35.trans (congrArg some (by kernel_rfl))
  f275 := Tryf.func36.trans (congrArg some (by kernel_rfl))
  f276 := Tryf.func52.trans (congrArg some (by kernel_rfl))
  f277 := Tryf.func54.trans (congrArg some (by kernel_rfl))
  f278 := Tryf.func53.trans (congrArg some (by kernel_rfl))
  f313 := Tryf.func55.trans (congrArg some (by kernel_rfl))
  t0 := Tryf.underlying0
  a0 := Tryf.isAgg0
  z0 := Tryf.sizeOf0
  v0 := Tryf.zeroValue0
  t3 := Tryf.underlying3
  a3 := Tryf.isAgg3
  z3 := Tryf.sizeOf3
  v3 := Tryf.zeroValue3
  t4 := Tryf.underlying4
  a4 := Tryf.isAgg4
  z4 := Tryf.sizeOf4
  v4 := Tryf.zeroValue4
  t5 := Tryf.underlying5
  a5 := Tryf.isAgg5
  z5 := Tryf.sizeOf5
  v5 := Tryf.zeroValue5
  t9 := Tryf.underlying9
  a9 := Tryf.isAgg9
  z9 := Tryf.sizeOf9
  v9 := Tryf.zeroValue9
  t20 := Tryf.underlying20
  a20 := Tryf.isAgg20
  z20 := Tryf.sizeOf20
  v20 := Tryf.zeroValue20
  t21 := Tryf.underlying21
  a21 := Tryf.isAgg21
  z21 := Tryf.sizeOf21
  v21 := Tryf.zeroValue21
  t37 := Tryf.underlying102
  a37 := Tryf.isAgg102
  z37 := Tryf.sizeOf102
  v37 := Tryf.zeroValue102
  t46 := Tryf.underlying91
  a46 := Tryf.isAgg91
  z46 := Tryf.sizeOf91
  v46 := Tryf.zeroValue91
  t51 := Tryf.underlying116
  a51 := Tryf.isAgg116
  z51 := Tryf.sizeOf116
  v51 := Tryf.zeroValue116
  t70 := Tryf.underlying101
  a70 := Tryf.isAgg101
  z70 := Tryf.sizeOf101
  v70 := Tryf.zeroValue101
  t72 := Tryf.underlying104
  a72 := Tryf.isAgg104
  z72 := Tryf.sizeOf104
  v72 := Tryf.zeroValue104
  t75 := Tryf.underlying46
  a75 := Tryf.isAgg46
  z75 := Tryf.sizeOf46
  v75 := Tryf.zeroValue46
  t76 := Tryf.underlying105
  a76 := Tryf.isAgg105
  z76 := Tryf.sizeOf105
  v76 := Tryf.zeroValue105
  t105 := Tryf.underlying76
  a105 := Tryf.isAgg76
  z105 := Tryf.sizeOf76
  v105 := Tryf.zeroValue76
  t107 := Tryf.underlying78
  a107 := Tryf.isAgg78
  z107 := Tryf.sizeOf78
  v107 := Tryf.zeroValue78
  t119 := Tryf.underlying112
  a119 := Tryf.isAgg112
  z119 := Tryf.sizeOf112
  t127 := Tryf.underlying126
  a127 := Tryf.isAgg126
  z127 := Tryf.sizeOf126
  v127 := Tryf.zeroValue126
  t138 := Tryf.underlying114
  a138 := Tryf.isAgg114
  z138 := Tryf.sizeOf114
  v138 := Tryf.zeroValue114
  t139 := Tryf.underlying115
  a139 := Tryf.isAgg115
  z139 := Tryf.sizeOf115
  v139 := Tryf.zeroValue115
  t160 := Tryf.underlying94
  a160 := Tryf.isAgg94
  z160 := Tryf.sizeOf94
  v160 := Tryf.zeroValue94
  t162 := Tryf.underlying96
  a162 := Tryf.isAgg96
  z162 := Tryf.sizeOf96
  v162 := Tryf.zeroValue96
  t164 := Tryf.underlying130
  a164 := Tryf.isAgg130
  z164 := Tryf.sizeOf130
  v164 := Tryf.zeroValue130
  t203 := Tryf.underlying133
  a203 := Tryf.isAgg133
  z203 := Tryf.sizeOf133
  v203 := Tryf.zeroValue133
  t206 := Tryf.underlying118
  a206 := Tryf.isAgg118
  z206 := Tryf.sizeOf118
  v206 := Tryf.zeroValue118
  t208 := Tryf.underlying120
  a208 := Tryf.isAgg120
  z208 := Tryf.sizeOf120
  v208 := Tryf.zeroValue120
  g3 := by kernel_rfl
  g4 := by kernel_rfl
  g13 := by kernel_rfl }
theorem Tryf.Builder_Extra_158 : Builder.Extra Tryf.prog Tryf.lays158_ren := {
  sizeBuilder := by kernel_rfl
  liesBuilder := by kernel_rfl
  t5 := Tryf.underlying5
  a5 := Tryf.isAgg5
  z5 := Tryf.sizeOf5
  v5 := Tryf.zeroValue5
  infoByte := by kernel_rfl
  cellsByte := by kernel_rfl
  sizeByte := by kernel_rfl
  neB5 := by decide }
/-- strings.ToUpper: "ToUpper returns s with all Unicode letters mapped to their upper case.": ON ASCII TEXT OF AT MOST 2^47 BYTES. Below the heap's end the world is as it was: where a letter turns, the call makes a builder and its buffer. (LAID: no walk: one application.) -/
theorem Tryf.strings_ToUpper_ascii (s : ByteArray) (w : World) (hs : s.size ≤ 140737488355328) (hascii : ∀ (j : Nat) (b : UInt8), s.data.toList[j]? = some b → b.toNat < 128) :
    Calls Tryf.prog 37 #[.string s] w fun e w' => e = .returned (.string ⟨(Lib.toUpperA s.data.toList).toArray⟩) ∧ Below w.heap.size w w' := Any.strings_ToUpper_ascii Tryf.lays158 Tryf.Builder_Extra_158 s w hs hascii
theorem Tryf.Builder_WriteRune_k (B b : Nat) (bs : List Value) (r : Int) (hr0 : -2147483648 ≤ r) (hr1 : r ≤ 2147483647) (w : World) (h : Lib.IsBuilderF 104 5 B b bs w) (hlen : bs.length + 4 ≤ 140737488355328) (hBw : B ≤ w.heap.size) :
    Calls Tryf.prog 38 #[.pointer (some ⟨b, 0, none⟩), .int .i32 r] w fun e w' => e = .returned (.tuple #[.int .i64 (Lib.runeCells r).length, .nilIface]) ∧ (Lib.BuilderAtF 104 5 B b (.pointer (some ⟨b, 0, none⟩)) (bs ++ Lib.runeCells r) w' ∧ Below B w w' ∧ Lib.OthersKept 5 (some b) w w') :=
  Any.Builder_WriteRune_k { Tryf.lays158 with } Tryf.Builder_Extra_158 B b bs r hr0 hr1 w h hlen hBw
theorem Tryf.Builder_String_any_k (B b : Nat) (l : List UInt8) (w : World) (h : Lib.IsBuilderF 104 5 B b (Lib.byteCells l) w) (hBw : B ≤ w.heap.size) :
    Calls Tryf.prog 39 #[.pointer (some ⟨b, 0, none⟩)] w fun e w' => e = .returned (.string ⟨l.toArray⟩) ∧ (Lib.IsBuilderF 104 5 B b (Lib.byteCells l) w' ∧ Below B w w' ∧ Lib.OthersKept 5 (some b) w w') :=
  Any.Builder_String_any_k { Tryf.lays158 with } Tryf.Builder_Extra_158 B b l w h hBw
theorem Tryf.utf8_DecodeRuneInString (s : ByteArray) (w : World) (hT : Lib.Utf8Tabs 3 4 w) :
    Calls Tryf.prog 27 #[.string s] w fun e w' => e = .returned (.tuple #[.int .i32 (Lib.decodeGo s).1, .int .i64 (Lib.decodeGo s).2]) ∧ Below w.heap.size w w' :=
  Any.utf8_DecodeRuneInString { Tryf.lays158 with } s w hT
theorem Tryf.unicode_lookupCaseRange (T : Array CaseRow) (R oR cap : Nat) (r : Int) (w : World) (hT : CaseTab R oR T w) (hok : CaseOk T) (hn : T.size ≤ 1000000000) :
    Calls Tryf.prog 35 #[.int .i32 r, .slice (some ⟨R, oR, none⟩) T.size cap] w fun e w' =>
      e = .returned (match lookupIdx T r (T.size + 1) 0 T.size with | some i => .pointer (some ⟨R, oR + i * 5, none⟩) | none => .pointer none) ∧ w' = w :=
  Any.unicode_lookupCaseRange { Tryf.lays158 with } T R oR cap r w hT hok hn
theorem Tryf.unicode_convertCase (c : Nat) (hc : c < 3) (r : Int) (A o : Nat) (x : CaseRow) (w : World) (hlo : (x.1 : Int) ≤ r) (hhi : r ≤ (x.2.1 : Int)) (hH : x.2.1 < 2147483647) (c0 : w.cell? ⟨A, o, none⟩ = some (.int .u32 x.1)) (cD : w.cell? ⟨A, o + 2 + c, none⟩ = some (.int .i32 (x.delta c))) :
    Calls Tryf.prog 36 #[.int .i64 c, .int .i32 r, .pointer (some ⟨A, o, none⟩)] w fun e w' => e = .returned (.int .i32 (wrap32 (convertR c r x))) ∧ ∃ q, w' = w.drewN q :=
  Any.unicode_convertCase { Tryf.lays158 with } c hc r A o x w hlo hhi hH c0 cD
end Go.Proofs.Qxb6604493aFmt
