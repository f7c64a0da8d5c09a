/-
  The kit's contracts of the library's functions, laid at this translation's own numbers (written by the kit's tools lay-shelf and lay-plain).
-/
import Derived.Shelf.Small.Utf8
import Derived.Shelf.Utf8.RuneCount
import Derived.Shelf.Strconv.Bsearch
import Derived.Shelf.Strconv.IsPrint
import Derived.Shelf.Strconv.IsPrint16
import Derived.Shelf.Strconv.IsPrint32
import Derived.Shelf.Strings.LastIndex
import Derived.Shelf.Strings.LastIndexAll
import Derived.Shelf.Strings.RuneCount
import Derived.Shelf.Unicode.DecodeSlow
import Derived.Shelf.Unicode.DecodeAny
import Derived.Shelf.Unicode.DecodeLast
import Derived.Shelf.Spec.EncodeRune
import Derived.Test.YtnenjlgpdejfaaaDoorProg
namespace Go.Proofs
open Go.Shelf
def Tryd.lays120_ren : Go.Shelf.Ren := ⟨fun | 120 => 58 | n => n, fun | 5 => 5 | 4 => 4 | n => n, fun | n => n⟩
theorem Tryd.lays120 : Go.Proofs.Lays.n120 Tryd.prog Tryd.lays120_ren := {
  mixed := by kernel_rfl
  f120 := Tryd.func58.trans (congrArg some (by kernel_rfl))
  t4 := Tryd.underlying4
  a4 := Tryd.isAgg4
  z4 := Tryd.sizeOf4
  v4 := Tryd.zeroValue4
  t5 := Tryd.underlying5
  a5 := Tryd.isAgg5
  z5 := Tryd.sizeOf5
  v5 := Tryd.zeroValue5 }
theorem Tryd.utf8_RuneStart (b : Int) (w : World) (h0 : 0 ≤ b) (h1 : b < 256) :
    Calls Tryd.prog 58 #[.int .u8 b] w fun e w' => e = .returned (.bool (Lib.runeStart b)) ∧ w' = w := Any.utf8_RuneStart Tryd.lays120 b w h0 h1
def Tryd.lays195_ren : Go.Shelf.Ren := ⟨fun | 195 => 55 | n => n, fun | 9 => 9 | 3 => 3 | 0 => 0 | 4 => 4 | n => n, fun | n => n⟩
theorem Tryd.lays195 : Go.Proofs.Lays.n195 Tryd.prog Tryd.lays195_ren := {
  mixed := by kernel_rfl
  f195 := Tryd.func55.trans (congrArg some (by kernel_rfl))
  t0 := Tryd.underlying0
  a0 := Tryd.isAgg0
  z0 := Tryd.sizeOf0
  v0 := Tryd.zeroValue0
  t3 := Tryd.underlying3
  a3 := Tryd.isAgg3
  z3 := Tryd.sizeOf3
  v3 := Tryd.zeroValue3
  t4 := Tryd.underlying4
  a4 := Tryd.isAgg4
  z4 := Tryd.sizeOf4
  v4 := Tryd.zeroValue4
  t9 := Tryd.underlying9
  a9 := Tryd.isAgg9
  z9 := Tryd.sizeOf9
  v9 := Tryd.zeroValue9 }
open Go.RowKit in
theorem Tryd.utf8_RuneCountInString (s : ByteArray) (w : World) (hs : s.size < 9223372036854775807) :
    Calls Tryd.prog 55 #[.string s] w fun e w' => e = .returned (.int .i64 (Lib.runeCount s)) ∧ ∃ pos, w' = w.iter s pos := Any.utf8_RuneCountInString Tryd.lays195 s w hs
def Tryd.lays345_ren : Go.Shelf.Ren := ⟨fun | 345 => 46 | n => n, fun | 234 => 75 | 49 => 74 | 3 => 3 | 4 => 4 | 46 => 72 | 0 => 0 | n => n, fun | n => n⟩
theorem Tryd.lays345 : Go.Proofs.Lays.n345 Tryd.prog Tryd.lays345_ren := {
  mixed := by kernel_rfl
  f345 := Tryd.func46.trans (congrArg some (by kernel_rfl))
  t0 := Tryd.underlying0
  a0 := Tryd.isAgg0
  z0 := Tryd.sizeOf0
  v0 := Tryd.zeroValue0
  t3 := Tryd.underlying3
  a3 := Tryd.isAgg3
  z3 := Tryd.sizeOf3
  v3 := Tryd.zeroValue3
  t4 := Tryd.underlying4
  a4 := Tryd.isAgg4
  z4 := Tryd.sizeOf4
  v4 := Tryd.zeroValue4
  t46 := Tryd.underlying72
  a46 := Tryd.isAgg72
  z46 := Tryd.sizeOf72
  v46 := Tryd.zeroValue72
  t49 := Tryd.underlying74
  a49 := Tryd.isAgg74
  z49 := Tryd.sizeOf74
  v49 := Tryd.zeroValue74
  t234 := Tryd.underlying75
  a234 := Tryd.isAgg75
  z234 := Tryd.sizeOf75
  v234 := Tryd.zeroValue75 }
open Go.RowKit in
theorem Tryd.strconv_bsearch16 (R o c : Nat) (t : List Nat) (v : Nat) (w : World) (h0 : 0 < t.length) (hn : t.length ≤ 4611686018427387904) (hc : ∀ j, j < t.length → w.cell? ⟨R, o + j, none⟩ = some (.int .u16 (t.getD j 0))) :
    Calls Tryd.prog 46 #[.slice (some ⟨R, o, none⟩) t.length c, .int .u16 v] w fun e w' => e = .returned (.tuple #[.int .i64 (Lib.bsearchI t v), .bool (Lib.bsearchFound t v)]) ∧ ∃ q, w' = w.drewN q := Any.strconv_bsearch16 Tryd.lays345 R o c t v w h0 hn hc
def Tryd.lays346_ren : Go.Shelf.Ren := ⟨fun | 346 => 47 | n => n, fun | 236 => 79 | 51 => 78 | 3 => 3 | 4 => 4 | 46 => 72 | 0 => 0 | n => n, fun | n => n⟩
theorem Tryd.lays346 : Go.Proofs.Lays.n346 Tryd.prog Tryd.lays346_ren := {
  mixed := by kernel_rfl
  f346 := Tryd.func47.trans (congrArg some (by kernel_rfl))
  t0 := Tryd.underlying0
  a0 := Tryd.isAgg0
  z0 := Tryd.sizeOf0
  v0 := Tryd.zeroValue0
  t3 := Tryd.underlying3
  a3 := Tryd.isAgg3
  z3 := Tryd.sizeOf3
  v3 := Tryd.zeroValue3
  t4 := Tryd.underlying4
  a4 := Tryd.isAgg4
  z4 := Tryd.sizeOf4
  v4 := Tryd.zeroValue4
  t46 := Tryd.underlying72
  a46 := Tryd.isAgg72
  z46 := Tryd.sizeOf72
  v46 := Tryd.zeroValue72
  t51 := Tryd.underlying78
  a51 := Tryd.isAgg78
  z51 := Tryd.sizeOf78
  v51 := Tryd.zeroValue78
  t236 := Tryd.underlying79
  a236 := Tryd.isAgg79
  z236 := Tryd.sizeOf79
  v236 := Tryd.zeroValue79 }
open Go.RowKit in
theorem Tryd.strconv_bsearch32 (R o c : Nat) (t : List Nat) (v : Nat) (w : World) (h0 : 0 < t.length) (hn : t.length ≤ 4611686018427387904) (hc : ∀ j, j < t.length → w.cell? ⟨R, o + j, none⟩ = some (.int .u32 (t.getD j 0))) :
    Calls Tryd.prog 47 #[.slice (some ⟨R, o, none⟩) t.length c, .int .u32 v] w fun e w' => e = .returned (.tuple #[.int .i64 (Lib.bsearchI t v), .bool (Lib.bsearchFound t v)]) ∧ ∃ q, w' = w.drewN q := Any.strconv_bsearch32 Tryd.lays346 R o c t v w h0 hn hc
def Tryd.lays339_ren : Go.Shelf.Ren := ⟨fun | 339 => 34 | 345 => 46 | 346 => 47 | n => n, fun | 21 => 21 | 4 => 4 | 49 => 74 | 234 => 75 | 131 => 76 | 3 => 3 | 0 => 0 | 51 => 78 | 236 => 79 | 46 => 72 | n => n, fun | 20 => 0 | 21 => 1 | 22 => 2 | 23 => 3 | n => n⟩
theorem Tryd.lays339 : Go.Proofs.Lays.n339 Tryd.prog Tryd.lays339_ren := {
  mixed := by kernel_rfl
  f339 := Tryd.func34.trans (congrArg some (by kernel_rfl))
  f345 := Tryd.func46.trans (congrArg some (by kernel_rfl))
  f346 := Tryd.func47.trans (congrArg some (by kernel_rfl))
  t0 := Tryd.underlying0
  a0 := Tryd.isAgg0
  z0 := Tryd.sizeOf0
  v0 := Tryd.zeroValue0
  t3 := Tryd.underlying3
  a3 := Tryd.isAgg3
  z3 := Tryd.sizeOf3
  v3 := Tryd.zeroValue3
  t4 := Tryd.underlying4
  a4 := Tryd.isAgg4
  z4 := Tryd.sizeOf4
  v4 := Tryd.zeroValue4
  t21 := Tryd.underlying21
  a21 := Tryd.isAgg21
  z21 := Tryd.sizeOf21
  v21 := Tryd.zeroValue21
  t46 := Tryd.underlying72
  a46 := Tryd.isAgg72
  z46 := Tryd.sizeOf72
  v46 := Tryd.zeroValue72
  t49 := Tryd.underlying74
  a49 := Tryd.isAgg74
  z49 := Tryd.sizeOf74
  v49 := Tryd.zeroValue74
  t51 := Tryd.underlying78
  a51 := Tryd.isAgg78
  z51 := Tryd.sizeOf78
  v51 := Tryd.zeroValue78
  t131 := Tryd.underlying76
  a131 := Tryd.isAgg76
  z131 := Tryd.sizeOf76
  v131 := Tryd.zeroValue76
  t234 := Tryd.underlying75
  a234 := Tryd.isAgg75
  z234 := Tryd.sizeOf75
  v234 := Tryd.zeroValue75
  t236 := Tryd.underlying79
  a236 := Tryd.isAgg79
  z236 := Tryd.sizeOf79
  v236 := Tryd.zeroValue79
  g20 := by kernel_rfl
  g21 := by kernel_rfl
  g22 := by kernel_rfl
  g23 := by kernel_rfl }
open Go.RowKit in
theorem Tryd.strconv_IsPrint_latin (r : Int) (w : World) (hr : r ≤ 255) :
    Calls Tryd.prog 34 #[.int .i32 r] w fun e w' => e = .returned (.bool (Lib.isPrintLatin r)) ∧ w' = w := Any.strconv_IsPrint_latin Tryd.lays339 r w hr
open Go.RowKit in
theorem Tryd.strconv_IsPrint_16 (T : Lib.PrintTabs) (r : Nat) (w : World) (h1 : 255 < r) (h2 : r < 65536) (hT : Lib.PrintTabsAt 0 1 2 3 T w) :
    Calls Tryd.prog 34 #[.int .i32 r] w fun e w' => e = .returned (.bool (Lib.isPrintR T r)) ∧ ∃ q, w' = w.drewN q := Any.strconv_IsPrint_16 Tryd.lays339 T r w h1 h2 hT
open Go.RowKit in
theorem Tryd.strconv_IsPrint_32 (T : Lib.PrintTabs) (r : Nat) (w : World) (h1 : 65535 < r) (h2 : r < 2147483648) (hT : Lib.PrintTabsAt 0 1 2 3 T w) :
    Calls Tryd.prog 34 #[.int .i32 r] w fun e w' => e = .returned (.bool (Lib.isPrintR T r)) ∧ ∃ q, w' = w.drewN q := Any.strconv_IsPrint_32 Tryd.lays339 T r w h1 h2 hT
open Go.RowKit in
theorem Tryd.strconv_IsPrint (T : Lib.PrintTabs) (r : Int) (w : World) (hlo : -2147483648 ≤ r) (hhi : r ≤ 2147483647) (hT : Lib.PrintTabsAt 0 1 2 3 T w) :
    Calls Tryd.prog 34 #[.int .i32 r] w fun e w' => e = .returned (.bool (Lib.isPrintR T r)) ∧ ∃ q, w' = w.drewN q := Any.strconv_IsPrint Tryd.lays339 T r w hlo hhi hT
def Tryd.lays222_ren : Go.Shelf.Ren := ⟨fun | 222 => 60 | n => n, fun | 9 => 9 | 5 => 5 | 3 => 3 | 4 => 4 | n => n, fun | n => n⟩
theorem Tryd.lays222 : Go.Proofs.Lays.n222 Tryd.prog Tryd.lays222_ren := {
  mixed := by kernel_rfl
  f222 := Tryd.func60.trans (congrArg some (by kernel_rfl))
  t3 := Tryd.underlying3
  a3 := Tryd.isAgg3
  z3 := Tryd.sizeOf3
  v3 := Tryd.zeroValue3
  t4 := Tryd.underlying4
  a4 := Tryd.isAgg4
  z4 := Tryd.sizeOf4
  v4 := Tryd.zeroValue4
  t5 := Tryd.underlying5
  a5 := Tryd.isAgg5
  z5 := Tryd.sizeOf5
  v5 := Tryd.zeroValue5
  t9 := Tryd.underlying9
  a9 := Tryd.isAgg9
  z9 := Tryd.sizeOf9
  v9 := Tryd.zeroValue9 }
open Go.RowKit Go.Lib in
theorem Tryd.bytealg_LastIndexByteString_nm (s : ByteArray) (c : Int) (hs : s.size < 4611686018427387904) (w : World) :
    Calls Tryd.prog 60 #[.string s, .int .u8 c] w fun e w' => e = .returned (.int .i64 (Lib.lastIndexByte s c)) ∧ w' = w := Any.bytealg_LastIndexByteString_nm Tryd.lays222 s c hs w
def Tryd.lays148_ren : Go.Shelf.Ren := ⟨fun | 148 => 54 | 222 => 60 | 223 => 61 | 269 => 65 | n => n, fun | 9 => 9 | 3 => 3 | 4 => 4 | 5 => 5 | 146 => 102 | 51 => 78 | 46 => 72 | n => n, fun | n => n⟩
theorem Tryd.lays148 : Go.Proofs.Lays.n148 Tryd.prog Tryd.lays148_ren := {
  mixed := by kernel_rfl
  f148 := Tryd.func54.trans (congrArg some (by kernel_rfl))
  f222 := Tryd.func60.trans (congrArg some (by kernel_rfl))
  f223 := Tryd.func61.trans (congrArg some (by kernel_rfl))
  f269 := Tryd.func65.trans (congrArg some (by kernel_rfl))
  t3 := Tryd.underlying3
  a3 := Tryd.isAgg3
  z3 := Tryd.sizeOf3
  v3 := Tryd.zeroValue3
  t4 := Tryd.underlying4
  a4 := Tryd.isAgg4
  z4 := Tryd.sizeOf4
  v4 := Tryd.zeroValue4
  t5 := Tryd.underlying5
  a5 := Tryd.isAgg5
  z5 := Tryd.sizeOf5
  v5 := Tryd.zeroValue5
  t9 := Tryd.underlying9
  a9 := Tryd.isAgg9
  z9 := Tryd.sizeOf9
  v9 := Tryd.zeroValue9
  t46 := Tryd.underlying72
  a46 := Tryd.isAgg72
  z46 := Tryd.sizeOf72
  v46 := Tryd.zeroValue72
  t51 := Tryd.underlying78
  a51 := Tryd.isAgg78
  z51 := Tryd.sizeOf78
  v51 := Tryd.zeroValue78
  t146 := Tryd.underlying102
  a146 := Tryd.isAgg102
  z146 := Tryd.sizeOf102
  v146 := Tryd.zeroValue102 }
open Go.RowKit Go.Lib in
theorem Tryd.strings_LastIndex_one (s sub : ByteArray) (h1 : sub.size = 1) (hs : s.size < 4611686018427387904) (w : World) :
    Calls Tryd.prog 54 #[.string s, .string sub] w fun e w' => e = .returned (.int .i64 (Lib.lastIndexByte s ((sub[0]'(by omega)).toNat : Int))) ∧ w' = w := Any.strings_LastIndex_one Tryd.lays148 s sub h1 hs w
open Go.RowKit Go.Lib in
theorem Tryd.strings_LastIndex_empty (s sub : ByteArray) (h0 : sub.size = 0) (w : World) :
    Calls Tryd.prog 54 #[.string s, .string sub] w fun e w' => e = .returned (.int .i64 s.size) ∧ w' = w := Any.strings_LastIndex_empty Tryd.lays148 s sub h0 w
open Go.RowKit Go.Lib in
theorem Tryd.strings_LastIndex_longer (s sub : ByteArray) (h2 : 2 ≤ sub.size) (hl : s.size < sub.size) (w : World) :
    Calls Tryd.prog 54 #[.string s, .string sub] w fun e w' => e = .returned (.int .i64 (-1)) ∧ w' = w := Any.strings_LastIndex_longer Tryd.lays148 s sub h2 hl w
open Go.RowKit Go.Lib in
theorem Tryd.strings_LastIndex_whole (s sub : ByteArray) (h2 : 2 ≤ sub.size) (hl : sub.size = s.size) (w : World) :
    Calls Tryd.prog 54 #[.string s, .string sub] w fun e w' => e = .returned (.int .i64 (if sub = s then 0 else -1)) ∧ w' = w := Any.strings_LastIndex_whole Tryd.lays148 s sub h2 hl w
def Tryd.lays269_ren : Go.Shelf.Ren := ⟨fun | 269 => 65 | n => n, fun | 9 => 9 | 51 => 78 | 3 => 3 | 4 => 4 | 5 => 5 | 46 => 72 | n => n, fun | n => n⟩
theorem Tryd.lays269 : Go.Proofs.Lays.n269 Tryd.prog Tryd.lays269_ren := {
  mixed := by kernel_rfl
  f269 := Tryd.func65.trans (congrArg some (by kernel_rfl))
  t3 := Tryd.underlying3
  a3 := Tryd.isAgg3
  z3 := Tryd.sizeOf3
  v3 := Tryd.zeroValue3
  t4 := Tryd.underlying4
  a4 := Tryd.isAgg4
  z4 := Tryd.sizeOf4
  v4 := Tryd.zeroValue4
  t5 := Tryd.underlying5
  a5 := Tryd.isAgg5
  z5 := Tryd.sizeOf5
  v5 := Tryd.zeroValue5
  t9 := Tryd.underlying9
  a9 := Tryd.isAgg9
  z9 := Tryd.sizeOf9
  v9 := Tryd.zeroValue9
  t46 := Tryd.underlying72
  a46 := Tryd.isAgg72
  z46 := Tryd.sizeOf72
  v46 := Tryd.zeroValue72
  t51 := Tryd.underlying78
  a51 := Tryd.isAgg78
  z51 := Tryd.sizeOf78
  v51 := Tryd.zeroValue78 }
open Go.RowKit Go.Lib in
theorem Tryd.bytealg_hashStrRev (sep : ByteArray) (hs : sep.size < 4611686018427387904) (w : World) :
    Calls Tryd.prog 65 #[.string sep] w fun e w' => e = .returned (.tuple #[.int .u32 (RK.H sep.data.toList.reverse % 4294967296), .int .u32 (16777619 ^ sep.size % 4294967296)]) ∧ w' = w := Any.bytealg_hashStrRev Tryd.lays269 sep hs w
def Tryd.lays223_ren : Go.Shelf.Ren := ⟨fun | 223 => 61 | 269 => 65 | n => n, fun | 9 => 9 | 3 => 3 | 146 => 102 | 51 => 78 | 4 => 4 | 5 => 5 | 46 => 72 | n => n, fun | n => n⟩
theorem Tryd.lays223 : Go.Proofs.Lays.n223 Tryd.prog Tryd.lays223_ren := {
  mixed := by kernel_rfl
  f223 := Tryd.func61.trans (congrArg some (by kernel_rfl))
  f269 := Tryd.func65.trans (congrArg some (by kernel_rfl))
  t3 := Tryd.underlying3
  a3 := Tryd.isAgg3
  z3 := Tryd.sizeOf3
  v3 := Tryd.zeroValue3
  t4 := Tryd.underlying4
  a4 := Tryd.isAgg4
  z4 := Tryd.sizeOf4
  v4 := Tryd.zeroValue4
  t5 := Tryd.underlying5
  a5 := Tryd.isAgg5
  z5 := Tryd.sizeOf5
  v5 := Tryd.zeroValue5
  t9 := Tryd.underlying9
  a9 := Tryd.isAgg9
  z9 := Tryd.sizeOf9
  v9 := Tryd.zeroValue9
  t46 := Tryd.underlying72
  a46 := Tryd.isAgg72
  z46 := Tryd.sizeOf72
  v46 := Tryd.zeroValue72
  t51 := Tryd.underlying78
  a51 := Tryd.isAgg78
  z51 := Tryd.sizeOf78
  v51 := Tryd.zeroValue78
  t146 := Tryd.underlying102
  a146 := Tryd.isAgg102
  z146 := Tryd.sizeOf102
  v146 := Tryd.zeroValue102 }
open Go.RowKit Go.Lib in
theorem Tryd.bytealg_LastIndexRabinKarp (s sep : ByteArray) (h1 : 1 ≤ sep.size) (h2 : sep.size ≤ s.size) (hs : s.size < 4611686018427387904) (w : World) :
    Calls Tryd.prog 61 #[.string s, .string sep] w fun e w' => e = .returned (.int .i64 (Lib.lastIndex s.data.toList sep.data.toList)) ∧ w' = w := Any.bytealg_LastIndexRabinKarp Tryd.lays223 s sep h1 h2 hs w
open Go.RowKit Go.Lib in
theorem Tryd.strings_LastIndex_hash (s sub : ByteArray) (h2 : 2 ≤ sub.size) (hl : sub.size < s.size) (hs : s.size < 4611686018427387904) (w : World) :
    Calls Tryd.prog 54 #[.string s, .string sub] w fun e w' => e = .returned (.int .i64 (Lib.lastIndex s.data.toList sub.data.toList)) ∧ w' = w := Any.strings_LastIndex_hash Tryd.lays148 s sub h2 hl hs w
open Go.RowKit Go.Lib in
theorem Tryd.strings_LastIndex (s sub : ByteArray) (hs : s.size < 4611686018427387904) (w : World) :
    Calls Tryd.prog 54 #[.string s, .string sub] w fun e w' => e = .returned (.int .i64 (Lib.lastIndex s.data.toList sub.data.toList)) ∧ w' = w := Any.strings_LastIndex Tryd.lays148 s sub hs w
open Go.RowKit Go.Lib in
theorem Tryd.utf8_RuneCountInString_ascii (s : ByteArray) (w : World) (hs : s.size < 4294967281) (hascii : ∀ (j : Nat) b, s.data.toList[j]? = some b → b.toNat < 128) :
    Calls Tryd.prog 55 #[.string s] w fun e w' => e = .returned (.int .i64 s.size) ∧ w' = w.iter s s.size := Any.utf8_RuneCountInString_ascii Tryd.lays195 s w hs hascii
def Tryd.lays260_ren : Go.Shelf.Ren := ⟨fun | 260 => 37 | n => n, fun | 9 => 9 | 21 => 21 | 3 => 3 | 4 => 4 | 5 => 5 | 119 => 81 | 0 => 0 | 46 => 72 | 139 => 84 | 138 => 83 | n => n, fun | 3 => 4 | 4 => 5 | n => n⟩
theorem Tryd.lays260 : Go.Proofs.Lays.n260 Tryd.prog Tryd.lays260_ren := {
  mixed := by kernel_rfl
  f260 := Tryd.func37.trans (congrArg some (by kernel_rfl))
  t0 := Tryd.underlying0
  a0 := Tryd.isAgg0
  z0 := Tryd.sizeOf0
  v0 := Tryd.zeroValue0
  t3 := Tryd.underlying3
  a3 := Tryd.isAgg3
  z3 := Tryd.sizeOf3
  v3 := Tryd.zeroValue3
  t4 := Tryd.underlying4
  a4 := Tryd.isAgg4
  z4 := Tryd.sizeOf4
  v4 := Tryd.zeroValue4
  t5 := Tryd.underlying5
  a5 := Tryd.isAgg5
  z5 := Tryd.sizeOf5
  v5 := Tryd.zeroValue5
  t9 := Tryd.underlying9
  a9 := Tryd.isAgg9
  z9 := Tryd.sizeOf9
  v9 := Tryd.zeroValue9
  t21 := Tryd.underlying21
  a21 := Tryd.isAgg21
  z21 := Tryd.sizeOf21
  v21 := Tryd.zeroValue21
  t46 := Tryd.underlying72
  a46 := Tryd.isAgg72
  z46 := Tryd.sizeOf72
  v46 := Tryd.zeroValue72
  t119 := Tryd.underlying81
  a119 := Tryd.isAgg81
  z119 := Tryd.sizeOf81
  t138 := Tryd.underlying83
  a138 := Tryd.isAgg83
  z138 := Tryd.sizeOf83
  v138 := Tryd.zeroValue83
  t139 := Tryd.underlying84
  a139 := Tryd.isAgg84
  z139 := Tryd.sizeOf84
  v139 := Tryd.zeroValue84
  g3 := by kernel_rfl
  g4 := by kernel_rfl }
open Go.RowKit Go.Lib in
theorem Tryd.utf8_decodeRuneInStringSlow (s : ByteArray) (w : World) (hT : Lib.Utf8Tabs 4 5 w) :
    Calls Tryd.prog 37 #[.string s] w fun e w' => e = .returned (.tuple #[.int .i32 (Lib.decodeGo s).1, .int .i64 (Lib.decodeGo s).2]) ∧ Below w.heap.size w w' := Any.utf8_decodeRuneInStringSlow Tryd.lays260 s w hT
def Tryd.lays197_ren : Go.Shelf.Ren := ⟨fun | 197 => 24 | 260 => 37 | n => n, fun | 9 => 9 | 21 => 21 | 3 => 3 | 4 => 4 | 5 => 5 | 105 => 37 | 119 => 81 | 0 => 0 | 46 => 72 | 139 => 84 | 138 => 83 | n => n, fun | 3 => 4 | 4 => 5 | n => n⟩
theorem Tryd.lays197 : Go.Proofs.Lays.n197 Tryd.prog Tryd.lays197_ren := {
  mixed := by kernel_rfl
  f197 := Tryd.func24.trans (congrArg some (by kernel_rfl))
  f260 := Tryd.func37.trans (congrArg some (by kernel_rfl))
  t0 := Tryd.underlying0
  a0 := Tryd.isAgg0
  z0 := Tryd.sizeOf0
  v0 := Tryd.zeroValue0
  t3 := Tryd.underlying3
  a3 := Tryd.isAgg3
  z3 := Tryd.sizeOf3
  v3 := Tryd.zeroValue3
  t4 := Tryd.underlying4
  a4 := Tryd.isAgg4
  z4 := Tryd.sizeOf4
  v4 := Tryd.zeroValue4
  t5 := Tryd.underlying5
  a5 := Tryd.isAgg5
  z5 := Tryd.sizeOf5
  v5 := Tryd.zeroValue5
  t9 := Tryd.underlying9
  a9 := Tryd.isAgg9
  z9 := Tryd.sizeOf9
  v9 := Tryd.zeroValue9
  t21 := Tryd.underlying21
  a21 := Tryd.isAgg21
  z21 := Tryd.sizeOf21
  v21 := Tryd.zeroValue21
  t46 := Tryd.underlying72
  a46 := Tryd.isAgg72
  z46 := Tryd.sizeOf72
  v46 := Tryd.zeroValue72
  t105 := Tryd.underlying37
  a105 := Tryd.isAgg37
  z105 := Tryd.sizeOf37
  v105 := Tryd.zeroValue37
  t119 := Tryd.underlying81
  a119 := Tryd.isAgg81
  z119 := Tryd.sizeOf81
  t138 := Tryd.underlying83
  a138 := Tryd.isAgg83
  z138 := Tryd.sizeOf83
  v138 := Tryd.zeroValue83
  t139 := Tryd.underlying84
  a139 := Tryd.isAgg84
  z139 := Tryd.sizeOf84
  v139 := Tryd.zeroValue84
  g3 := by kernel_rfl
  g4 := by kernel_rfl }
open Go.RowKit Go.Lib in
theorem Tryd.utf8_DecodeRuneInString (s : ByteArray) (w : World) (hT : Lib.Utf8Tabs 4 5 w) :
    Calls Tryd.prog 24 #[.string s] w fun e w' => e = .returned (.tuple #[.int .i32 (Lib.decodeGo s).1, .int .i64 (Lib.decodeGo s).2]) ∧ Below w.heap.size w w' := Any.utf8_DecodeRuneInString Tryd.lays197 s w hT
def Tryd.lays271_ren : Go.Shelf.Ren := ⟨fun | 271 => 51 | 120 => 58 | 197 => 24 | 260 => 37 | n => n, fun | 9 => 9 | 21 => 21 | 3 => 3 | 4 => 4 | 5 => 5 | 105 => 37 | 119 => 81 | 0 => 0 | 46 => 72 | 139 => 84 | 138 => 83 | n => n, fun | 3 => 4 | 4 => 5 | n => n⟩
theorem Tryd.lays271 : Go.Proofs.Lays.n271 Tryd.prog Tryd.lays271_ren := {
  mixed := by kernel_rfl
  f120 := Tryd.func58.trans (congrArg some (by kernel_rfl))
  f197 := Tryd.func24.trans (congrArg some (by kernel_rfl))
  f260 := Tryd.func37.trans (congrArg some (by kernel_rfl))
  f271 := Tryd.func51.trans (congrArg some (by kernel_rfl))
  t0 := Tryd.underlying0
  a0 := Tryd.isAgg0
  z0 := Tryd.sizeOf0
  v0 := Tryd.zeroValue0
  t3 := Tryd.underlying3
  a3 := Tryd.isAgg3
  z3 := Tryd.sizeOf3
  v3 := Tryd.zeroValue3
  t4 := Tryd.underlying4
  a4 := Tryd.isAgg4
  z4 := Tryd.sizeOf4
  v4 := Tryd.zeroValue4
  t5 := Tryd.underlying5
  a5 := Tryd.isAgg5
  z5 := Tryd.sizeOf5
  v5 := Tryd.zeroValue5
  t9 := Tryd.underlying9
  a9 := Tryd.isAgg9
  z9 := Tryd.sizeOf9
  v9 := Tryd.zeroValue9
  t21 := Tryd.underlying21
  a21 := Tryd.isAgg21
  z21 := Tryd.sizeOf21
  v21 := Tryd.zeroValue21
  t46 := Tryd.underlying72
  a46 := Tryd.isAgg72
  z46 := Tryd.sizeOf72
  v46 := Tryd.zeroValue72
  t105 := Tryd.underlying37
  a105 := Tryd.isAgg37
  z105 := Tryd.sizeOf37
  v105 := Tryd.zeroValue37
  t119 := Tryd.underlying81
  a119 := Tryd.isAgg81
  z119 := Tryd.sizeOf81
  t138 := Tryd.underlying83
  a138 := Tryd.isAgg83
  z138 := Tryd.sizeOf83
  v138 := Tryd.zeroValue83
  t139 := Tryd.underlying84
  a139 := Tryd.isAgg84
  z139 := Tryd.sizeOf84
  v139 := Tryd.zeroValue84
  g3 := by kernel_rfl
  g4 := by kernel_rfl }
open Go.RowKit Go.Lib in
theorem Tryd.utf8_DecodeLastRuneInString (s : ByteArray) (w : World) (hs : s.size ≤ 9223372036854775807) (hT : Lib.Utf8Tabs 4 5 w) :
    Calls Tryd.prog 51 #[.string s] w fun e w' => e = .returned (.tuple #[.int .i32 (Lib.decodeLastL s.data.toList).1, .int .i64 (Lib.decodeLastL s.data.toList).2]) ∧ Below w.heap.size w w' := Any.utf8_DecodeLastRuneInString Tryd.lays271 s w hs hT
def Tryd.laysS30_ren : Go.Shelf.Ren := ⟨fun | 30 => 45 | 47 => 56 | n => n, fun | 30 => 36 | 21 => 21 | 3 => 3 | 27 => 78 | 4 => 4 | 5 => 5 | 0 => 0 | 25 => 72 | n => n, fun | n => n⟩
theorem Tryd.laysS30 : Go.Proofs.Lays7.n30 Tryd.prog Tryd.laysS30_ren := {
  mixed := by kernel_rfl
  f30 := Tryd.func45.trans (congrArg some (by kernel_rfl))
  f47 := Tryd.func56.trans (congrArg some (by kernel_rfl))
  t0 := Tryd.underlying0
  a0 := Tryd.isAgg0
  z0 := Tryd.sizeOf0
  v0 := Tryd.zeroValue0
  i0 := by kernel_rfl
  t3 := Tryd.underlying3
  a3 := Tryd.isAgg3
  z3 := Tryd.sizeOf3
  v3 := Tryd.zeroValue3
  i3 := by kernel_rfl
  t4 := Tryd.underlying4
  a4 := Tryd.isAgg4
  z4 := Tryd.sizeOf4
  v4 := Tryd.zeroValue4
  i4 := by kernel_rfl
  t5 := Tryd.underlying5
  a5 := Tryd.isAgg5
  z5 := Tryd.sizeOf5
  v5 := Tryd.zeroValue5
  i5 := by kernel_rfl
  t21 := Tryd.underlying21
  a21 := Tryd.isAgg21
  z21 := Tryd.sizeOf21
  v21 := Tryd.zeroValue21
  i21 := by kernel_rfl
  t25 := Tryd.underlying72
  a25 := Tryd.isAgg72
  z25 := Tryd.sizeOf72
  v25 := Tryd.zeroValue72
  i25 := by kernel_rfl
  t27 := Tryd.underlying78
  a27 := Tryd.isAgg78
  z27 := Tryd.sizeOf78
  v27 := Tryd.zeroValue78
  i27 := by kernel_rfl
  t30 := Tryd.underlying36
  a30 := Tryd.isAgg36
  z30 := Tryd.sizeOf36
  v30 := Tryd.zeroValue36
  i30 := by kernel_rfl }
end Go.Proofs
