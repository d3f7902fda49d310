/-
  The contracts of the kit's shelf at this dump, in plain words (laid by the kit's tool; what this seat does not use is left out).
-/
import Derived.Shelf.Strings.Builder1
import Derived.Shelf.Strings.Prefix
import Derived.Shelf.Strings.Repeat
import Derived.Test.YbulkakkaFmtProg
namespace Go.Proofs
open Go.Shelf
def Ybaf.lays170_ren : Go.Shelf.Ren := ⟨fun | 170 => 26 | n => n, fun | 70 => 68 | 3 => 3 | 0 => 0 | 72 => 70 | 37 => 37 | 5 => 5 | n => n, fun | n => n⟩
theorem Ybaf.lays170 : Go.Proofs.Lays.n170 Ybaf.prog Ybaf.lays170_ren := {
  mixed := by kernel_rfl
  f170 := Ybaf.func26.trans (congrArg some (by kernel_rfl))
  t0 := Ybaf.underlying0
  a0 := Ybaf.isAgg0
  z0 := Ybaf.sizeOf0
  v0 := Ybaf.zeroValue0
  t3 := Ybaf.underlying3
  a3 := Ybaf.isAgg3
  z3 := Ybaf.sizeOf3
  v3 := Ybaf.zeroValue3
  t37 := Ybaf.underlying37
  a37 := Ybaf.isAgg37
  z37 := Ybaf.sizeOf37
  v37 := Ybaf.zeroValue37
  t70 := Ybaf.underlying68
  a70 := Ybaf.isAgg68
  z70 := Ybaf.sizeOf68
  v70 := Ybaf.zeroValue68
  t72 := Ybaf.underlying70
  a72 := Ybaf.isAgg70
  z72 := Ybaf.sizeOf70
  v72 := Ybaf.zeroValue70 }
open Go.RowKit in
theorem Ybaf.Builder_Len (B b : Nat) (bs : List Value) (w : World) (h : Lib.IsBuilder 70 5 B b bs w) :
    Calls Ybaf.prog 26 #[.pointer (some ⟨b, 0, none⟩)] w fun e w' => e = .returned (.int .i64 bs.length) ∧ w' = w := Any.Builder_Len Ybaf.lays170 B b bs w h
def Ybaf.lays169_ren : Go.Shelf.Ren := ⟨fun | 169 => 27 | n => n, fun | 70 => 68 | 9 => 9 | 0 => 0 | 72 => 70 | 37 => 37 | 127 => 85 | 3 => 3 | 5 => 5 | n => n, fun | n => n⟩
theorem Ybaf.lays169 : Go.Proofs.Lays.n169 Ybaf.prog Ybaf.lays169_ren := {
  mixed := by kernel_rfl
  f169 := Ybaf.func27.trans (congrArg some (by kernel_rfl))
  t0 := Ybaf.underlying0
  a0 := Ybaf.isAgg0
  z0 := Ybaf.sizeOf0
  v0 := Ybaf.zeroValue0
  t3 := Ybaf.underlying3
  a3 := Ybaf.isAgg3
  z3 := Ybaf.sizeOf3
  v3 := Ybaf.zeroValue3
  t9 := Ybaf.underlying9
  a9 := Ybaf.isAgg9
  z9 := Ybaf.sizeOf9
  v9 := Ybaf.zeroValue9
  t37 := Ybaf.underlying37
  a37 := Ybaf.isAgg37
  z37 := Ybaf.sizeOf37
  v37 := Ybaf.zeroValue37
  t70 := Ybaf.underlying68
  a70 := Ybaf.isAgg68
  z70 := Ybaf.sizeOf68
  v70 := Ybaf.zeroValue68
  t72 := Ybaf.underlying70
  a72 := Ybaf.isAgg70
  z72 := Ybaf.sizeOf70
  v72 := Ybaf.zeroValue70
  t127 := Ybaf.underlying85
  a127 := Ybaf.isAgg85
  z127 := Ybaf.sizeOf85
  v127 := Ybaf.zeroValue85 }
theorem Ybaf.Builder_Extra_169 : Builder.Extra Ybaf.prog Ybaf.lays169_ren := {
  sizeBuilder := by kernel_rfl
  liesBuilder := by kernel_rfl
  t5 := Ybaf.underlying5
  a5 := Ybaf.isAgg5
  z5 := Ybaf.sizeOf5
  v5 := Ybaf.zeroValue5
  infoByte := by kernel_rfl
  cellsByte := by kernel_rfl
  sizeByte := by kernel_rfl
  neB5 := by decide }
open Go.RowKit in
theorem Ybaf.Builder_String_any (B b : Nat) (l : List UInt8) (w : World) (h : Lib.IsBuilder 70 5 B b (Lib.byteCells l) w) (hBw : B ≤ w.heap.size) :
    Calls Ybaf.prog 27 #[.pointer (some ⟨b, 0, none⟩)] w fun e w' => e = .returned (.string ⟨l.toArray⟩) ∧ Below B w w' := Any.Builder_String_any Ybaf.lays169 Ybaf.Builder_Extra_169 B b l w h hBw
def Ybaf.lays206_ren : Go.Shelf.Ren := ⟨fun | 206 => 31 | n => n, fun | 9 => 9 | 4 => 4 | 3 => 3 | n => n, fun | n => n⟩
theorem Ybaf.lays206 : Go.Proofs.Lays.n206 Ybaf.prog Ybaf.lays206_ren := {
  mixed := by kernel_rfl
  f206 := Ybaf.func31.trans (congrArg some (by kernel_rfl))
  t3 := Ybaf.underlying3
  a3 := Ybaf.isAgg3
  z3 := Ybaf.sizeOf3
  v3 := Ybaf.zeroValue3
  t4 := Ybaf.underlying4
  a4 := Ybaf.isAgg4
  z4 := Ybaf.sizeOf4
  v4 := Ybaf.zeroValue4
  t9 := Ybaf.underlying9
  a9 := Ybaf.isAgg9
  z9 := Ybaf.sizeOf9
  v9 := Ybaf.zeroValue9 }
def Ybaf.lays99_ren : Go.Shelf.Ren := ⟨fun | 99 => 23 | 206 => 31 | n => n, fun | 9 => 9 | 4 => 4 | 3 => 3 | n => n, fun | n => n⟩
theorem Ybaf.lays99 : Go.Proofs.Lays.n99 Ybaf.prog Ybaf.lays99_ren := {
  mixed := by kernel_rfl
  f99 := Ybaf.func23.trans (congrArg some (by kernel_rfl))
  f206 := Ybaf.func31.trans (congrArg some (by kernel_rfl))
  t3 := Ybaf.underlying3
  a3 := Ybaf.isAgg3
  z3 := Ybaf.sizeOf3
  v3 := Ybaf.zeroValue3
  t4 := Ybaf.underlying4
  a4 := Ybaf.isAgg4
  z4 := Ybaf.sizeOf4
  v4 := Ybaf.zeroValue4
  t9 := Ybaf.underlying9
  a9 := Ybaf.isAgg9
  z9 := Ybaf.sizeOf9
  v9 := Ybaf.zeroValue9 }
open Go.RowKit Go.Lib in
theorem Ybaf.strings_HasPrefix (s p : ByteArray) (w : World) :
    Calls Ybaf.prog 23 #[.string s, .string p] w fun e w' => e = .returned (.bool (Lib.hasPrefix s.data.toList p.data.toList)) ∧ w' = w := Any.strings_HasPrefix Ybaf.lays99 s p w
def Ybaf.lays105_ren : Go.Shelf.Ren := ⟨fun | 105 => 16 | 212 => 22 | 99 => 23 | 165 => 24 | 166 => 25 | 170 => 26 | 169 => 27 | 263 => 29 | 264 => 30 | 206 => 31 | 240 => 32 | 241 => 33 | 276 => 34 | 277 => 35 | n => n, fun | 9 => 9 | 3 => 3 | 4 => 4 | 20 => 20 | 0 => 0 | 46 => 64 | 109 => 65 | 5 => 5 | 72 => 70 | 76 => 72 | 51 => 79 | 146 => 80 | 53 => 82 | 148 => 83 | 70 => 68 | 37 => 37 | 75 => 28 | 127 => 85 | 164 => 86 | 80 => 75 | n => n, fun | n => n⟩
theorem Ybaf.lays105 : Go.Proofs.Lays.n105 Ybaf.prog Ybaf.lays105_ren := {
  mixed := by kernel_rfl
  f99 := Ybaf.func23.trans (congrArg some (by kernel_rfl))
  f105 := Ybaf.func16.trans (congrArg some (by kernel_rfl))
  f165 := Ybaf.func24.trans (congrArg some (by kernel_rfl))
  f166 := Ybaf.func25.trans (congrArg some (by kernel_rfl))
  f169 := Ybaf.func27.trans (congrArg some (by kernel_rfl))
  f170 := Ybaf.func26.trans (congrArg some (by kernel_rfl))
  f206 := Ybaf.func31.trans (congrArg some (by kernel_rfl))
  f212 := Ybaf.func22.trans (congrArg some (by kernel_rfl))
  f240 := Ybaf.func32.trans (congrArg some (by kernel_rfl))
  f241 := Ybaf.func33.trans (congrArg some (by kernel_rfl))
  f263 := Ybaf.func29.trans (congrArg some (by kernel_rfl))
  f264 := Ybaf.func30.trans (congrArg some (by kernel_rfl))
  f276 := Ybaf.func34.trans (congrArg some (by kernel_rfl))
  f277 := Ybaf.func35.trans (congrArg some (by kernel_rfl))
  t0 := Ybaf.underlying0
  a0 := Ybaf.isAgg0
  z0 := Ybaf.sizeOf0
  v0 := Ybaf.zeroValue0
  t3 := Ybaf.underlying3
  a3 := Ybaf.isAgg3
  z3 := Ybaf.sizeOf3
  v3 := Ybaf.zeroValue3
  t4 := Ybaf.underlying4
  a4 := Ybaf.isAgg4
  z4 := Ybaf.sizeOf4
  v4 := Ybaf.zeroValue4
  t5 := Ybaf.underlying5
  a5 := Ybaf.isAgg5
  z5 := Ybaf.sizeOf5
  v5 := Ybaf.zeroValue5
  t9 := Ybaf.underlying9
  a9 := Ybaf.isAgg9
  z9 := Ybaf.sizeOf9
  v9 := Ybaf.zeroValue9
  t20 := Ybaf.underlying20
  a20 := Ybaf.isAgg20
  z20 := Ybaf.sizeOf20
  v20 := Ybaf.zeroValue20
  t37 := Ybaf.underlying37
  a37 := Ybaf.isAgg37
  z37 := Ybaf.sizeOf37
  v37 := Ybaf.zeroValue37
  t46 := Ybaf.underlying64
  a46 := Ybaf.isAgg64
  z46 := Ybaf.sizeOf64
  v46 := Ybaf.zeroValue64
  t51 := Ybaf.underlying79
  a51 := Ybaf.isAgg79
  z51 := Ybaf.sizeOf79
  v51 := Ybaf.zeroValue79
  t53 := Ybaf.underlying82
  a53 := Ybaf.isAgg82
  z53 := Ybaf.sizeOf82
  v53 := Ybaf.zeroValue82
  t70 := Ybaf.underlying68
  a70 := Ybaf.isAgg68
  z70 := Ybaf.sizeOf68
  v70 := Ybaf.zeroValue68
  t72 := Ybaf.underlying70
  a72 := Ybaf.isAgg70
  z72 := Ybaf.sizeOf70
  v72 := Ybaf.zeroValue70
  t75 := Ybaf.underlying28
  a75 := Ybaf.isAgg28
  z75 := Ybaf.sizeOf28
  v75 := Ybaf.zeroValue28
  t76 := Ybaf.underlying72
  a76 := Ybaf.isAgg72
  z76 := Ybaf.sizeOf72
  v76 := Ybaf.zeroValue72
  t109 := Ybaf.underlying65
  a109 := Ybaf.isAgg65
  z109 := Ybaf.sizeOf65
  v109 := Ybaf.zeroValue65
  t127 := Ybaf.underlying85
  a127 := Ybaf.isAgg85
  z127 := Ybaf.sizeOf85
  v127 := Ybaf.zeroValue85
  t146 := Ybaf.underlying80
  a146 := Ybaf.isAgg80
  z146 := Ybaf.sizeOf80
  v146 := Ybaf.zeroValue80
  t148 := Ybaf.underlying83
  a148 := Ybaf.isAgg83
  z148 := Ybaf.sizeOf83
  v148 := Ybaf.zeroValue83
  t164 := Ybaf.underlying86
  a164 := Ybaf.isAgg86
  z164 := Ybaf.sizeOf86
  v164 := Ybaf.zeroValue86 }
theorem Ybaf.Builder_Extra_105 : Builder.Extra Ybaf.prog Ybaf.lays105_ren := {
  sizeBuilder := by kernel_rfl
  liesBuilder := by kernel_rfl
  t5 := Ybaf.underlying5
  a5 := Ybaf.isAgg5
  z5 := Ybaf.sizeOf5
  v5 := Ybaf.zeroValue5
  infoByte := by kernel_rfl
  cellsByte := by kernel_rfl
  sizeByte := by kernel_rfl
  neB5 := by decide }
open Go.RowKit Go.Lib in
theorem Ybaf.strings_Repeat (s : ByteArray) (c : Nat) (w : World) (hc : c ≤ 9223372036854775807) (hlen : s.size * c ≤ 140737488355328) :
    Calls Ybaf.prog 16 #[.string s, .int .i64 c] w fun e w' => e = .returned (.string ⟨(Lib.repeatL s.data.toList c).toArray⟩) ∧ Below w.heap.size w w' := Any.strings_Repeat Ybaf.lays105 Ybaf.Builder_Extra_105 s c w hc hlen
end Go.Proofs
