/- The shelf's contracts at this program's numbers, in plain words (written by the kit's lay-shelf and lay-plain). -/
import Derived.Shelf.Strings.Builder1
import Derived.Shelf.Strings.Repeat
import Derived.Test.Qxb6601257aProg
namespace Go.Proofs
open Go.Shelf
def Try.lays169_ren : Go.Shelf.Ren := ⟨fun | 169 => 18 | n => n, fun | 70 => 32 | 9 => 9 | 0 => 0 | 72 => 35 | 37 => 33 | 127 => 50 | 3 => 3 | 5 => 5 | n => n, fun | n => n⟩
theorem Try.lays169 : Go.Proofs.Lays.n169 Try.prog Try.lays169_ren := {
  mixed := by kernel_rfl
  f169 := Try.func18.trans (congrArg some (by kernel_rfl))
  t0 := Try.underlying0
  a0 := Try.isAgg0
  z0 := Try.sizeOf0
  v0 := Try.zeroValue0
  t3 := Try.underlying3
  a3 := Try.isAgg3
  z3 := Try.sizeOf3
  v3 := Try.zeroValue3
  t9 := Try.underlying9
  a9 := Try.isAgg9
  z9 := Try.sizeOf9
  v9 := Try.zeroValue9
  t37 := Try.underlying33
  a37 := Try.isAgg33
  z37 := Try.sizeOf33
  v37 := Try.zeroValue33
  t70 := Try.underlying32
  a70 := Try.isAgg32
  z70 := Try.sizeOf32
  v70 := Try.zeroValue32
  t72 := Try.underlying35
  a72 := Try.isAgg35
  z72 := Try.sizeOf35
  v72 := Try.zeroValue35
  t127 := Try.underlying50
  a127 := Try.isAgg50
  z127 := Try.sizeOf50
  v127 := Try.zeroValue50 }
theorem Try.Builder_Extra_169 : Builder.Extra Try.prog Try.lays169_ren := {
  sizeBuilder := by kernel_rfl
  liesBuilder := by kernel_rfl
  t5 := Try.underlying5
  a5 := Try.isAgg5
  z5 := Try.sizeOf5
  v5 := Try.zeroValue5
  infoByte := by kernel_rfl
  cellsByte := by kernel_rfl
  sizeByte := by kernel_rfl
  neB5 := by decide }
open Go.RowKit in
theorem Try.Builder_String (B b : Nat) (l : List UInt8) (w : World) (h : Lib.IsBuilder 35 5 B b (Lib.byteCells l) w) (h0 : l ≠ []) :
    Calls Try.prog 18 #[.pointer (some ⟨b, 0, none⟩)] w fun e w' => e = .returned (.string ⟨l.toArray⟩) ∧ Below B w w' := Any.Builder_String Try.lays169 Try.Builder_Extra_169 B b l w h h0
open Go.RowKit in
theorem Try.Builder_String_empty (B b : Nat) (w : World) (h : Lib.IsBuilder 35 5 B b [] w) (hBw : B ≤ w.heap.size) :
    Calls Try.prog 18 #[.pointer (some ⟨b, 0, none⟩)] w fun e w' => e = .returned (.string ⟨#[]⟩) ∧ Below B w w' := Any.Builder_String_empty Try.lays169 Try.Builder_Extra_169 B b w h hBw
open Go.RowKit in
theorem Try.Builder_String_any (B b : Nat) (l : List UInt8) (w : World) (h : Lib.IsBuilder 35 5 B b (Lib.byteCells l) w) (hBw : B ≤ w.heap.size) :
    Calls Try.prog 18 #[.pointer (some ⟨b, 0, none⟩)] w fun e w' => e = .returned (.string ⟨l.toArray⟩) ∧ Below B w w' := Any.Builder_String_any Try.lays169 Try.Builder_Extra_169 B b l w h hBw
def Try.lays105_ren : Go.Shelf.Ren := ⟨fun | 105 => 16 | 212 => 27 | 99 => 21 | 165 => 28 | 166 => 15 | 170 => 29 | 169 => 18 | 263 => 34 | 264 => 35 | 206 => 30 | 240 => 26 | 241 => 36 | 276 => 33 | 277 => 38 | n => n, fun | 9 => 9 | 3 => 3 | 4 => 4 | 20 => 20 | 0 => 0 | 46 => 45 | 109 => 46 | 5 => 5 | 72 => 35 | 76 => 38 | 51 => 54 | 146 => 55 | 53 => 57 | 148 => 58 | 70 => 32 | 37 => 33 | 75 => 37 | 127 => 50 | 164 => 52 | 80 => 42 | n => n, fun | n => n⟩
theorem Try.lays105 : Go.Proofs.Lays.n105 Try.prog Try.lays105_ren := {
  mixed := by kernel_rfl
  f99 := Try.func21.trans (congrArg some (by kernel_rfl))
  f105 := Try.func16.trans (congrArg some (by kernel_rfl))
  f165 := Try.func28.trans (congrArg some (by kernel_rfl))
  f166 := Try.func15.trans (congrArg some (by kernel_rfl))
  f169 := Try.func18.trans (congrArg some (by kernel_rfl))
  f170 := Try.func29.trans (congrArg some (by kernel_rfl))
  f206 := Try.func30.trans (congrArg some (by kernel_rfl))
  f212 := Try.func27.trans (congrArg some (by kernel_rfl))
  f240 := Try.func26.trans (congrArg some (by kernel_rfl))
  f241 := Try.func36.trans (congrArg some (by kernel_rfl))
  f263 := Try.func34.trans (congrArg some (by kernel_rfl))
  f264 := Try.func35.trans (congrArg some (by kernel_rfl))
  f276 := Try.func33.trans (congrArg some (by kernel_rfl))
  f277 := Try.func38.trans (congrArg some (by kernel_rfl))
  t0 := Try.underlying0
  a0 := Try.isAgg0
  z0 := Try.sizeOf0
  v0 := Try.zeroValue0
  t3 := Try.underlying3
  a3 := Try.isAgg3
  z3 := Try.sizeOf3
  v3 := Try.zeroValue3
  t4 := Try.underlying4
  a4 := Try.isAgg4
  z4 := Try.sizeOf4
  v4 := Try.zeroValue4
  t5 := Try.underlying5
  a5 := Try.isAgg5
  z5 := Try.sizeOf5
  v5 := Try.zeroValue5
  t9 := Try.underlying9
  a9 := Try.isAgg9
  z9 := Try.sizeOf9
  v9 := Try.zeroValue9
  t20 := Try.underlying20
  a20 := Try.isAgg20
  z20 := Try.sizeOf20
  v20 := Try.zeroValue20
  t37 := Try.underlying33
  a37 := Try.isAgg33
  z37 := Try.sizeOf33
  v37 := Try.zeroValue33
  t46 := Try.underlying45
  a46 := Try.isAgg45
  z46 := Try.sizeOf45
  v46 := Try.zeroValue45
  t51 := Try.underlying54
  a51 := Try.isAgg54
  z51 := Try.sizeOf54
  v51 := Try.zeroValue54
  t53 := Try.underlying57
  a53 := Try.isAgg57
  z53 := Try.sizeOf57
  v53 := Try.zeroValue57
  t70 := Try.underlying32
  a70 := Try.isAgg32
  z70 := Try.sizeOf32
  v70 := Try.zeroValue32
  t72 := Try.underlying35
  a72 := Try.isAgg35
  z72 := Try.sizeOf35
  v72 := Try.zeroValue35
  t75 := Try.underlying37
  a75 := Try.isAgg37
  z75 := Try.sizeOf37
  v75 := Try.zeroValue37
  t76 := Try.underlying38
  a76 := Try.isAgg38
  z76 := Try.sizeOf38
  v76 := Try.zeroValue38
  t109 := Try.underlying46
  a109 := Try.isAgg46
  z109 := Try.sizeOf46
  v109 := Try.zeroValue46
  t127 := Try.underlying50
  a127 := Try.isAgg50
  z127 := Try.sizeOf50
  v127 := Try.zeroValue50
  t146 := Try.underlying55
  a146 := Try.isAgg55
  z146 := Try.sizeOf55
  v146 := Try.zeroValue55
  t148 := Try.underlying58
  a148 := Try.isAgg58
  z148 := Try.sizeOf58
  v148 := Try.zeroValue58
  t164 := Try.underlying52
  a164 := Try.isAgg52
  z164 := Try.sizeOf52
  v164 := Try.zeroValue52 }
theorem Try.Builder_Extra_105 : Builder.Extra Try.prog Try.lays105_ren := {
  sizeBuilder := by kernel_rfl
  liesBuilder := by kernel_rfl
  t5 := Try.underlying5
  a5 := Try.isAgg5
  z5 := Try.sizeOf5
  v5 := Try.zeroValue5
  infoByte := by kernel_rfl
  cellsByte := by kernel_rfl
  sizeByte := by kernel_rfl
  neB5 := by decide }
open Go.RowKit Go.Lib in
theorem Try.strings_Repeat (s : ByteArray) (c : Nat) (w : World) (hc : c ≤ 9223372036854775807) (hlen : s.size * c ≤ 140737488355328) :
    Calls Try.prog 16 #[.string s, .int .i64 c] w fun e w' => e = .returned (.string ⟨(Lib.repeatL s.data.toList c).toArray⟩) ∧ Below w.heap.size w w' := Any.strings_Repeat Try.lays105 Try.Builder_Extra_105 s c w hc hlen
end Go.Proofs
