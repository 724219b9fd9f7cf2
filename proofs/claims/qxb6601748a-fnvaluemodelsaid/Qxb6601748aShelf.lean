/-
  THE SHELF's CONTRACTS AT THIS DUMP, IN PLAIN WORDS, as the kit's lay-shelf.mjs and lay-plain.mjs write them for it: (*strings.Builder).String and strings.ContainsRune at an ASCII rune; the others struck.
-/
import Derived.Shelf.Strings.Builder1
import Derived.Shelf.Strings.Runes
import Derived.Test.Qxb6601748aProg
namespace Go.Proofs
open Go.Shelf
def Try.lays169_ren : Go.Shelf.Ren := ⟨fun | 169 => 30 | n => n, fun | 70 => 56 | 9 => 9 | 0 => 0 | 72 => 58 | 37 => 43 | 127 => 62 | 3 => 3 | 5 => 5 | n => n, fun | n => n⟩
theorem Try.lays169 : Go.Proofs.Lays.n169 Try.prog Try.lays169_ren := {
  mixed := by kernel_rfl
  f169 := Try.func30.trans (congrArg some (by kernel_rfl))
  t0 := Try.underlying0
  a0 := Try.isAgg0
  z0 := Try.sizeOf0
  v0 := Try.zeroValue0
  t3 := Try.underlying3
  a3 := Try.isAgg3
  z3 := Try.sizeOf3
  v3 := Try.zeroValue3
  t9 := Try.underlying9
  a9 := Try.isAgg9
  z9 := Try.sizeOf9
  v9 := Try.zeroValue9
  t37 := Try.underlying43
  a37 := Try.isAgg43
  z37 := Try.sizeOf43
  v37 := Try.zeroValue43
  t70 := Try.underlying56
  a70 := Try.isAgg56
  z70 := Try.sizeOf56
  v70 := Try.zeroValue56
  t72 := Try.underlying58
  a72 := Try.isAgg58
  z72 := Try.sizeOf58
  v72 := Try.zeroValue58
  t127 := Try.underlying62
  a127 := Try.isAgg62
  z127 := Try.sizeOf62
  v127 := Try.zeroValue62 }
theorem Try.Builder_Extra_169 : Builder.Extra Try.prog Try.lays169_ren := {
  sizeBuilder := by kernel_rfl
  liesBuilder := by kernel_rfl
  t5 := Try.underlying5
  a5 := Try.isAgg5
  z5 := Try.sizeOf5
  v5 := Try.zeroValue5
  infoByte := by kernel_rfl
  cellsByte := by kernel_rfl
  sizeByte := by kernel_rfl
  neB5 := by decide }
open Go.RowKit in
theorem Try.Builder_String (B b : Nat) (l : List UInt8) (w : World) (h : Lib.IsBuilder 58 5 B b (Lib.byteCells l) w) (h0 : l ≠ []) :
    Calls Try.prog 30 #[.pointer (some ⟨b, 0, none⟩)] w fun e w' => e = .returned (.string ⟨l.toArray⟩) ∧ Below B w w' := Any.Builder_String Try.lays169 Try.Builder_Extra_169 B b l w h h0
open Go.RowKit in
theorem Try.Builder_String_empty (B b : Nat) (w : World) (h : Lib.IsBuilder 58 5 B b [] w) (hBw : B ≤ w.heap.size) :
    Calls Try.prog 30 #[.pointer (some ⟨b, 0, none⟩)] w fun e w' => e = .returned (.string ⟨#[]⟩) ∧ Below B w w' := Any.Builder_String_empty Try.lays169 Try.Builder_Extra_169 B b w h hBw
open Go.RowKit in
theorem Try.Builder_String_any (B b : Nat) (l : List UInt8) (w : World) (h : Lib.IsBuilder 58 5 B b (Lib.byteCells l) w) (hBw : B ≤ w.heap.size) :
    Calls Try.prog 30 #[.pointer (some ⟨b, 0, none⟩)] w fun e w' => e = .returned (.string ⟨l.toArray⟩) ∧ Below B w w' := Any.Builder_String_any Try.lays169 Try.Builder_Extra_169 B b l w h hBw
def Try.lays151_ren : Go.Shelf.Ren := ⟨fun | 151 => 35 | 152 => 37 | 137 => 38 | 119 => 39 | 224 => 40 | 225 => 41 | 217 => 42 | 266 => 43 | n => n, fun | 9 => 9 | 21 => 21 | 4 => 4 | 3 => 3 | 5 => 5 | 0 => 0 | 46 => 69 | n => n, fun | n => n⟩
theorem Try.lays151 : Go.Proofs.Lays.n151 Try.prog Try.lays151_ren := {
  mixed := by kernel_rfl
  f119 := Try.func39.trans (congrArg some (by kernel_rfl))
  f137 := Try.func38.trans (congrArg some (by kernel_rfl))
  f151 := Try.func35.trans (congrArg some (by kernel_rfl))
  f152 := Try.func37.trans (congrArg some (by kernel_rfl))
  f217 := Try.func42.trans (congrArg some (by kernel_rfl))
  f224 := Try.func40.trans (congrArg some (by kernel_rfl))
  f225 := Try.func41.trans (congrArg some (by kernel_rfl))
  f266 := Try.func43.trans (congrArg some (by kernel_rfl))
  t0 := Try.underlying0
  a0 := Try.isAgg0
  z0 := Try.sizeOf0
  v0 := Try.zeroValue0
  t3 := Try.underlying3
  a3 := Try.isAgg3
  z3 := Try.sizeOf3
  v3 := Try.zeroValue3
  t4 := Try.underlying4
  a4 := Try.isAgg4
  z4 := Try.sizeOf4
  v4 := Try.zeroValue4
  t5 := Try.underlying5
  a5 := Try.isAgg5
  z5 := Try.sizeOf5
  v5 := Try.zeroValue5
  t9 := Try.underlying9
  a9 := Try.isAgg9
  z9 := Try.sizeOf9
  v9 := Try.zeroValue9
  t21 := Try.underlying21
  a21 := Try.isAgg21
  z21 := Try.sizeOf21
  v21 := Try.zeroValue21
  t46 := Try.underlying69
  a46 := Try.isAgg69
  z46 := Try.sizeOf69
  v46 := Try.zeroValue69 }
open Go.RowKit Go.Lib in
theorem Try.strings_ContainsRune_ascii (s : ByteArray) (r : Int) (w : World) (h0 : 0 ≤ r) (h1 : r < 128) :
    Calls Try.prog 35 #[.string s, .int .i32 r] w fun e w' => e = .returned (.bool (decide (0 ≤ Lib.indexByte s.data.toList r.toNat.toUInt8))) ∧ w' = w := Any.strings_ContainsRune_ascii Try.lays151 s r w h0 h1
end Go.Proofs
