/-
  DERIVED: THE SHELF's CONTRACTS AT THIS DUMP, IN PLAIN WORDS (tools/lay-plain.mjs out of 'YbadShelf.lean', which tools/lay-shelf.mjs wrote): THE SAME DECLARATIONS UNDER THE SAME NAMES: 'import', 'namespace', 'open', 'def', 'theorem' AND NOTHING ELSE: no command of the shelf's: FOR A HAND-IN. Each laying: the table of numbers ('.._ren') and one theorem, a field a fact of the dump's own or the kernel's comparison; each contract: ONE APPLICATION.
-/
import Derived.Ground.MnProg
import Derived.Shelf.Bin.BEUint16
import Derived.Shelf.Bin.BEUint32
import Derived.Shelf.Bin.BEUint32Panics
import Derived.Shelf.Bin.ReadersZ
import Derived.Test.YbulkcjvoDoorProg
namespace Go.Proofs
open Go.Shelf
def Ybad.laysBin36_ren : Go.Shelf.Ren := ⟨fun | 36 => 11 | n => n, fun | 37 => 49 | 22 => 22 | 23 => 47 | 0 => 0 | 5 => 5 | 45 => 32 | n => n, fun | n => n⟩
theorem Ybad.laysBin36 : Go.Proofs.LaysBin.n36 Ybad.prog Ybad.laysBin36_ren := {
  mixed := by kernel_rfl
  f36 := Ybad.func11.trans (congrArg some (by kernel_rfl))
  t0 := Ybad.underlying0
  a0 := Ybad.isAgg0
  z0 := Ybad.sizeOf0
  v0 := Ybad.zeroValue0
  i0 := by kernel_rfl
  t5 := Ybad.underlying5
  a5 := Ybad.isAgg5
  z5 := Ybad.sizeOf5
  v5 := Ybad.zeroValue5
  i5 := by kernel_rfl
  t22 := Ybad.underlying22
  a22 := Ybad.isAgg22
  z22 := Ybad.sizeOf22
  v22 := Ybad.zeroValue22
  i22 := by kernel_rfl
  t23 := Ybad.underlying47
  a23 := Ybad.isAgg47
  z23 := Ybad.sizeOf47
  v23 := Ybad.zeroValue47
  i23 := by kernel_rfl
  t37 := Ybad.underlying49
  a37 := Ybad.isAgg49
  z37 := Ybad.sizeOf49
  v37 := Ybad.zeroValue49
  i37 := by kernel_rfl
  t45 := Ybad.underlying32
  a45 := Ybad.isAgg32
  z45 := Ybad.sizeOf32
  v45 := Ybad.zeroValue32
  i45 := by kernel_rfl }
open Go.RowKit in
/-- binary.BigEndian.Uint16: "Uint16 returns the uint16 representation of b[0:2].": THE NUMBER THAT THE FIRST 2 BYTES SPELL, the greatest byte first ('Lib.beNat'). Of what was there nothing has turned (the receiver, an empty struct, is laid in a new block without cells; the statement's order is drawn). (LAID: no walk: one application.) -/
theorem Ybad.binary_BE_Uint16 (g o n c : Nat) (b0 b1 : UInt8) (w : World) (hn : 2 ≤ n) (c0 : w.cell? ⟨g, o, none⟩ = some (.int .u8 b0.toNat)) (c1 : w.cell? ⟨g, o + 1, none⟩ = some (.int .u8 b1.toNat)) :
    Calls Ybad.prog 11 #[.agg #[], .slice (some ⟨g, o, none⟩) n c] w fun e w' => e = .returned (.int .u16 (Lib.beNat [b0, b1])) ∧ Below w.heap.size w w' := Any.binary_BE_Uint16 Ybad.laysBin36 g o n c b0 b1 w hn c0 c1
def Ybad.laysBin39_ren : Go.Shelf.Ren := ⟨fun | 39 => 12 | n => n, fun | 37 => 49 | 22 => 22 | 29 => 29 | 0 => 0 | 5 => 5 | 45 => 32 | n => n, fun | n => n⟩
theorem Ybad.laysBin39 : Go.Proofs.LaysBin.n39 Ybad.prog Ybad.laysBin39_ren := {
  mixed := by kernel_rfl
  f39 := Ybad.func12.trans (congrArg some (by kernel_rfl))
  t0 := Ybad.underlying0
  a0 := Ybad.isAgg0
  z0 := Ybad.sizeOf0
  v0 := Ybad.zeroValue0
  i0 := by kernel_rfl
  t5 := Ybad.underlying5
  a5 := Ybad.isAgg5
  z5 := Ybad.sizeOf5
  v5 := Ybad.zeroValue5
  i5 := by kernel_rfl
  t22 := Ybad.underlying22
  a22 := Ybad.isAgg22
  z22 := Ybad.sizeOf22
  v22 := Ybad.zeroValue22
  i22 := by kernel_rfl
  t29 := Ybad.underlying29
  a29 := Ybad.isAgg29
  z29 := Ybad.sizeOf29
  v29 := Ybad.zeroValue29
  i29 := by kernel_rfl
  t37 := Ybad.underlying49
  a37 := Ybad.isAgg49
  z37 := Ybad.sizeOf49
  v37 := Ybad.zeroValue49
  i37 := by kernel_rfl
  t45 := Ybad.underlying32
  a45 := Ybad.isAgg32
  z45 := Ybad.sizeOf32
  v45 := Ybad.zeroValue32
  i45 := by kernel_rfl }
open Go.RowKit in
/-- binary.BigEndian.Uint32: "Uint32 returns the uint32 representation of b[0:4].": THE NUMBER THAT THE FIRST 4 BYTES SPELL, the greatest byte first ('Lib.beNat'). Of what was there nothing has turned (the receiver, an empty struct, is laid in a new block without cells; the statement's order is drawn). (LAID: no walk: one application.) -/
theorem Ybad.binary_BE_Uint32 (g o n c : Nat) (b0 b1 b2 b3 : UInt8) (w : World) (hn : 4 ≤ n) (c0 : w.cell? ⟨g, o, none⟩ = some (.int .u8 b0.toNat)) (c1 : w.cell? ⟨g, o + 1, none⟩ = some (.int .u8 b1.toNat)) (c2 : w.cell? ⟨g, o + 2, none⟩ = some (.int .u8 b2.toNat)) (c3 : w.cell? ⟨g, o + 3, none⟩ = some (.int .u8 b3.toNat)) :
    Calls Ybad.prog 12 #[.agg #[], .slice (some ⟨g, o, none⟩) n c] w fun e w' => e = .returned (.int .u32 (Lib.beNat [b0, b1, b2, b3])) ∧ Below w.heap.size w w' := Any.binary_BE_Uint32 Ybad.laysBin39 g o n c b0 b1 b2 b3 w hn c0 c1 c2 c3
open Go.RowKit in
/-- binary.BigEndian.Uint32, b SHORTER THAN 4: IT PANICS: Go's 'runtime error: index out of range [3] with length n' ('Lib.boundsPanicked'). THE WORLD: the receiver's new block without cells, and the draw of the panic's flag. (LAID: no walk: one application.) -/
theorem Ybad.binary_BE_Uint32_panics (ao : Option Addr) (n c : Nat) (w : World) (hn : n < 4) (hnil : ao = none → n = 0) :
    Calls Ybad.prog 12 #[.agg #[], .slice ao n c] w fun e w' => Lib.boundsPanicked Ybad.prog 3 n e ∧ w' = (w.alloc (.cells #[] 49)).drew := Any.binary_BE_Uint32_panics Ybad.laysBin39 ao n c w hn hnil
open Go.RowKit in
/-- binary.BigEndian.Uint16, ITS PREMISES 'open_ints'' CONCLUSION TO THE LETTER: a slice at WHATEVER address a, the numbers zs that its cells hold: THE NUMBER THAT THE FIRST 2 SPELL ('Lib.beZ'). (LAID: no walk: one application.) -/
theorem Ybad.binary_BE_Uint16_z (a : Addr) (n c : Nat) (zs : List Int) (w : World) (hn : 2 ≤ n) (hl : 2 ≤ zs.length) (hcell : ∀ i, i < zs.length → w.cell? (a.add i) = some (.int .u8 (zs.getD i 0))) (hw : ∀ z ∈ zs, (Lit.int .u8 z).wf = true) :
    Calls Ybad.prog 11 #[.agg #[], .slice (some a) n c] w fun e w' => e = .returned (.int .u16 (Lib.beZ (zs.take 2))) ∧ Below w.heap.size w w' := Any.binary_BE_Uint16_z Ybad.laysBin36 a n c zs w hn hl hcell hw
open Go.RowKit in
/-- binary.BigEndian.Uint32, ITS PREMISES 'open_ints'' CONCLUSION TO THE LETTER: a slice at WHATEVER address a, the numbers zs that its cells hold: THE NUMBER THAT THE FIRST 4 SPELL ('Lib.beZ'). (LAID: no walk: one application.) -/
theorem Ybad.binary_BE_Uint32_z (a : Addr) (n c : Nat) (zs : List Int) (w : World) (hn : 4 ≤ n) (hl : 4 ≤ zs.length) (hcell : ∀ i, i < zs.length → w.cell? (a.add i) = some (.int .u8 (zs.getD i 0))) (hw : ∀ z ∈ zs, (Lit.int .u8 z).wf = true) :
    Calls Ybad.prog 12 #[.agg #[], .slice (some a) n c] w fun e w' => e = .returned (.int .u32 (Lib.beZ (zs.take 4))) ∧ Below w.heap.size w w' := Any.binary_BE_Uint32_z Ybad.laysBin39 a n c zs w hn hl hcell hw
end Go.Proofs
