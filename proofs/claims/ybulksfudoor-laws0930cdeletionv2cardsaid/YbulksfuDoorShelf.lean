/-
  DERIVED: THE SHELF's CONTRACTS AT THIS DUMP, IN PLAIN WORDS (tools/lay-plain.mjs out of 'YbadShelf.lean', which tools/lay-shelf.mjs wrote): THE SAME DECLARATIONS UNDER THE SAME NAMES: 'import', 'namespace', 'open', 'def', 'theorem' AND NOTHING ELSE: no command of the shelf's: FOR A HAND-IN. Each laying: the table of numbers ('.._ren') and one theorem, a field a fact of the dump's own or the kernel's comparison; each contract: ONE APPLICATION.
-/
import Derived.Ground.MnProg
import Derived.Shelf.Bin.BEUint32
import Derived.Shelf.Bin.BEAppendUint32
import Derived.Shelf.Bin.BEUint64
import Derived.Shelf.Bin.BEAppendUint64
import Derived.Shelf.Bin.ReadersZ
import Derived.Test.YbulksfuDoorProg
namespace Go.Proofs
open Go.Shelf
def Ybad.laysBin39_ren : Go.Shelf.Ren := ⟨fun | 39 => 19 | n => n, fun | 37 => 50 | 22 => 26 | 29 => 23 | 0 => 0 | 5 => 5 | 45 => 55 | n => n, fun | n => n⟩
theorem Ybad.laysBin39 : Go.Proofs.LaysBin.n39 Ybad.prog Ybad.laysBin39_ren := {
  mixed := by kernel_rfl
  f39 := Ybad.func19.trans (congrArg some (by kernel_rfl))
  t0 := Ybad.underlying0
  a0 := Ybad.isAgg0
  z0 := Ybad.sizeOf0
  v0 := Ybad.zeroValue0
  i0 := by kernel_rfl
  t5 := Ybad.underlying5
  a5 := Ybad.isAgg5
  z5 := Ybad.sizeOf5
  v5 := Ybad.zeroValue5
  i5 := by kernel_rfl
  t22 := Ybad.underlying26
  a22 := Ybad.isAgg26
  z22 := Ybad.sizeOf26
  v22 := Ybad.zeroValue26
  i22 := by kernel_rfl
  t29 := Ybad.underlying23
  a29 := Ybad.isAgg23
  z29 := Ybad.sizeOf23
  v29 := Ybad.zeroValue23
  i29 := by kernel_rfl
  t37 := Ybad.underlying50
  a37 := Ybad.isAgg50
  z37 := Ybad.sizeOf50
  v37 := Ybad.zeroValue50
  i37 := by kernel_rfl
  t45 := Ybad.underlying55
  a45 := Ybad.isAgg55
  z45 := Ybad.sizeOf55
  v45 := Ybad.zeroValue55
  i45 := by kernel_rfl }
open Go.RowKit in
/-- binary.BigEndian.Uint32: "Uint32 returns the uint32 representation of b[0:4].": THE NUMBER THAT THE FIRST 4 BYTES SPELL, the greatest byte first ('Lib.beNat'). Of what was there nothing has turned (the receiver, an empty struct, is laid in a new block without cells; the statement's order is drawn). (LAID: no walk: one application.) -/
theorem Ybad.binary_BE_Uint32 (g o n c : Nat) (b0 b1 b2 b3 : UInt8) (w : World) (hn : 4 ≤ n) (c0 : w.cell? ⟨g, o, none⟩ = some (.int .u8 b0.toNat)) (c1 : w.cell? ⟨g, o + 1, none⟩ = some (.int .u8 b1.toNat)) (c2 : w.cell? ⟨g, o + 2, none⟩ = some (.int .u8 b2.toNat)) (c3 : w.cell? ⟨g, o + 3, none⟩ = some (.int .u8 b3.toNat)) :
    Calls Ybad.prog 19 #[.agg #[], .slice (some ⟨g, o, none⟩) n c] w fun e w' => e = .returned (.int .u32 (Lib.beNat [b0, b1, b2, b3])) ∧ Below w.heap.size w w' := Any.binary_BE_Uint32 Ybad.laysBin39 g o n c b0 b1 b2 b3 w hn c0 c1 c2 c3
def Ybad.laysBin41_ren : Go.Shelf.Ren := ⟨fun | 41 => 17 | n => n, fun | 37 => 50 | 22 => 26 | 29 => 23 | 0 => 0 | 45 => 55 | 5 => 5 | n => n, fun | n => n⟩
theorem Ybad.laysBin41 : Go.Proofs.LaysBin.n41 Ybad.prog Ybad.laysBin41_ren := {
  mixed := by kernel_rfl
  f41 := Ybad.func17.trans (congrArg some (by kernel_rfl))
  t0 := Ybad.underlying0
  a0 := Ybad.isAgg0
  z0 := Ybad.sizeOf0
  v0 := Ybad.zeroValue0
  i0 := by kernel_rfl
  t5 := Ybad.underlying5
  a5 := Ybad.isAgg5
  z5 := Ybad.sizeOf5
  v5 := Ybad.zeroValue5
  i5 := by kernel_rfl
  t22 := Ybad.underlying26
  a22 := Ybad.isAgg26
  z22 := Ybad.sizeOf26
  v22 := Ybad.zeroValue26
  i22 := by kernel_rfl
  t29 := Ybad.underlying23
  a29 := Ybad.isAgg23
  z29 := Ybad.sizeOf23
  v29 := Ybad.zeroValue23
  i29 := by kernel_rfl
  t37 := Ybad.underlying50
  a37 := Ybad.isAgg50
  z37 := Ybad.sizeOf50
  v37 := Ybad.zeroValue50
  i37 := by kernel_rfl
  t45 := Ybad.underlying55
  a45 := Ybad.isAgg55
  z45 := Ybad.sizeOf55
  v45 := Ybad.zeroValue55
  i45 := by kernel_rfl }
open Go.RowKit in
/-- binary.BigEndian.AppendUint32: "AppendUint32 appends the bytes of v to b and returns the appended slice.": WHAT COMES BACK OWNS b's CELLS AND, BEHIND THEM, v's 4 BYTES, the greatest first ('Lib.beBytes 4 v'). Below the call's own blocks nothing has turned. (LAID: no walk: one application.) -/
theorem Ybad.binary_BE_AppendUint32 (B n v : Nat) (hv : v < 4294967296) (sv : Value) (xs : List Value) (w : World) (hown : w.ownsRow B 5 1 sv n xs) (hBw : B ≤ w.heap.size) (hlim : n + 4 ≤ 140737488355328) :
    Calls Ybad.prog 17 #[.agg #[], sv, .int .u32 v] w fun e w' => ∃ v', e = .returned v' ∧ w'.ownsRow B 5 1 v' (n + 4) (xs ++ Lib.byteCells (Lib.beBytes 4 v)) ∧ Below B w w' := Any.binary_BE_AppendUint32 Ybad.laysBin41 B n v hv sv xs w hown hBw hlim
def Ybad.laysBin42_ren : Go.Shelf.Ren := ⟨fun | 42 => 18 | n => n, fun | 37 => 50 | 22 => 26 | 33 => 22 | 0 => 0 | 5 => 5 | 45 => 55 | n => n, fun | n => n⟩
theorem Ybad.laysBin42 : Go.Proofs.LaysBin.n42 Ybad.prog Ybad.laysBin42_ren := {
  mixed := by kernel_rfl
  f42 := Ybad.func18.trans (congrArg some (by kernel_rfl))
  t0 := Ybad.underlying0
  a0 := Ybad.isAgg0
  z0 := Ybad.sizeOf0
  v0 := Ybad.zeroValue0
  i0 := by kernel_rfl
  t5 := Ybad.underlying5
  a5 := Ybad.isAgg5
  z5 := Ybad.sizeOf5
  v5 := Ybad.zeroValue5
  i5 := by kernel_rfl
  t22 := Ybad.underlying26
  a22 := Ybad.isAgg26
  z22 := Ybad.sizeOf26
  v22 := Ybad.zeroValue26
  i22 := by kernel_rfl
  t33 := Ybad.underlying22
  a33 := Ybad.isAgg22
  z33 := Ybad.sizeOf22
  v33 := Ybad.zeroValue22
  i33 := by kernel_rfl
  t37 := Ybad.underlying50
  a37 := Ybad.isAgg50
  z37 := Ybad.sizeOf50
  v37 := Ybad.zeroValue50
  i37 := by kernel_rfl
  t45 := Ybad.underlying55
  a45 := Ybad.isAgg55
  z45 := Ybad.sizeOf55
  v45 := Ybad.zeroValue55
  i45 := by kernel_rfl }
open Go.RowKit in
/-- binary.BigEndian.Uint64: "Uint64 returns the uint64 representation of b[0:8].": THE NUMBER THAT THE FIRST 8 BYTES SPELL, the greatest byte first ('Lib.beNat'). Of what was there nothing has turned (the receiver, an empty struct, is laid in a new block without cells; the statement's order is drawn). (LAID: no walk: one application.) -/
theorem Ybad.binary_BE_Uint64 (g o n c : Nat) (b0 b1 b2 b3 b4 b5 b6 b7 : UInt8) (w : World) (hn : 8 ≤ n) (c0 : w.cell? ⟨g, o, none⟩ = some (.int .u8 b0.toNat)) (c1 : w.cell? ⟨g, o + 1, none⟩ = some (.int .u8 b1.toNat)) (c2 : w.cell? ⟨g, o + 2, none⟩ = some (.int .u8 b2.toNat)) (c3 : w.cell? ⟨g, o + 3, none⟩ = some (.int .u8 b3.toNat)) (c4 : w.cell? ⟨g, o + 4, none⟩ = some (.int .u8 b4.toNat)) (c5 : w.cell? ⟨g, o + 5, none⟩ = some (.int .u8 b5.toNat)) (c6 : w.cell? ⟨g, o + 6, none⟩ = some (.int .u8 b6.toNat)) (c7 : w.cell? ⟨g, o + 7, none⟩ = some (.int .u8 b7.toNat)) :
    Calls Ybad.prog 18 #[.agg #[], .slice (some ⟨g, o, none⟩) n c] w fun e w' => e = .returned (.int .u64 (Lib.beNat [b0, b1, b2, b3, b4, b5, b6, b7])) ∧ Below w.heap.size w w' := Any.binary_BE_Uint64 Ybad.laysBin42 g o n c b0 b1 b2 b3 b4 b5 b6 b7 w hn c0 c1 c2 c3 c4 c5 c6 c7
def Ybad.laysBin44_ren : Go.Shelf.Ren := ⟨fun | 44 => 16 | n => n, fun | 37 => 50 | 22 => 26 | 33 => 22 | 0 => 0 | 45 => 55 | 5 => 5 | n => n, fun | n => n⟩
theorem Ybad.laysBin44 : Go.Proofs.LaysBin.n44 Ybad.prog Ybad.laysBin44_ren := {
  mixed := by kernel_rfl
  f44 := Ybad.func16.trans (congrArg some (by kernel_rfl))
  t0 := Ybad.underlying0
  a0 := Ybad.isAgg0
  z0 := Ybad.sizeOf0
  v0 := Ybad.zeroValue0
  i0 := by kernel_rfl
  t5 := Ybad.underlying5
  a5 := Ybad.isAgg5
  z5 := Ybad.sizeOf5
  v5 := Ybad.zeroValue5
  i5 := by kernel_rfl
  t22 := Ybad.underlying26
  a22 := Ybad.isAgg26
  z22 := Ybad.sizeOf26
  v22 := Ybad.zeroValue26
  i22 := by kernel_rfl
  t33 := Ybad.underlying22
  a33 := Ybad.isAgg22
  z33 := Ybad.sizeOf22
  v33 := Ybad.zeroValue22
  i33 := by kernel_rfl
  t37 := Ybad.underlying50
  a37 := Ybad.isAgg50
  z37 := Ybad.sizeOf50
  v37 := Ybad.zeroValue50
  i37 := by kernel_rfl
  t45 := Ybad.underlying55
  a45 := Ybad.isAgg55
  z45 := Ybad.sizeOf55
  v45 := Ybad.zeroValue55
  i45 := by kernel_rfl }
open Go.RowKit in
/-- binary.BigEndian.AppendUint64: "AppendUint64 appends the bytes of v to b and returns the appended slice.": WHAT COMES BACK OWNS b's CELLS AND, BEHIND THEM, v's 8 BYTES, the greatest first ('Lib.beBytes 8 v'). Below the call's own blocks nothing has turned. (LAID: no walk: one application.) -/
theorem Ybad.binary_BE_AppendUint64 (B n v : Nat) (hv : v < 18446744073709551616) (sv : Value) (xs : List Value) (w : World) (hown : w.ownsRow B 5 1 sv n xs) (hBw : B ≤ w.heap.size) (hlim : n + 8 ≤ 140737488355328) :
    Calls Ybad.prog 16 #[.agg #[], sv, .int .u64 v] w fun e w' => ∃ v', e = .returned v' ∧ w'.ownsRow B 5 1 v' (n + 8) (xs ++ Lib.byteCells (Lib.beBytes 8 v)) ∧ Below B w w' := Any.binary_BE_AppendUint64 Ybad.laysBin44 B n v hv sv xs w hown hBw hlim
open Go.RowKit in
/-- binary.BigEndian.Uint32, ITS PREMISES 'open_ints'' CONCLUSION TO THE LETTER: a slice at WHATEVER address a, the numbers zs that its cells hold: THE NUMBER THAT THE FIRST 4 SPELL ('Lib.beZ'). (LAID: no walk: one application.) -/
theorem Ybad.binary_BE_Uint32_z (a : Addr) (n c : Nat) (zs : List Int) (w : World) (hn : 4 ≤ n) (hl : 4 ≤ zs.length) (hcell : ∀ i, i < zs.length → w.cell? (a.add i) = some (.int .u8 (zs.getD i 0))) (hw : ∀ z ∈ zs, (Lit.int .u8 z).wf = true) :
    Calls Ybad.prog 19 #[.agg #[], .slice (some a) n c] w fun e w' => e = .returned (.int .u32 (Lib.beZ (zs.take 4))) ∧ Below w.heap.size w w' := Any.binary_BE_Uint32_z Ybad.laysBin39 a n c zs w hn hl hcell hw
open Go.RowKit in
/-- binary.BigEndian.Uint64, ITS PREMISES 'open_ints'' CONCLUSION TO THE LETTER: a slice at WHATEVER address a, the numbers zs that its cells hold: THE NUMBER THAT THE FIRST 8 SPELL ('Lib.beZ'). (LAID: no walk: one application.) -/
theorem Ybad.binary_BE_Uint64_z (a : Addr) (n c : Nat) (zs : List Int) (w : World) (hn : 8 ≤ n) (hl : 8 ≤ zs.length) (hcell : ∀ i, i < zs.length → w.cell? (a.add i) = some (.int .u8 (zs.getD i 0))) (hw : ∀ z ∈ zs, (Lit.int .u8 z).wf = true) :
    Calls Ybad.prog 18 #[.agg #[], .slice (some a) n c] w fun e w' => e = .returned (.int .u64 (Lib.beZ (zs.take 8))) ∧ Below w.heap.size w w' := Any.binary_BE_Uint64_z Ybad.laysBin42 a n c zs w hn hl hcell hw
end Go.Proofs
