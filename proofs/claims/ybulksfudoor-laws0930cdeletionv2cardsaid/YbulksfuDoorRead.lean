import Derived.Test.YbulksfuDoorShelf
import Derived.Test.YbulksfuDoorParts
import Derived.KernelRfl
import Derived.WalkKit
import Derived.WalkSpells
import Derived.Deep.RegionHeld3
import Derived.RegionTactic
/-! The readers at a row of bytes; ParseExpiration. -/
namespace Go.Proofs.YbulksfuDoor
open Go.RowKit

/-- The bytes l lie in block g from offset o on. -/
def At (w : World) (g o : Nat) (l : List UInt8) : Prop := ∀ j b, l[j]? = some b → w.cell? ⟨g, o + j, none⟩ = some (.int .u8 b.toNat)

theorem At.below {B : Nat} {w w' : World} {g o : Nat} {l : List UInt8} (h : At w g o l) (hb : Below B w w') (hg : g < B) : At w' g o l := fun j b hj => (hb.cell (p := ⟨g, o + j, none⟩) hg).trans (h j b hj)

theorem At.drop {w : World} {g o : Nat} {l : List UInt8} (h : At w g o l) (k : Nat) : At w g (o + k) (l.drop k) := fun j b hj => by
  rw [List.getElem?_drop] at hj
  have := h (k + j) b hj
  rwa [← Nat.add_assoc] at this

theorem take8 (l : List UInt8) (h : 8 ≤ l.length) : ∃ b0 b1 b2 b3 b4 b5 b6 b7 r, l = b0 :: b1 :: b2 :: b3 :: b4 :: b5 :: b6 :: b7 :: r := by
  match l, h with
  | b0 :: b1 :: b2 :: b3 :: b4 :: b5 :: b6 :: b7 :: r, _ => exact ⟨b0, b1, b2, b3, b4, b5, b6, b7, r, rfl⟩
theorem take4 (l : List UInt8) (h : 4 ≤ l.length) : ∃ b0 b1 b2 b3 r, l = b0 :: b1 :: b2 :: b3 :: r := by
  match l, h with
  | b0 :: b1 :: b2 :: b3 :: r, _ => exact ⟨b0, b1, b2, b3, r, rfl⟩

theorem u64 (g o n c : Nat) (l : List UInt8) (w : World) (hn : 8 ≤ n) (hl : 8 ≤ l.length) (h : At w g o l) :
    Calls Ybad.prog 18 #[.agg #[], .slice (some ⟨g, o, none⟩) n c] w fun e w' => e = .returned (.int .u64 (Lib.beNat (l.take 8) : Nat)) ∧ Below w.heap.size w w' := by
  obtain ⟨b0, b1, b2, b3, b4, b5, b6, b7, r, rfl⟩ := take8 l hl
  exact Ybad.binary_BE_Uint64 g o n c b0 b1 b2 b3 b4 b5 b6 b7 w hn (h 0 b0 rfl) (h 1 b1 rfl) (h 2 b2 rfl) (h 3 b3 rfl) (h 4 b4 rfl) (h 5 b5 rfl) (h 6 b6 rfl) (h 7 b7 rfl)
theorem u32 (g o n c : Nat) (l : List UInt8) (w : World) (hn : 4 ≤ n) (hl : 4 ≤ l.length) (h : At w g o l) :
    Calls Ybad.prog 19 #[.agg #[], .slice (some ⟨g, o, none⟩) n c] w fun e w' => e = .returned (.int .u32 (Lib.beNat (l.take 4) : Nat)) ∧ Below w.heap.size w w' := by
  obtain ⟨b0, b1, b2, b3, r, rfl⟩ := take4 l hl
  exact Ybad.binary_BE_Uint32 g o n c b0 b1 b2 b3 w hn (h 0 b0 rfl) (h 1 b1 rfl) (h 2 b2 rfl) (h 3 b3 rfl)

end Go.Proofs.YbulksfuDoor
