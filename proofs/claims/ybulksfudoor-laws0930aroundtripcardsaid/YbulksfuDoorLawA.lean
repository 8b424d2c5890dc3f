import Derived.Test.YbulksfuDoorExtras
import Derived.Test.YbulksfuDoorParse
/-! LawS0930ARoundTrip. -/
namespace Go.Proofs.YbulksfuDoor
open Go.RowKit

/-- The bytes l behind n cells of an owned row. -/
theorem at_of_owned {w : World} {B g n m cap : Nat} {xs : List Value} {l : List UInt8} (h : w.ownsRow B 5 1 (.slice (some ⟨g, 0, none⟩) m cap) m (xs ++ Lib.byteCells l)) (hx : xs.length = n) : At w g n l := by
  intro j b hj
  have hlt : j < l.length := (List.getElem?_eq_some_iff.1 hj).1
  have hlen : (xs ++ Lib.byteCells l).length = m * 1 := h.1
  rw [h.cellAt (n + j) (by rw [← hlen]; simp [Lib.byteCells]; omega), List.getElem?_append_right (by omega), hx, Nat.add_sub_cancel_left]
  simp [Lib.byteCells, hj]

def mutBytes (a b c d f : Nat) : List UInt8 := Lib.beBytes 8 a ++ (Lib.beBytes 8 b ++ (Lib.beBytes 4 c ++ (Lib.beBytes 4 d ++ (Lib.beBytes 4 f ++ [0, 0, 0]))))

theorem mutCells_eq (a b c d f : Nat) : mutCells a b c d f = Lib.byteCells (mutBytes a b c d f) := by
  simp [mutCells, mutBytes, beCells, Lib.byteCells]

theorem mut_parts (a b c d f : Nat) (ha : a < 18446744073709551616) (hb : b < 18446744073709551616) (hc : c < 4294967296) (hd : d < 4294967296) (hf : f < 4294967296) : let l := mutBytes a b c d f
    l.length = 31 ∧ Lib.beNat (l.take 8) = a ∧ Lib.beNat ((l.drop 8).take 8) = b ∧ Lib.beNat ((l.drop 16).take 4) = c ∧ Lib.beNat ((l.drop 20).take 4) = d ∧ Lib.beNat ((l.drop 24).take 4) = f := by
  intro l
  have e1 := Lib.beBytes_length 8 a
  have e2 := Lib.beBytes_length 8 b
  have e3 := Lib.beBytes_length 4 c
  have e4 := Lib.beBytes_length 4 d
  have e5 := Lib.beBytes_length 4 f
  have s8 : l.drop 8 = Lib.beBytes 8 b ++ (Lib.beBytes 4 c ++ (Lib.beBytes 4 d ++ (Lib.beBytes 4 f ++ [0, 0, 0]))) := List.drop_left' e1
  have s16 : l.drop 16 = Lib.beBytes 4 c ++ (Lib.beBytes 4 d ++ (Lib.beBytes 4 f ++ [0, 0, 0])) := by
    rw [show (16 : Nat) = 8 + 8 from rfl, ← List.drop_drop, s8]; exact List.drop_left' e2
  have s20 : l.drop 20 = Lib.beBytes 4 d ++ (Lib.beBytes 4 f ++ [0, 0, 0]) := by
    rw [show (20 : Nat) = 16 + 4 from rfl, ← List.drop_drop, s16]; exact List.drop_left' e3
  have s24 : l.drop 24 = Lib.beBytes 4 f ++ [0, 0, 0] := by
    rw [show (24 : Nat) = 20 + 4 from rfl, ← List.drop_drop, s20]; exact List.drop_left' e4
  refine ⟨by simp [l, mutBytes, e1, e2, e3, e4, e5], ?_, ?_, ?_, ?_, ?_⟩
  · rw [show l.take 8 = Lib.beBytes 8 a from List.take_left' e1]; exact Lib.beNat_beBytes 8 a (by simpa using ha)
  · rw [s8, List.take_left' e2]; exact Lib.beNat_beBytes 8 b (by simpa using hb)
  · rw [s16, List.take_left' e3]; exact Lib.beNat_beBytes 4 c (by simpa using hc)
  · rw [s20, List.take_left' e4]; exact Lib.beNat_beBytes 4 d (by simpa using hd)
  · rw [s24, List.take_left' e5]; exact Lib.beNat_beBytes 4 f (by simpa using hf)

set_option maxHeartbeats 2000000 in
set_option maxRecDepth 100000 in
theorem lawA (a b c d f : Nat) (w : World) (ha : a < 18446744073709551616) (hb : b < 18446744073709551616) (hc : c < 4294967296) (hd : d < 4294967296) (hf : f < 4294967296) :
    Calls Ybad.prog 3 #[.int .u64 a, .int .u64 b, .int .u32 c, .int .u32 d, .int .u32 f] w fun e w' => e = .returned (.bool true) ∧ Below w.heap.size w w' := by
  have E := extras5 w.heap.size 0 a b c d f ha hb hc hd hf (.slice none 0 0) [] (w.alloc (.cells #[.int .u64 a, .int .u64 b, .int .u32 c, .int .u32 d, .int .u32 f] 25)) (World.ownsRow_nil _ _ _ _) (by simp) (by omega)
  simp only [Nat.zero_add, List.nil_append] at E
  go_enter Ybad.func3, Ybad.ntmps3
  go_wp2_with fail
  refine E.mono ?_
  clear E
  rintro e w1 ⟨g, cap, rfl, own1, gr1, -⟩
  have z1 : w.heap.size < w1.heap.size := by have := gr1.size; simp at this; omega
  have N1 : Below w.heap.size w w1 := ((Below.refl _ _).alloc (Nat.le_refl _) _).grown gr1 (by simp) (fun k h => by cases h)
  have B1 : w1.heap[w.heap.size]? = some (.cells #[.int .u64 a, .int .u64 b, .int .u32 c, .int .u32 d, .int .u32 f] 25 (0, 0)) := (gr1.block _ (by simp) (by simp [Value.ownBlock])).trans (heap_alloc_new w _)
  have hcap : 31 ≤ cap := by
    rcases own1.2 with ⟨h, _⟩ | ⟨g', cap', cur, h, _, _, hle, _⟩
    · cases h
    · simp only [Value.slice.injEq] at h; omega
  have P := parse8 g 0 cap (mutBytes a b c d f) w1 hcap (mut_parts a b c d f ha hb hc hd hf).1 (at_of_owned (xs := []) (by rw [List.nil_append, ← mutCells_eq]; exact own1) rfl) (own1.lt g rfl).2
  obtain ⟨-, p1, p2, p3, p4, p5⟩ := mut_parts a b c d f ha hb hc hd hf
  rw [p1, p2, p3, p4, p5] at P
  have B1' : Hid _ := B1
  clear own1 gr1 p1 p2 p3 p4 p5 B1
  go_wp2_with fail
  refine P.mono ?_
  clear P
  rintro e w2 ⟨rfl, n2⟩
  have N2 : Below w.heap.size w w2 := N1.trans (n2.mono N1.size)
  have z2 : w.heap.size < w2.heap.size := by have := n2.size; omega
  obtain ⟨k0, k1, k2, k3, k4⟩ := box_cells ((n2.block _ z1).trans B1'.out)
  clear n2 N1 B1'
  go_wp2
  go_ret
  exact ⟨rfl, N2.alloc (by omega) _⟩

end Go.Proofs.YbulksfuDoor
