import Derived.Test.YbulksfuDoorDel
import Derived.Test.YbulksfuDoorParse
/-! LawS0930BRoundTrip. -/
namespace Go.Proofs.YbulksfuDoor
open Go.RowKit

/-- The bytes l behind n cells of an owned row. -/
theorem at_of_owns {w : World} {B g n m cap : Nat} {xs : List Value} {l : List UInt8} (h : w.ownsRow B 5 1 (.slice (some ⟨g, 0, none⟩) m cap) m (xs ++ Lib.byteCells l)) (hx : xs.length = n) : At w g n l := by
  intro j b hj
  have hlt : j < l.length := (List.getElem?_eq_some_iff.1 hj).1
  have hlen : (xs ++ Lib.byteCells l).length = m * 1 := h.1
  rw [h.cellAt (n + j) (by rw [← hlen]; simp [Lib.byteCells]; omega), List.getElem?_append_right (by omega), hx, Nat.add_sub_cancel_left]
  simp [Lib.byteCells, hj]

theorem delCells_eq (a b : Nat) : delCells a b = Lib.byteCells (Lib.beBytes 8 a ++ (Lib.beBytes 8 b ++ [0, 0])) := by
  simp [delCells, beCells, Lib.byteCells]

theorem del_parts (a b : Nat) (ha : a < 18446744073709551616) (hb : b < 18446744073709551616) : let l := Lib.beBytes 8 a ++ (Lib.beBytes 8 b ++ [0, 0])
    l.length = 18 ∧ Lib.beNat (l.take 8) = a ∧ Lib.beNat ((l.drop 8).take 8) = b := by
  intro l
  have e1 := Lib.beBytes_length 8 a
  have e2 := Lib.beBytes_length 8 b
  refine ⟨by simp [l, e1, e2], ?_, ?_⟩
  · rw [List.take_left' e1]; exact Lib.beNat_beBytes 8 a (by simpa using ha)
  · rw [List.drop_left' e1, List.take_left' e2]; exact Lib.beNat_beBytes 8 b (by simpa using hb)

set_option maxHeartbeats 2000000 in
set_option maxRecDepth 100000 in
theorem lawB_short (ao : Option Addr) (len cap : Nat) (xs : List Value) (a b : Nat) (w : World) (hlen : len ≤ 1024) (ha : a < 18446744073709551616) (hb : b < 18446744073709551616)
    (hxl : xs.length = len) (hx8 : Bytes xs) (hnone : ao = none → len = 0 ∧ cap = 0) (hcell : ∀ ad, ao = some ad → ∀ j u, xs[j]? = some u → w.cell? (ad.add j) = some u) (hlt : ∀ ad, ao = some ad → 0 < len → ad.block < w.heap.size) :
    Calls Ybad.prog 4 #[.slice ao len cap, .int .u64 a, .int .u64 b] w fun e w' => e = .returned (.bool true) ∧ Below w.heap.size w w' := by
  have C := clone9 ao len cap xs w hlen hxl hx8 hnone hcell hlt
  clear hcell hnone hlt hx8
  have HX : Hid (xs.length = len) := hxl
  clear hxl
  go_enter Ybad.func4, Ybad.ntmps4
  go_wp2_with fail
  refine C.mono ?_
  rintro e w1 ⟨a1, c1, rfl, own1, N1⟩
  have O1 : Hid (w1.ownsRow w.heap.size 5 1 (.slice a1 len c1) len xs) := own1
  have z1 : w.heap.size ≤ w1.heap.size := N1.size
  clear own1
  go_wp2_with fail
  refine (extras10 w.heap.size len a b ha hb _ xs _ (O1.out.alloc _) (by simp; omega) (by omega)).mono ?_
  rintro e w2 ⟨g2, cap2, rfl, own2, gr2, -⟩
  have N2 : Below w.heap.size w w2 := (N1.alloc (by omega) _).grown gr2 (by simp; omega) (fun k h => (O1.out.lt k h).1)
  have O2 : Hid (w2.ownsRow w.heap.size 5 1 (.slice (some ⟨g2, 0, none⟩) (len + 18) cap2) (len + 18) (xs ++ delCells a b)) := own2
  have z2 : w.heap.size ≤ w2.heap.size := N2.size
  have hcap : len + 18 ≤ cap2 := by
    rcases own2.2 with ⟨h, _⟩ | ⟨g', cap', cur, h, _, _, hle, _⟩
    · cases h
    · simp only [Value.slice.injEq] at h; omega
  clear own2 gr2 O1 N1 z1
  have P := parse11 g2 len (cap2 - len) (Lib.beBytes 8 a ++ (Lib.beBytes 8 b ++ [0, 0])) w2 (by omega) (del_parts a b ha hb).1 (at_of_owns (by rw [← delCells_eq]; exact O2.out) HX.out) (O2.out.lt g2 rfl).2
  rw [(del_parts a b ha hb).2.1, (del_parts a b ha hb).2.2] at P
  clear O2 C
  go_wp2_with fail
  refine P.mono ?_
  rintro e w3 ⟨rfl, n3⟩
  have N3 : Below w.heap.size w w3 := N2.trans (n3.mono z2)
  have z3 : w.heap.size ≤ w3.heap.size := N3.size
  clear P n3 N2 z2
  go_wp2
  go_ret
  exact ⟨rfl, N3.alloc z3 _⟩

set_option maxHeartbeats 1000000 in
theorem lawB_long (ao : Option Addr) (len cap : Nat) (a b : Nat) (w : World) (hlen : 1024 < len) :
    Calls Ybad.prog 4 #[.slice ao len cap, .int .u64 a, .int .u64 b] w fun e w' => e = .returned (.bool true) ∧ Below w.heap.size w w' := by
  have h : (1024 : Int) < (len : Int) := by omega
  go_enter Ybad.func4, Ybad.ntmps4
  go_wp2
  go_ret
  exact ⟨rfl, Below.refl _ _⟩

end Go.Proofs.YbulksfuDoor
