import Derived.Test.YbulksfuDoorRes
import Derived.Test.YbulksfuDoorApp
import Derived.LoopTactic
/-! zzs0930cfit: b's first bytes in a new row of n bytes. -/
namespace Go.Proofs.YbulksfuDoor
open Go.RowKit

/-- A row of the call's own that holds the bytes l. -/
def Holds (w : World) (K : Nat) (l : List UInt8) : Prop := w.heap[K]? = some (.cells (Lib.byteCells l).toArray 5 (0, 0))

theorem Holds.at {w : World} {K : Nat} {l : List UInt8} (h : Holds w K l) : At w K 0 l := fun j b hj => by
  rw [cell_of_row w K _ _ _ _ h]
  simp [Lib.byteCells, hj]

theorem Holds.cell {w : World} {K : Nat} {l : List UInt8} (h : Holds w K l) (j : Nat) (hj : j < l.length) : ∃ v, w.cell? ⟨K, j, none⟩ = some v := by
  refine ⟨.int .u8 (l[j]).toNat, ?_⟩
  have := h.at j l[j] (List.getElem?_eq_getElem hj)
  simpa using this

theorem Holds.frozen {w : World} {K : Nat} {l : List UInt8} (h : Holds w K l) (j : Nat) : w.frozen? ⟨K, j, none⟩ = false := by
  have h' : w.heap[K]? = some (.cells (Lib.byteCells l).toArray 5 (0, 0)) := h
  simp [World.frozen?, h']

theorem Holds.set {w : World} {K : Nat} {l : List UInt8} (h : Holds w K l) (j : Nat) (b : UInt8) : Holds (w.setCell ⟨K, j, none⟩ (.int .u8 b.toNat)) K (l.set j b) := by
  have := heap_set (j := j) h (.int .u8 b.toNat)
  unfold Holds
  rw [this]
  simp [Lib.byteCells, List.map_set]

theorem Holds.below {B : Nat} {w w' : World} {K : Nat} {l : List UInt8} (h : Holds w K l) (hb : Below B w w') (hK : K < B) : Holds w' K l := (hb.block K hK).trans h

theorem Holds.lt {w : World} {K : Nat} {l : List UInt8} (h : Holds w K l) : K < w.heap.size := by
  rcases Nat.lt_or_ge K w.heap.size with h1 | h1
  · exact h1
  · have h' : w.heap[K]? = some (.cells (Lib.byteCells l).toArray 5 (0, 0)) := h
    rw [Array.getElem?_eq_none h1] at h'; cases h'

set_option maxHeartbeats 1000000 in
set_option maxRecDepth 100000 in
theorem fit12 (ao : Option Addr) (len cap n : Nat) (N : Int) (hN : N = n) (hn : n ≤ 64) (lb : List UInt8) (w : World) (hlen : len ≤ 1024) (hll : lb.length = len) (hat : 0 < len → ∃ g o, ao = some ⟨g, o, none⟩ ∧ At w g o lb ∧ g < w.heap.size) :
    Calls Ybad.prog 12 #[.slice ao len cap, .int .i64 N] w fun e w' => ∃ l : List UInt8, l.length = n ∧ e = .returned (.slice (some ⟨w.heap.size, 0, none⟩) n n) ∧ Holds w' w.heap.size l ∧ Below w.heap.size w w' := by
  subst hN
  obtain ⟨i0, hi, hz0, hz1, hz2⟩ := info_parts info5
  have HL : Hid (lb.length = len) := hll
  have HA : Hid (0 < len → ∃ g o, ao = some ⟨g, o, none⟩ ∧ At w g o lb ∧ g < w.heap.size) := hat
  clear hll hat
  go_enter Ybad.func12, Ybad.ntmps12
  go_wp2_with (at_make; refine wpList_make_full _ rfl _ _ 26 rfl w.heap.size 5 i0 (.int .u8 0) 1 Ybad.underlying26 hi hz0 hz1 _ _ _ _ n rfl rfl rfl rfl (by rw [hz2]; omega) (by unfold maxLen; omega) (Nat.le_refl _) ?_)
  intro w1 own1 gr1
  have R1 : Hid (Holds w1 w.heap.size (List.replicate n 0)) := by
    have := row_of_full own1
    rw [toList_madeCells_one] at this
    show w1.heap[w.heap.size]? = _
    rw [this]
    simp [Lib.byteCells]
  have N1 : Below w.heap.size w w1 := (Below.refl _ _).grown gr1 (Nat.le_refl _) (fun k h => by cases h)
  clear own1 gr1
  go_wp2
  go_loopw [6] (fun i wr => ∃ (j : Nat) (l : List UInt8), j ≤ n ∧ j ≤ 1024 ∧ i = .int .i64 j ∧ l.length = n ∧ Holds wr w.heap.size l ∧ Below w.heap.size w wr) (fun i _ => n - (intOf i).toNat)
  case atStart => exact ⟨0, _, Nat.zero_le _, by omega, rfl, List.length_replicate, R1.out, N1⟩
  case round =>
    obtain ⟨j, l, hjn, hj, rfl, hln, hrow, hnx⟩ := hrel
    have HR : Hid (Holds wr w.heap.size l) := hrow
    have HLN : Hid (l.length = n) := hln
    clear hrow hln R1 N1
    by_cases hlt : j < n ∧ j < len
    · obtain ⟨h1, h2⟩ := hlt
      obtain ⟨g, o, hao, hA, hg⟩ := HA.out (by omega)
      subst hao
      obtain ⟨b, hb⟩ : ∃ b, lb[j]? = some b := ⟨_, List.getElem?_eq_getElem (by rw [HL.out]; omega)⟩
      have hcell : wr.cell? ⟨g, o + j, none⟩ = some (.int .u8 b.toNat) := (hnx.cell hg).trans (hA j b hb)
      obtain ⟨v, hv⟩ := HR.out.cell j (by rw [HLN.out]; omega)
      have hf := HR.out.frozen j
      have HA' : Hid _ := hA
      clear hA hb
      go_wp2
      go_roundw
      case rel => exact ⟨j + 1, l.set j b, by omega, by omega, by go_num, by rw [List.length_set]; exact HLN.out, HR.out.set j b, hnx.setCell (Nat.le_refl _) _⟩
      case measure => simp [intOf]; omega
    · go_wp2
      all_goals (go_ret; exact ⟨l, HLN.out, rfl, HR.out, hnx⟩)

end Go.Proofs.YbulksfuDoor
