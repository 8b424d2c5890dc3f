import Derived.Test.YbulkskqRows
import Derived.WalkKit
import Derived.LoopTactic
import Derived.WalkSmall
import Derived.Below
import Derived.Deep.QuietTactic
import Derived.BigQuiet
/-! block[int].sizeFor: the current allocation is kept where it is long enough; else a new one, all zero. -/
namespace Go.Proofs.Ybulkskq
open Go.RowKit

theorem info3 : (Yba.prog.info? 3).map (fun i => (i.zero, i.size, i.bytes)) = some (some (.int .i64 0), 1, 8) := by kernel_rfl

/-- A row of the call's own that holds the numbers l. -/
def Row (w : World) (K : Nat) (l : List Int) : Prop := w.heap[K]? = some (.cells (l.map (Value.int .i64)).toArray 3 (0, 0))

theorem Row.cell {w : World} {K : Nat} {l : List Int} (h : Row w K l) {j : Nat} {z : Int} (hj : l[j]? = some z) : w.cell? ⟨K, j, none⟩ = some (.int .i64 z) := by
  rw [cell_of_row w K _ _ _ _ h]
  simp [hj]

theorem Row.frozen {w : World} {K : Nat} {l : List Int} (h : Row w K l) (j : Nat) : w.frozen? ⟨K, j, none⟩ = false := by
  have h' : w.heap[K]? = some (.cells (l.map (Value.int .i64)).toArray 3 (0, 0)) := h
  simp [World.frozen?, h']

theorem heap_set {w1 : World} {K j : Nat} {t : TypeId} {cs : Array Value} (h : w1.heap[K]? = some (.cells cs t (0, 0))) (v : Value) : (w1.setCell ⟨K, j, none⟩ v).heap[K]? = some (.cells (cs.setIfInBounds j v) t (0, 0)) := by
  simp [World.setCell, Array.getElem?_modify, h]

theorem Row.set {w : World} {K : Nat} {l : List Int} (h : Row w K l) (j : Nat) (z : Int) : Row (w.setCell ⟨K, j, none⟩ (.int .i64 z)) K (l.set j z) := by
  have := heap_set (j := j) h (.int .i64 z)
  unfold Row
  rw [this]
  simp [List.map_set]

theorem Row.lt {w : World} {K : Nat} {l : List Int} (h : Row w K l) : K < w.heap.size := by
  rcases Nat.lt_or_ge K w.heap.size with h1 | h1
  · exact h1
  · have h' : w.heap[K]? = some (.cells (l.map (Value.int .i64)).toArray 3 (0, 0)) := h
    rw [Array.getElem?_eq_none h1] at h'; cases h'

theorem Row.below {B : Nat} {w w' : World} {K : Nat} {l : List Int} (h : Row w K l) (hb : Below B w w') (hK : K < B) : Row w' K l := (hb.block K hK).trans h

theorem row_of_full {w : World} {B g n : Nat} {e : TypeId} {xs : List Value} (h : w.ownsRow B e 1 (.slice (some ⟨g, 0, none⟩) n n) n xs) : w.heap[g]? = some (.cells xs.toArray e (0, 0)) := by
  rcases h.2 with ⟨h', _⟩ | ⟨g', cap', cur, h', _, hg, _, _, hs, htake⟩
  · simp at h'
  · simp only [Value.slice.injEq, Option.some.injEq, Addr.mk.injEq, and_true, true_and] at h'
    obtain ⟨rfl, rfl⟩ := h'
    rw [List.take_of_length_le (by simp; omega)] at htake
    rw [hg, ← htake]

theorem row_made {w : World} {B g n : Nat} (h : w.ownsRow B 3 1 (.slice (some ⟨g, 0, none⟩) n n) n (madeCells #[Value.int .i64 0] n).toList) : Row w g (List.replicate n 0) := by
  have := row_of_full h
  rw [toList_madeCells_one] at this
  unfold Row
  rw [this]
  simp

/-- The block's five cells. -/
def Blk (w : World) (R : Nat) (s : Value) (u z b l : Int) : Prop := w.heap[R]? = some (.cells #[s, .int .i64 u, .int .i64 z, .int .i64 b, .int .i64 l] 26 (0, 0))

/-- What sizeFor leaves where it makes a new allocation of m. -/
def Made (w w' : World) (R m : Nat) (u z b l : Int) : Prop := Blk w' R (.slice (some ⟨w.heap.size, 0, none⟩) m m) u z b l ∧ Row w' w.heap.size (List.replicate m 0) ∧ Below R w w'

theorem Blk.lt {w : World} {R : Nat} {s : Value} {u z b l : Int} (h : Blk w R s u z b l) : R < w.heap.size := by
  rcases Nat.lt_or_ge R w.heap.size with h1 | h1
  · exact h1
  · have h' := h; unfold Blk at h'
    rw [Array.getElem?_eq_none h1] at h'; cases h'

set_option maxRecDepth 100000 in
theorem sizeFor_keep (R ln : Nat) (p : Option Addr) (cp : Nat) (n u z b l : Int) (w : World) (hB : Blk w R (.slice p ln cp) u z b l) (hn : (if 1024 < n then 1024 else n) ≤ (ln : Int)) :
    Calls Yba.prog 4 #[.pointer (some ⟨R, 0, none⟩), .int .i64 n] w fun e w' => e = .returned (.tuple #[]) ∧ w' = w := by
  have hc : w.cell? ⟨R, 0, none⟩ = some (.slice p ln cp) := by rw [cell_of_row w R _ _ _ _ hB]; rfl
  by_cases h : 1024 < n
  · rw [if_pos h] at hn
    go_enter Yba.func4, Yba.ntmps4
    go_wp2
    go_end0
    exact ⟨rfl, rfl⟩
  · rw [if_neg h] at hn
    go_enter Yba.func4, Yba.ntmps4
    go_wp2
    go_end0
    exact ⟨rfl, rfl⟩

set_option maxRecDepth 100000 in
theorem sizeFor_new (R ln m : Nat) (p : Option Addr) (cp : Nat) (n u z b l : Int) (w : World) (hB : Blk w R (.slice p ln cp) u z b l) (hm : (if 1024 < n then 1024 else n) = (m : Int)) (hlt : ln < m) (hm2 : m ≤ 1024) :
    Calls Yba.prog 4 #[.pointer (some ⟨R, 0, none⟩), .int .i64 n] w fun e w' => e = .returned (.tuple #[]) ∧ Made w w' R m u z b l := by
  obtain ⟨i0, hi, hz0, hz1, hz2⟩ := info_parts info3
  have hc : w.cell? ⟨R, 0, none⟩ = some (.slice p ln cp) := by rw [cell_of_row w R _ _ _ _ hB]; rfl
  have HB : Hid (Blk w R (.slice p ln cp) u z b l) := hB
  have fin : ∀ w1 : World, w1.ownsRow w.heap.size 3 1 (.slice (some ⟨w.heap.size, 0, none⟩) m m) m (madeCells #[Value.int .i64 0] m).toList → w.grownBy w1 none →
      (w1.cell? ⟨R, 0, none⟩ = some (.slice p ln cp) ∧ w1.frozen? ⟨R, 0, none⟩ = false) ∧ Made w (w1.setCell ⟨R, 0, none⟩ (.slice (some ⟨w.heap.size, 0, none⟩) m m)) R m u z b l := by
    intro w1 own gr
    have hR := HB.out.lt
    have bel : Below w.heap.size w w1 := (Below.refl _ _).grown gr (Nat.le_refl _) (fun k h => by cases h)
    have hB1 : Blk w1 R (.slice p ln cp) u z b l := (bel.block R hR).trans HB.out
    have hrow := row_made own
    refine ⟨⟨(bel.cell hR).trans hc, ?_⟩, heap_set hB1 _, ?_, ?_⟩
    · have h' := hB1; unfold Blk at h'
      simp [World.frozen?, h']
    · unfold Row at hrow ⊢
      rw [← hrow]
      have hne : R ≠ w.heap.size := by omega
      simp [World.setCell, Array.getElem?_modify, hne]
    · exact (bel.mono (Nat.le_of_lt hR)).setCell (Nat.le_refl _) _
  have FIN : Hid _ := fin
  clear hB fin
  by_cases h : 1024 < n
  · rw [if_pos h] at hm
    have HM0 : Hid ((1024 : Int) = (m : Int)) := hm
    clear hm
    go_enter Yba.func4, Yba.ntmps4
    go_wp2_with (at_make; refine wpList_make_full _ rfl _ _ 23 rfl w.heap.size 3 i0 (.int .i64 0) 1 Yba.underlying23 hi hz0 hz1 _ _ _ _ m rfl rfl HM0.out HM0.out (by rw [hz2]; omega) (by unfold maxLen; omega) (Nat.le_refl _) ?_)
    intro w1 own gr
    obtain ⟨⟨hc1, hf1⟩, hM⟩ := FIN.out w1 own gr
    have HM : Hid _ := hM
    clear own gr hM
    go_wp2
    go_end0
    exact ⟨rfl, HM.out⟩
  · rw [if_neg h] at hm
    subst hm
    go_enter Yba.func4, Yba.ntmps4
    go_wp2_with (at_make; refine wpList_make_full _ rfl _ _ 23 rfl w.heap.size 3 i0 (.int .i64 0) 1 Yba.underlying23 hi hz0 hz1 _ _ _ _ m rfl rfl rfl rfl (by rw [hz2]; omega) (by unfold maxLen; omega) (Nat.le_refl _) ?_)
    intro w1 own gr
    obtain ⟨⟨hc1, hf1⟩, hM⟩ := FIN.out w1 own gr
    have HM : Hid _ := hM
    clear own gr hM
    go_wp2
    go_end0
    exact ⟨rfl, HM.out⟩
end Go.Proofs.Ybulkskq
