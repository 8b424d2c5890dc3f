import Derived.Test.YbulksfuDoorRead
/-! A result of n cells that lies in a block of the call's own while the region's calls run. -/
namespace Go.Proofs.YbulksfuDoor
open Go.RowKit

/-- Nothing that was there has turned; the result's own block, of n cells, lies where it was laid. -/
def Res (n : Nat) (t : TypeId) (w : World) (w' : World) : Prop := Below w.heap.size w w' ∧ ∃ cs : Array Value, cs.size = n ∧ w'.heap[w.heap.size]? = some (.cells cs t (0, 0))

theorem Res.start (n : Nat) (t : TypeId) (w : World) (cs : Array Value) (h : cs.size = n) : Res n t w (w.alloc (.cells cs t)) := ⟨(Below.refl _ _).alloc (Nat.le_refl _) _, cs, h, heap_alloc_new w _⟩

theorem Res.step {n : Nat} {t : TypeId} {w w1 w2 : World} (h : Res n t w w1) (hb : Below w1.heap.size w1 w2) : Res n t w w2 := by
  obtain ⟨h1, cs, hs, h2⟩ := h
  have hK : w.heap.size < w1.heap.size := by
    rcases Nat.lt_or_ge w.heap.size w1.heap.size with h | h
    · exact h
    · rw [Array.getElem?_eq_none h] at h2; cases h2
  exact ⟨h1.trans (hb.mono h1.size), cs, hs, (hb.block _ hK).trans h2⟩

theorem Res.drew {n : Nat} {t : TypeId} {w w1 : World} (h : Res n t w w1) : Res n t w w1.drew := ⟨h.1.drew, h.2⟩
theorem Res.out {n : Nat} {t : TypeId} {w w1 : World} (h : Res n t w w1) : Below w.heap.size w w1 := h.1

/-- What a cell holds. -/
def valAt (w : World) (K j : Nat) : Value := (w.cell? ⟨K, j, none⟩).getD (.bool false)

theorem Res.cell {n : Nat} {t : TypeId} {w w1 : World} (h : Res n t w w1) (j : Nat) (hj : j < n) : w1.cell? ⟨w.heap.size, j, none⟩ = some (valAt w1 w.heap.size j) := by
  obtain ⟨_, cs, hs, h2⟩ := h
  have e := cell_of_row w1 w.heap.size j _ _ _ h2
  unfold valAt
  rw [e, Array.getElem?_eq_getElem (by omega)]
  rfl

theorem Res.frozen {n : Nat} {t : TypeId} {w w1 : World} (h : Res n t w w1) (j : Nat) : w1.frozen? ⟨w.heap.size, j, none⟩ = false := by
  obtain ⟨_, cs, hs, h2⟩ := h
  simp [World.frozen?, h2]

theorem heap_set {w1 : World} {K j : Nat} {t : TypeId} {cs : Array Value} (h : w1.heap[K]? = some (.cells cs t (0, 0))) (v : Value) : (w1.setCell ⟨K, j, none⟩ v).heap[K]? = some (.cells (cs.setIfInBounds j v) t (0, 0)) := by
  simp [World.setCell, Array.getElem?_modify, h]

theorem Res.set {n : Nat} {t : TypeId} {w w1 : World} (h : Res n t w w1) (j : Nat) (v : Value) : Res n t w (w1.setCell ⟨w.heap.size, j, none⟩ v) := by
  obtain ⟨h1, cs, hs, h2⟩ := h
  exact ⟨h1.setCell (Nat.le_refl _) v, _, by simpa using hs, heap_set h2 v⟩

theorem Res.two {t : TypeId} {w w1 : World} (h : Res 2 t w w1) (a b : Value) : let W := (w1.setCell ⟨w.heap.size, 0, none⟩ a).setCell ⟨w.heap.size, 1, none⟩ b
    W.cell? ⟨w.heap.size, 0, none⟩ = some a ∧ W.cell? ⟨w.heap.size, 1, none⟩ = some b ∧ Below w.heap.size w W := by
  obtain ⟨h1, ⟨l⟩, hs, h2⟩ := h
  intro W
  match l, hs with
  | [c0, c1], _ =>
    have e : W.heap[w.heap.size]? = some (.cells #[a, b] t (0, 0)) := heap_set (heap_set h2 a) b
    exact ⟨by rw [cell_of_row W _ _ _ _ _ e]; rfl, by rw [cell_of_row W _ _ _ _ _ e]; rfl, (h1.setCell (Nat.le_refl _) a).setCell (Nat.le_refl _) b⟩

theorem Res.three {t : TypeId} {w w1 : World} (h : Res 3 t w w1) (a b c : Value) : let W := ((w1.setCell ⟨w.heap.size, 0, none⟩ a).setCell ⟨w.heap.size, 1, none⟩ b).setCell ⟨w.heap.size, 2, none⟩ c
    W.cell? ⟨w.heap.size, 0, none⟩ = some a ∧ W.cell? ⟨w.heap.size, 1, none⟩ = some b ∧ W.cell? ⟨w.heap.size, 2, none⟩ = some c ∧ Below w.heap.size w W := by
  obtain ⟨h1, ⟨l⟩, hs, h2⟩ := h
  intro W
  match l, hs with
  | [c0, c1, c2], _ =>
    have e : W.heap[w.heap.size]? = some (.cells #[a, b, c] t (0, 0)) := heap_set (heap_set (heap_set h2 a) b) c
    exact ⟨by rw [cell_of_row W _ _ _ _ _ e]; rfl, by rw [cell_of_row W _ _ _ _ _ e]; rfl, by rw [cell_of_row W _ _ _ _ _ e]; rfl, ((h1.setCell (Nat.le_refl _) a).setCell (Nat.le_refl _) b).setCell (Nat.le_refl _) c⟩

theorem Res.five {t : TypeId} {w w1 : World} (h : Res 5 t w w1) (a b c d f : Value) : let W := ((((w1.setCell ⟨w.heap.size, 0, none⟩ a).setCell ⟨w.heap.size, 1, none⟩ b).setCell ⟨w.heap.size, 2, none⟩ c).setCell ⟨w.heap.size, 3, none⟩ d).setCell ⟨w.heap.size, 4, none⟩ f
    W.cell? ⟨w.heap.size, 0, none⟩ = some a ∧ W.cell? ⟨w.heap.size, 1, none⟩ = some b ∧ W.cell? ⟨w.heap.size, 2, none⟩ = some c ∧ W.cell? ⟨w.heap.size, 3, none⟩ = some d ∧ W.cell? ⟨w.heap.size, 4, none⟩ = some f ∧ Below w.heap.size w W := by
  obtain ⟨h1, ⟨l⟩, hs, h2⟩ := h
  intro W
  match l, hs with
  | [c0, c1, c2, c3, c4], _ =>
    have e : W.heap[w.heap.size]? = some (.cells #[a, b, c, d, f] t (0, 0)) := heap_set (heap_set (heap_set (heap_set (heap_set h2 a) b) c) d) f
    exact ⟨by rw [cell_of_row W _ _ _ _ _ e]; rfl, by rw [cell_of_row W _ _ _ _ _ e]; rfl, by rw [cell_of_row W _ _ _ _ _ e]; rfl, by rw [cell_of_row W _ _ _ _ _ e]; rfl, by rw [cell_of_row W _ _ _ _ _ e]; rfl, ((((h1.setCell (Nat.le_refl _) a).setCell (Nat.le_refl _) b).setCell (Nat.le_refl _) c).setCell (Nat.le_refl _) d).setCell (Nat.le_refl _) f⟩

end Go.Proofs.YbulksfuDoor
