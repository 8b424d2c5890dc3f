import Derived.Test.YbulksgiRows
import Derived.WalkKit
import Derived.LoopTactic
import Derived.WalkSmall
import Derived.Below
import Derived.Deep.WholeRow
import Derived.Laws.CopyRow
import Derived.Laws.CopyOwn
import Derived.Deep.MidRow
import Derived.Shelf.SlicesQ.Load
/-! zzs0931ckey: two numbers as sixteen bytes, the least byte first. -/
namespace Go.Proofs.Ybulksgi
open Go.RowKit

def by8 (v j : Nat) : Value := .int .u8 ((v / 256 ^ j % 256 : Nat) : Int)
def kb (F G : Nat) : List Value := (List.range 8).map (by8 F) ++ (List.range 8).map (by8 G)
theorem kb_length (F G : Nat) : (kb F G).length = 16 := by simp [kb]

/-- A row of sixteen bytes of which those of the first i places of either half are laid. -/
def Half (F G i : Nat) (l : List Value) : Prop := l.length = 16 ∧ (∀ j, j < i → l[j]? = some (by8 F j)) ∧ (∀ j, j < i → l[8 + j]? = some (by8 G j)) ∧ ∀ j, j < 16 → ∃ z : Int, l[j]? = some (.int .u8 z)

theorem Half.full {F G : Nat} {l : List Value} (h : Half F G 8 l) : l = kb F G := by
  apply List.ext_getElem?
  intro j
  rcases Nat.lt_or_ge j 8 with h1 | h1
  · rw [h.2.1 j h1, kb, List.getElem?_append_left (by simpa using h1)]
    simp [h1]
  · rcases Nat.lt_or_ge j 16 with h2 | h2
    · obtain ⟨i, rfl⟩ : ∃ i, j = 8 + i := ⟨j - 8, by omega⟩
      rw [h.2.2.1 i (by omega), kb, List.getElem?_append_right (by simp)]
      have : i < 8 := by omega
      simp [this]
    · rw [List.getElem?_eq_none (by rw [h.1]; exact h2), List.getElem?_eq_none (by rw [kb_length]; exact h2)]

theorem Half.step {F G i : Nat} {l : List Value} (h : Half F G i l) (hi : i < 8) : Half F G (i + 1) ((l.set i (by8 F i)).set (8 + i) (by8 G i)) := by
  refine ⟨by simp [h.1], fun j hj => ?_, fun j hj => ?_, fun j hj => ?_⟩
  · rw [List.getElem?_set_ne (by omega)]
    by_cases e : j = i
    · subst e; rw [List.getElem?_set_self (by rw [h.1]; omega)]
    · rw [List.getElem?_set_ne (by omega)]; exact h.2.1 j (by omega)
  · by_cases e : j = i
    · subst e; rw [List.getElem?_set_self (by simp [h.1]; omega)]
    · rw [List.getElem?_set_ne (by omega), List.getElem?_set_ne (by omega)]; exact h.2.2.1 j (by omega)
  · by_cases e : 8 + i = j
    · subst e; exact ⟨_, List.getElem?_set_self (by simp [h.1]; omega)⟩
    · rw [List.getElem?_set_ne e]
      by_cases e : i = j
      · subst e; exact ⟨_, List.getElem?_set_self (by rw [h.1]; omega)⟩
      · rw [List.getElem?_set_ne e]; exact h.2.2.2 j hj

theorem heap_set {w1 : World} {K j : Nat} {t : TypeId} {cs : Array Value} (h : w1.heap[K]? = some (.cells cs t (0, 0))) (v : Value) : (w1.setCell ⟨K, j, none⟩ v).heap[K]? = some (.cells (cs.setIfInBounds j v) t (0, 0)) := by
  simp [World.setCell, Array.getElem?_modify, h]
theorem heap_set_ne {w1 : World} {K K' j : Nat} (h : K ≠ K') (v : Value) : (w1.setCell ⟨K, j, none⟩ v).heap[K']? = w1.heap[K']? := by
  simp [World.setCell, Array.getElem?_modify, h]

/-- The world inside zzs0931ckey's loop: two blocks of the call's own. -/
def Keyed (w wr : World) (F G i : Nat) : Prop := (∃ l : List Value, wr.heap[w.heap.size + 1]? = some (.cells l.toArray 88 (0, 0)) ∧ Half F G i l) ∧ (∃ c : Array Value, c.size = 16 ∧ wr.heap[w.heap.size]? = some (.cells c 88 (0, 0))) ∧ Below w.heap.size w wr

theorem Keyed.cell {w wr : World} {F G i : Nat} (h : Keyed w wr F G i) (j : Nat) (hj : j < 16) : ∃ z : Int, wr.cell? ⟨w.heap.size + 1, j, none⟩ = some (.int .u8 z) := by
  obtain ⟨⟨l, hl, hh⟩, _⟩ := h
  obtain ⟨z, hz⟩ := hh.2.2.2 j hj
  exact ⟨z, by rw [cell_of_row _ _ _ _ _ _ hl]; simpa using hz⟩
theorem Keyed.frozen {w wr : World} {F G i : Nat} (h : Keyed w wr F G i) (j : Nat) : wr.frozen? ⟨w.heap.size + 1, j, none⟩ = false := by
  obtain ⟨⟨l, hl, hh⟩, _⟩ := h
  simp [World.frozen?, hl]
theorem Keyed.step {w wr : World} {F G i : Nat} (h : Keyed w wr F G i) (hi : i < 8) {a b : Int} (ha : a = ((F / 256 ^ i % 256 : Nat) : Int)) (hb : b = ((G / 256 ^ i % 256 : Nat) : Int)) :
    Keyed w ((wr.setCell ⟨w.heap.size + 1, i, none⟩ (.int .u8 a)).setCell ⟨w.heap.size + 1, 8 + i, none⟩ (.int .u8 b)) F G (i + 1) := by
  obtain ⟨⟨l, hl, hh⟩, ⟨c, hc, hc2⟩, hbel⟩ := h
  subst ha; subst hb
  refine ⟨⟨_, ?_, hh.step hi⟩, ⟨c, hc, ?_⟩, (hbel.setCell (by simp) _).setCell (by simp) _⟩
  · rw [heap_set (heap_set hl _)]
    simp [by8]
  · rw [heap_set_ne (by omega), heap_set_ne (by omega)]; exact hc2

theorem kb_one (F G : Nat) : ∀ v ∈ kb F G, v.oneCell' = true := by
  intro v hv
  simp only [kb, List.mem_append, List.mem_map] at hv
  rcases hv with ⟨j, _, rfl⟩ | ⟨j, _, rfl⟩ <;> rfl

theorem two_new (w : World) (a b : Obj) : ((w.alloc a).alloc b).heap[w.heap.size + 1]? = some b ∧ ((w.alloc a).alloc b).heap[w.heap.size]? = some a := by
  constructor
  · have := heap_alloc_new (w.alloc a) b
    rwa [show (w.alloc a).heap.size = w.heap.size + 1 by simp] at this
  · rw [Below.heap_alloc _ _ _ (by simp)]
    exact heap_alloc_new w a

theorem size88 : (Yba.prog.info? 88).map (·.size) = some 16 := by kernel_rfl

set_option maxHeartbeats 1000000 in
set_option maxRecDepth 100000 in
theorem key4 (F G : Nat) (hF : F < 18446744073709551616) (hG : G < 9223372036854775808) (f : Int) (hf : IntKind.u64.wrap f = (F : Int)) (w : World) :
    Calls Yba.prog 4 #[.int .i64 f, .int .i64 G] w fun e w' => e = .returned (.agg (kb F G).toArray) ∧ Below w.heap.size w w' := by
  go_enter Yba.func4, Yba.ntmps4
  go_wp2
  go_loopw [8] (fun i wr => ∃ j : Nat, j ≤ 8 ∧ i = .int .i64 j ∧ Keyed w wr F G j) (fun i _ => 8 - (intOf i).toNat)
  case atStart =>
    refine ⟨0, by omega, rfl, ⟨List.replicate 16 (.int .u8 0), ?_, by simp, fun j h => absurd h (by omega), fun j h => absurd h (by omega), fun j h => ⟨0, by rw [List.getElem?_replicate, if_pos h]⟩⟩, ⟨(List.replicate 16 (.int .u8 0)).toArray, ?_, ?_⟩, ?_⟩
    · exact (two_new w _ _).1.trans rfl
    · rfl
    · exact (two_new w _ _).2.trans rfl
    · exact ((Below.refl _ _).alloc (Nat.le_refl _) _).alloc (by simp) _
  case round =>
    obtain ⟨j, hj, rfl, hK⟩ := hrel
    have HK : Hid (Keyed w wr F G j) := hK
    clear hK
    rcases (by omega : j = 0 ∨ j = 1 ∨ j = 2 ∨ j = 3 ∨ j = 4 ∨ j = 5 ∨ j = 6 ∨ j = 7 ∨ j = 8) with rfl | rfl | rfl | rfl | rfl | rfl | rfl | rfl | rfl
    · obtain ⟨z1, hc1⟩ := HK.out.cell 0 (by omega)
      obtain ⟨z2, hc2⟩ := HK.out.cell 8 (by omega)
      have hf1 := HK.out.frozen 0
      have hf2 := HK.out.frozen 8
      go_wp2
      go_roundw
      case rel => exact ⟨1, by omega, by go_num, HK.out.step (i := 0) (by omega) (by simp only [Nat.reducePow]; omega) (by simp only [Nat.reducePow]; omega)⟩
      case measure => simp [intOf]
    · obtain ⟨z1, hc1⟩ := HK.out.cell 1 (by omega)
      obtain ⟨z2, hc2⟩ := HK.out.cell 9 (by omega)
      have hf1 := HK.out.frozen 1
      have hf2 := HK.out.frozen 9
      go_wp2
      go_roundw
      case rel => exact ⟨2, by omega, by go_num, HK.out.step (i := 1) (by omega) (by simp only [Nat.reducePow]; omega) (by simp only [Nat.reducePow]; omega)⟩
      case measure => simp [intOf]
    · obtain ⟨z1, hc1⟩ := HK.out.cell 2 (by omega)
      obtain ⟨z2, hc2⟩ := HK.out.cell 10 (by omega)
      have hf1 := HK.out.frozen 2
      have hf2 := HK.out.frozen 10
      go_wp2
      go_roundw
      case rel => exact ⟨3, by omega, by go_num, HK.out.step (i := 2) (by omega) (by simp only [Nat.reducePow]; omega) (by simp only [Nat.reducePow]; omega)⟩
      case measure => simp [intOf]
    · obtain ⟨z1, hc1⟩ := HK.out.cell 3 (by omega)
      obtain ⟨z2, hc2⟩ := HK.out.cell 11 (by omega)
      have hf1 := HK.out.frozen 3
      have hf2 := HK.out.frozen 11
      go_wp2
      go_roundw
      case rel => exact ⟨4, by omega, by go_num, HK.out.step (i := 3) (by omega) (by simp only [Nat.reducePow]; omega) (by simp only [Nat.reducePow]; omega)⟩
      case measure => simp [intOf]
    · obtain ⟨z1, hc1⟩ := HK.out.cell 4 (by omega)
      obtain ⟨z2, hc2⟩ := HK.out.cell 12 (by omega)
      have hf1 := HK.out.frozen 4
      have hf2 := HK.out.frozen 12
      go_wp2
      go_roundw
      case rel => exact ⟨5, by omega, by go_num, HK.out.step (i := 4) (by omega) (by simp only [Nat.reducePow]; omega) (by simp only [Nat.reducePow]; omega)⟩
      case measure => simp [intOf]
    · obtain ⟨z1, hc1⟩ := HK.out.cell 5 (by omega)
      obtain ⟨z2, hc2⟩ := HK.out.cell 13 (by omega)
      have hf1 := HK.out.frozen 5
      have hf2 := HK.out.frozen 13
      go_wp2
      go_roundw
      case rel => exact ⟨6, by omega, by go_num, HK.out.step (i := 5) (by omega) (by simp only [Nat.reducePow]; omega) (by simp only [Nat.reducePow]; omega)⟩
      case measure => simp [intOf]
    · obtain ⟨z1, hc1⟩ := HK.out.cell 6 (by omega)
      obtain ⟨z2, hc2⟩ := HK.out.cell 14 (by omega)
      have hf1 := HK.out.frozen 6
      have hf2 := HK.out.frozen 14
      go_wp2
      go_roundw
      case rel => exact ⟨7, by omega, by go_num, HK.out.step (i := 6) (by omega) (by simp only [Nat.reducePow]; omega) (by simp only [Nat.reducePow]; omega)⟩
      case measure => simp [intOf]
    · obtain ⟨z1, hc1⟩ := HK.out.cell 7 (by omega)
      obtain ⟨z2, hc2⟩ := HK.out.cell 15 (by omega)
      have hf1 := HK.out.frozen 7
      have hf2 := HK.out.frozen 15
      go_wp2
      go_roundw
      case rel => exact ⟨8, by omega, by go_num, HK.out.step (i := 7) (by omega) (by simp only [Nat.reducePow]; omega) (by simp only [Nat.reducePow]; omega)⟩
      case measure => simp [intOf]
    · obtain ⟨⟨l, hl, hh⟩, ⟨c, hc, hc2⟩, hbel⟩ := HK.out
      obtain rfl := hh.full
      have HL : Hid ((kb F G).length = 16) := kb_length F G
      have H1 : Hid (∀ v ∈ kb F G, v.oneCell' = true) := kb_one F G
      have HR : Hid (wr.heap[w.heap.size + 1]? = some (.cells (kb F G).toArray 88 (0, 0))) := hl
      have HC : Hid (wr.heap[w.heap.size]? = some (.cells c 88 (0, 0))) := hc2
      have HCS : Hid (c.size = 16) := hc
      clear hl hh hc2 hc
      obtain ⟨L, hL⟩ : ∃ L, L = kb F G := ⟨_, rfl⟩
      rw [← hL] at HL H1 HR
      have HE : Hid (L = kb F G) := hL
      clear hL
      go_wp2_with (first
        | (refine wpList_load_row rfl 88 (.tmp 5) rfl (w.heap.size + 1) rfl 88 L.toArray (0, 0) _ HR.out Yba.underlying88 rfl (by simpa [HL.out] using size88) ?_)
        | (refine wpList_store_row rfl 88 (.tmp 4) (.tmp 34) rfl w.heap.size L.toArray rfl rfl 88 c HC.out (by simpa [HL.out] using size88) (by simpa [HL.out] using HCS.out) (Array.all_eq_true_iff_forall_mem.2 (fun v hv => H1.out v (by simpa using hv))) ?_))
      refine bodyPost_ret_by (results_cell_row rfl _ _ w.heap.size 88 L.toArray (0, 0) _ rfl (setRow_heap _ _ _ _ _ _ HC.out) Yba.underlying88 rfl (by simpa [HL.out] using size88)) rfl ?_
      exact ⟨by rw [HE.out], below_setRow hbel (Nat.le_refl _) _⟩

end Go.Proofs.Ybulksgi
