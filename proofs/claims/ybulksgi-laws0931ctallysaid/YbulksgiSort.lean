import Derived.Test.YbulksgiData
import Derived.Test.YbulksgiShelf
import Derived.Shelf.SlSortCmp.NoneTotal
/-! slices.SortFunc at fileProblem: the row is permuted, and sorted by file. -/
namespace Go.Proofs.Ybulksgi
open Go.Shelf Go.RowKit Go.Lib Go.Sort

set_option maxHeartbeats 1000000 in
/-- The closure: cmp.Compare(a.file, b.file): two blocks are laid. -/
theorem closure8 (x y : Int × Nat) (W : World) : Calls Yba.prog 8 #[.agg (en x).toArray, .agg (en y).toArray] W fun e w' => e = .returned (.int .i64 (Lib.compareInt x.1 y.1)) ∧ ∃ q os', w' = grow (W.drewN q) os' := by
  have hcon := fun W' => AnyG.cmp_Compare_int Yba.cmpInt x.1 y.1 W'
  change ∀ W', Calls Yba.prog 9 _ _ _ at hcon
  generalize Lib.compareInt x.1 y.1 = r at hcon ⊢
  unfold en
  generalize pr x = px
  generalize pr y = py
  go_enter Yba.func8, Yba.ntmps8
  go_wp2_with (go_at_call 9; refine (hcon _).mono ?_; rintro e w' ⟨rfl, rfl⟩)
  go_ret
  exact ⟨rfl, 0, _, by rw [alloc_eq_grow, alloc_eq_grow, grow_grow]; rfl⟩

theorem cmpLays8 (blk off size : Nat) (w : World) : CmpLays Yba.prog 8 #[] en 21 (fun x y => Lib.compareInt x.1 y.1) blk off size w :=
  fun _ _ _ _ x y => closure8 x y _

theorem lt8 (x y : Int × Nat) : ltOf (fun x y : Int × Nat => Lib.compareInt x.1 y.1) x y = decide (x.1 < y.1) := by
  unfold ltOf Lib.compareInt
  by_cases h1 : x.1 < y.1
  · simp [h1]
  · by_cases h2 : y.1 < x.1 <;> simp [h1, h2]

theorem swo8 : SWO (ltOf fun x y : Int × Nat => Lib.compareInt x.1 y.1) where
  irrefl x := by rw [lt8]; simp
  trans x y z h1 h2 := by rw [lt8] at *; simp at *; omega
  ntrans x y z h1 h2 := by rw [lt8] at *; simp at *; omega

theorem flatK_get (xs : List (Int × Nat)) (t : Nat) (h : t < xs.length * 21) : (xs.flatMap en)[t]? = some ((flatK en 21 xs.toArray)[t]!) := by
  rw [get_flatK en 21 _ _ (by simpa using h)]
  have h1 : t / 21 < xs.length := by omega
  have h2 : t % 21 < 21 := Nat.mod_lt _ (by decide)
  have e : t / 21 * 21 + t % 21 = t := by omega
  rw [← e, flat_get en 21 en_length xs (t / 21) (t % 21) h2, e]
  have hx : xs.toArray[t / 21]! = xs[t / 21] := by simp [h1]
  rw [hx, List.getElem?_eq_getElem h1, Option.bind_some]
  have hl : t % 21 < (en xs[t / 21]).length := by rw [en_length]; exact h2
  rw [List.getElem?_eq_getElem hl]
  simp [hl]

/-- What the sort asks, out of a row that is owned. -/
theorem holds_of {w : World} {g n : Nat} {xs : List (Int × Nat)} {cur : Array Value} (hg : w.heap[g]? = some (.cells cur 95 (0, 0))) (ht : cur.toList.take (n * 21) = xs.flatMap en) (hn : xs.length = n) : HoldsK en 21 w g 0 xs.toArray := by
  intro j hj
  simp only [size_flatK, List.size_toArray] at hj
  refine ⟨?_, by simp [World.frozen?, hg]⟩
  rw [cell_of_row _ _ _ _ _ _ hg, Nat.zero_add]
  have h := flatK_get xs j hj
  rw [← ht, List.getElem?_take_of_lt (by rw [← hn]; exact hj)] at h
  simpa using h

/-- The row behind the sort. -/
theorem row_behind {w : World} {g m n : Nat} {ys : List (Int × Nat)} {cur : Array Value} {os : Array Obj} (hg : w.heap[g]? = some (.cells cur 95 (0, 0))) (hn : ys.length = n) (hc : n * 21 ≤ cur.size) :
    (sortWorldK en 21 w g 0 m ys.toArray os).heap[g]? = some (.cells (putCells id 0 (flatK en 21 ys.toArray) cur) 95 (0, 0)) ∧ (putCells id 0 (flatK en 21 ys.toArray) cur).size = cur.size ∧ (putCells id 0 (flatK en 21 ys.toArray) cur).toList.take (n * 21) = ys.flatMap en := by
  have hlt : g < w.heap.size := (Array.getElem?_eq_some_iff.1 hg).1
  refine ⟨?_, by simp [putCells], ?_⟩
  · show ((mapBlock (Sort.ahead w m) g _).heap ++ os)[g]? = _
    have hs : (mapBlock (Sort.ahead w m) g (putCells id 0 (flatK en 21 ys.toArray))).heap.size = w.heap.size := by simp [mapBlock, Sort.ahead]
    rw [Array.getElem?_append_left (by rw [hs]; exact hlt)]
    show (w.heap.modify g _)[g]? = _
    rw [Array.getElem?_modify, if_pos rfl, hg]
    rfl
  · apply List.ext_getElem?
    intro j
    by_cases hj : j < n * 21
    · rw [List.getElem?_take_of_lt hj, flatK_get ys j (by rw [hn]; exact hj)]
      have hjc : j < cur.size := by omega
      simp [putCells, hjc, hn, hj]
    · rw [List.getElem?_eq_none (by simp; omega), List.getElem?_eq_none (by rw [flat_length en 21 en_length, hn]; omega)]

theorem grown_behind (w : World) (g m : Nat) (d : Array (Int × Nat)) (os : Array Obj) : w.grownBy (sortWorldK en 21 w g 0 m d os) (some g) := by
  have hs : (putRowK en 21 (Sort.ahead w m) g 0 d).heap.size = w.heap.size := by simp [putRowK, putRow, mapBlock, Sort.ahead]
  refine ⟨rfl, rfl, rfl, by simp [sortWorldK, hs], fun k hk hne => ?_⟩
  show ((putRowK en 21 (Sort.ahead w m) g 0 d).heap ++ os)[k]? = _
  rw [Array.getElem?_append_left (by rw [hs]; exact hk)]
  show (w.heap.modify g _)[k]? = _
  rw [Array.getElem?_modify, if_neg (fun e => hne (by rw [e]))]

/-- A list that is sorted by file. -/
def Asc (ys : List (Int × Nat)) : Prop := ∀ (i j : Nat) (x y : Int × Nat), i < j → ys[i]? = some x → ys[j]? = some y → x.1 ≤ y.1

set_option maxHeartbeats 1000000 in
theorem sort7 (B n : Nat) (v : Value) (xs : List (Int × Nat)) (w : World) (hown : w.ownsRow B 95 21 v n (xs.flatMap en)) (hn : xs.length = n) (hpos : 0 < n) (hsz : n ≤ 4096) :
    Calls Yba.prog 7 #[v, .func (.func 8) #[] #[]] w fun e w' => e = .returned (.tuple #[]) ∧ ∃ ys : List (Int × Nat), ys.Perm xs ∧ Asc ys ∧ w'.ownsRow B 95 21 v n (ys.flatMap en) ∧ w.grownBy w' v.ownBlock := by
  rcases hown.2 with ⟨rfl, rfl⟩ | ⟨g, cap, cur, rfl, hB, hg, hnc, hcm, hcs, htake⟩
  · omega
  have eg : ∀ args w, (callFunc 8 args).run Yba.prog w = .ok (.enter 8 args) w := enters_of Yba.func8 (by kernel_rfl) rfl
  have hcon := AnyQ.slices_SortFunc Yba.sortFp 21 Yba.isAgg95 Yba.sizeOf95 en en_length en_one (fun x y => Lib.compareInt x.1 y.1) swo8 8 #[] g 0 cap xs.toArray w eg (cmpLays8 g 0 _ w) (holds_of hg htake hn) ((Array.getElem?_eq_some_iff.1 hg).1) (by simp; omega)
  change Calls Yba.prog 7 _ _ _ at hcon
  rw [show xs.toArray.size = n by simpa using hn] at hcon
  refine hcon.mono ?_
  rintro e w' ⟨rfl, d', m, os, hp, hs, rfl⟩
  obtain ⟨ys⟩ := d'
  have hl : ys.length = n := by have := hp.1; simpa [hn] using this
  have hle : n * 21 ≤ cur.size := by rw [hcs]; exact Nat.mul_le_mul_right _ hnc
  obtain ⟨r1, r2, r3⟩ := row_behind (m := m) (os := os) hg hl hle
  refine ⟨rfl, ys, ?_, ?_, ⟨by rw [flat_length en 21 en_length, hl], .inr ⟨g, cap, _, rfl, hB, r1, hnc, hcm, by rw [r2, hcs], r3⟩⟩, grown_behind w g m _ os⟩
  · have := hp.2.2
    have e1 : ((⟨ys⟩ : Array (Int × Nat)).extract 0 n).toList = ys := by simp [← hl]
    have e2 : ((xs.toArray).extract 0 n).toList = xs := by simp [← hn]
    rw [e1, e2] at this
    exact this
  · intro i j x y hij hx hy
    have hj : j < n := by rw [← hl]; exact (List.getElem?_eq_some_iff.1 hy).1
    have h := hs i j (Nat.zero_le _) hij hj
    rw [lt8] at h
    have ex : (ys.toArray)[i]! = x := by
      have hi : i < ys.length := by omega
      have := (List.getElem?_eq_some_iff.1 hx).2
      simp [hi, this]
    have ey : (ys.toArray)[j]! = y := by
      have hj' : j < ys.length := by omega
      have := (List.getElem?_eq_some_iff.1 hy).2
      simp [hj', this]
    rw [ex, ey] at h
    simpa using h

/-- No element: nothing turns. -/
theorem sort7_none (w : World) : Calls Yba.prog 7 #[.slice none 0 0, .func (.func 8) #[] #[]] w fun e w' => e = .returned (.tuple #[]) ∧ w' = w := by
  have hcon := AnyF.slices_SortFunc_none Yba.sortFp none 0 (.func (.func 8) #[] #[]) w
  change Calls Yba.prog 7 _ _ _ at hcon
  exact hcon
end Go.Proofs.Ybulksgi
