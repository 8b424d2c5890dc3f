import Derived.Test.YbulksgiResult
/-! What holds while the law fills the workers. -/
namespace Go.Proofs.Ybulksgi
open Go.RowKit

/-- The extractor (block X), its n workers (block W), the files so far (block F); worker i's problems: the slice q i, which holds xs i. -/
structure Inv (w wr : World) (X W F n N a b : Nat) (E U : Nat → Int) (q : Nat → Value) (xs : Nat → List (Int × Nat)) (cur : List Value) (fl fa : List Int) : Prop where
  bel : Below w.heap.size w wr
  bx : w.heap.size ≤ X
  bw : w.heap.size ≤ W
  bf : w.heap.size ≤ F
  xw : X ≠ W
  xf : X ≠ F
  wf : W ≠ F
  x : wr.heap[X]? = some (.cells #[.pointer none, .string ⟨#[]⟩, .pointer none, .slice none 0 0, .slice (some ⟨W, 0, none⟩) n n] 33 (0, 0))
  row : wr.heap[W]? = some (.cells cur.toArray 86 (0, 0))
  len : cur.length = n * 1824
  one : ∀ v ∈ cur, v.oneCell' = true
  e : ∀ i, i < a → cur[i * 1824 + 1819]? = some (.int .i64 (E i))
  u : ∀ i, i < b → cur[i * 1824 + 1820]? = some (.int .i64 (U i))
  p : ∀ i, i < n → cur[i * 1824 + 1821]? = some (q i)
  own : ∀ i, i < n → wr.ownsRow w.heap.size 95 21 (q i) (xs i).length ((xs i).flatMap en)
  nil : ∀ i, i < n → xs i = [] → q i = .slice none 0 0
  ap : ∀ i, i < n → ∀ g, (q i).ownBlock = some g → g ≠ X ∧ g ≠ W ∧ g ≠ F ∧ ∀ j, j < n → j ≠ i → (q j).ownBlock ≠ some g
  files : wr.ownsRow w.heap.size 3 1 (.slice (some ⟨F, 0, none⟩) fl.length N) fl.length (fl.map (Value.int .i64))
  all : cat xs n = tag 0 fa
  later : ∀ i, a ≤ i → xs i = []

theorem own_base {w : World} {B B' e s n : Nat} {v : Value} {l : List Value} (h : w.ownsRow B e s v n l) (hB : B' ≤ B) : w.ownsRow B' e s v n l := by
  refine ⟨h.1, ?_⟩
  rcases h.2 with h' | ⟨g, cap, cur, h1, h2, h3⟩
  · exact .inl h'
  · exact .inr ⟨g, cap, cur, h1, by omega, h3⟩

theorem Inv.xlt {w wr : World} {X W F n N a b : Nat} {E U : Nat → Int} {q : Nat → Value} {xs : Nat → List (Int × Nat)} {cur : List Value} {fl fa : List Int} (h : Inv w wr X W F n N a b E U q xs cur fl fa) : X < wr.heap.size := (Array.getElem?_eq_some_iff.1 h.x).1
theorem Inv.wlt {w wr : World} {X W F n N a b : Nat} {E U : Nat → Int} {q : Nat → Value} {xs : Nat → List (Int × Nat)} {cur : List Value} {fl fa : List Int} (h : Inv w wr X W F n N a b E U q xs cur fl fa) : W < wr.heap.size := (Array.getElem?_eq_some_iff.1 h.row).1

/-- New blocks alone: all stands. -/
theorem Inv.grown {w wr w1 : World} {X W F n N a b : Nat} {E U : Nat → Int} {q : Nat → Value} {xs : Nat → List (Int × Nat)} {cur : List Value} {fl fa : List Int} (h : Inv w wr X W F n N a b E U q xs cur fl fa) (hg : wr.grownBy w1 none) : Inv w w1 X W F n N a b E U q xs cur fl fa :=
  { h with
    bel := h.bel.grown hg h.bel.size (fun _ e => by cases e)
    x := (hg.block _ h.xlt (by simp)).trans h.x
    row := (hg.block _ h.wlt (by simp)).trans h.row
    own := fun i hi => (h.own i hi).kept hg (by cases (q i).ownBlock <;> simp)
    files := h.files.kept hg (.inr (by simp [Value.ownBlock])) }

theorem grown_drew (w : World) : w.grownBy w.drew none := ⟨rfl, rfl, rfl, Nat.le_refl _, fun _ _ _ => rfl⟩
theorem grown_trans {w w1 w2 : World} (h : w.grownBy w1 none) (k : w1.grownBy w2 none) : w.grownBy w2 none :=
  ⟨k.os.trans h.os, k.tape.trans h.tape, k.output.trans h.output, Nat.le_trans h.size k.size, fun j hj _ => (k.block j (Nat.lt_of_lt_of_le hj h.size) (by simp)).trans (h.block j hj (by simp))⟩
theorem grown_below {w w1 : World} (h : Below w.heap.size w w1) : w.grownBy w1 none := ⟨h.os, h.tape, h.output, h.size, fun k hk _ => h.block k hk⟩

theorem set_get {cur : List Value} {j k : Nat} {v : Value} (h : j ≠ k) : (cur.set j v)[k]? = cur[k]? := List.getElem?_set_ne h

/-- A cell of the workers' row is written. -/
theorem Inv.cell {w wr : World} {X W F n N a b : Nat} {E U : Nat → Int} {q : Nat → Value} {xs : Nat → List (Int × Nat)} {cur : List Value} {fl fa : List Int} (h : Inv w wr X W F n N a b E U q xs cur fl fa) (j : Nat) (v : Value) :
    (wr.setCell ⟨W, j, none⟩ v).heap[W]? = some (.cells (cur.set j v).toArray 86 (0, 0)) := by
  rw [heap_set h.row]; simp

theorem Inv.setE {w wr : World} {X W F n N k b : Nat} {E U : Nat → Int} {q : Nat → Value} {xs : Nat → List (Int × Nat)} {cur : List Value} {fl fa : List Int} (h : Inv w wr X W F n N k b E U q xs cur fl fa) (hk : k < n) :
    Inv w (wr.setCell ⟨W, k * 1824 + 1819, none⟩ (.int .i64 (E k))) X W F n N (k + 1) b E U q xs (cur.set (k * 1824 + 1819) (.int .i64 (E k))) fl fa :=
  have hlt : k * 1824 + 1819 < cur.length := by rw [h.len]; omega
  { h with
    bel := h.bel.setCell h.bw _
    x := (heap_set_ne (Ne.symm h.xw) _).trans h.x
    row := h.cell _ _
    len := by rw [List.length_set]; exact h.len
    one := fun v hv => by
      rcases List.mem_or_eq_of_mem_set hv with hv | rfl
      · exact h.one v hv
      · rfl
    e := fun i hi => by
      by_cases e : i = k
      · subst e; exact List.getElem?_set_self hlt
      · rw [set_get (by omega)]; exact h.e i (by omega)
    u := fun i hi => by rw [set_get (by omega)]; exact h.u i hi
    p := fun i hi => by rw [set_get (by omega)]; exact h.p i hi
    own := fun i hi => (h.own i hi).kept (grown_set wr W _ _) (.inr fun e => (h.ap i hi W e).2.1 rfl)
    files := h.files.kept (grown_set wr W _ _) (.inr fun e => h.wf (by simpa [Value.ownBlock] using e.symm))
    later := fun i hi => h.later i (by omega) }

theorem Inv.setU {w wr : World} {X W F n N a k : Nat} {E U : Nat → Int} {q : Nat → Value} {xs : Nat → List (Int × Nat)} {cur : List Value} {fl fa : List Int} (h : Inv w wr X W F n N a k E U q xs cur fl fa) (hk : k < n) :
    Inv w (wr.setCell ⟨W, k * 1824 + 1820, none⟩ (.int .i64 (U k))) X W F n N a (k + 1) E U q xs (cur.set (k * 1824 + 1820) (.int .i64 (U k))) fl fa :=
  have hlt : k * 1824 + 1820 < cur.length := by rw [h.len]; omega
  { h with
    bel := h.bel.setCell h.bw _
    x := (heap_set_ne (Ne.symm h.xw) _).trans h.x
    row := h.cell _ _
    len := by rw [List.length_set]; exact h.len
    one := fun v hv => by
      rcases List.mem_or_eq_of_mem_set hv with hv | rfl
      · exact h.one v hv
      · rfl
    e := fun i hi => by rw [set_get (by omega)]; exact h.e i hi
    u := fun i hi => by
      by_cases e : i = k
      · subst e; exact List.getElem?_set_self hlt
      · rw [set_get (by omega)]; exact h.u i (by omega)
    p := fun i hi => by rw [set_get (by omega)]; exact h.p i hi
    own := fun i hi => (h.own i hi).kept (grown_set wr W _ _) (.inr fun e => (h.ap i hi W e).2.1 rfl)
    files := h.files.kept (grown_set wr W _ _) (.inr fun e => h.wf (by simpa [Value.ownBlock] using e.symm)) }

/-- One more file. -/
theorem Inv.file {w wr w0 w1 : World} {X W F n N a b : Nat} {E U : Nat → Int} {q : Nat → Value} {xs : Nat → List (Int × Nat)} {cur : List Value} {fl fa : List Int} {f : Int} (h : Inv w wr X W F n N a b E U q xs cur fl fa)
    (h0 : wr.grownBy w0 none) (own : w1.ownsRow w.heap.size 3 1 (.slice (some ⟨F, 0, none⟩) (fl.length + 1) N) (fl.length + 1) (fl.map (Value.int .i64) ++ [.int .i64 f])) (gr : w0.grownBy w1 (some F)) : Inv w w1 X W F n N a b E U q xs cur (fl ++ [f]) fa :=
  have h' := h.grown h0
  { h' with
    bel := h'.bel.grown gr h'.bel.size (fun j e => by cases e; exact h.bf)
    x := (gr.block _ h'.xlt (fun e => h.xf (by simpa using e))).trans h'.x
    row := (gr.block _ h'.wlt (fun e => h.wf (by simpa using e))).trans h'.row
    own := fun i hi => (h'.own i hi).kept gr (.inr fun e => (h.ap i hi F e).2.2.1 rfl)
    files := by simpa using own }

def upd {α : Type} (q : Nat → α) (k : Nat) (v : α) : Nat → α := fun i => if i = k then v else q i
theorem upd_same {α : Type} (q : Nat → α) (k : Nat) (v : α) : upd q k v k = v := by simp [upd]
theorem upd_ne {α : Type} (q : Nat → α) {k i : Nat} (v : α) (h : i ≠ k) : upd q k v i = q i := by simp [upd, h]

theorem cat_upd_lo (xs : Nat → List (Int × Nat)) (k : Nat) (l : List (Int × Nat)) : ∀ n, n ≤ k → cat (upd xs k l) n = cat xs n
  | 0, _ => rfl
  | n + 1, h => by rw [range_flat, range_flat, cat_upd_lo xs k l n (by omega), upd_ne xs l (by omega)]
theorem cat_upd (xs : Nat → List (Int × Nat)) (k : Nat) (x : Int × Nat) (hl : ∀ i, k < i → xs i = []) : ∀ n, k < n → cat (upd xs k (xs k ++ [x])) n = cat xs n ++ [x]
  | 0, h => absurd h (by omega)
  | n + 1, h => by
    rw [range_flat, range_flat]
    by_cases e : k = n
    · subst e; rw [cat_upd_lo xs k _ k (Nat.le_refl _), upd_same, List.append_assoc]
    · rw [cat_upd xs k x hl n (by omega), upd_ne xs _ (by omega), hl n (by omega)]; simp

theorem tag_snoc (l : List Int) (f : Int) : tag 0 (l ++ [f]) = tag 0 l ++ [(f, l.length)] := by
  rw [tag_append]; simp [tag]

/-- One more problem of worker k. -/
theorem Inv.problem {w wr w1 w2 : World} {X W F n N k gg cap : Nat} {E U : Nat → Int} {q : Nat → Value} {xs : Nat → List (Int × Nat)} {cur : List Value} {fa : List Int} {f : Int} (h : Inv w wr X W F n N (k + 1) (k + 1) E U q xs cur (fa ++ [f]) fa) (hk : k < n)
    (h1 : wr.grownBy w1 none) (own : w2.ownsRow w.heap.size 95 21 (.slice (some ⟨gg, 0, none⟩) ((xs k).length + 1) cap) ((xs k).length + 1) ((xs k).flatMap en ++ en (f, fa.length))) (gr : w1.grownBy w2 (q k).ownBlock) (hat : (q k).ownBlock = some gg ∨ gg = w1.heap.size) :
    Inv w (w2.setCell ⟨W, k * 1824 + 1821, none⟩ (.slice (some ⟨gg, 0, none⟩) ((xs k).length + 1) cap)) X W F n N (k + 1) (k + 1) E U (upd q k (.slice (some ⟨gg, 0, none⟩) ((xs k).length + 1) cap)) (upd xs k (xs k ++ [(f, fa.length)])) (cur.set (k * 1824 + 1821) (.slice (some ⟨gg, 0, none⟩) ((xs k).length + 1) cap)) (fa ++ [f]) (fa ++ [f]) := by
  have h' := h.grown h1
  have hlt : k * 1824 + 1821 < cur.length := by rw [h.len]; omega
  have hqX : some X ≠ (q k).ownBlock := fun e => (h.ap k hk X e.symm).1 rfl
  have hqW : some W ≠ (q k).ownBlock := fun e => (h.ap k hk W e.symm).2.1 rfl
  have hqF : some F ≠ (q k).ownBlock := fun e => (h.ap k hk F e.symm).2.2.1 rfl
  have hx2 := (gr.block _ h'.xlt hqX).trans h'.x
  have hr2 := (gr.block _ h'.wlt hqW).trans h'.row
  have hFlt : F < w1.heap.size := (h'.files.lt F rfl).2
  have hgg : gg ≠ X ∧ gg ≠ W ∧ gg ≠ F ∧ ∀ j, j < n → j ≠ k → (q j).ownBlock ≠ some gg := by
    rcases hat with e | e
    · exact h.ap k hk gg e
    · refine ⟨by have := h'.xlt; omega, by have := h'.wlt; omega, by omega, fun j hj _ e2 => ?_⟩
      have := ((h'.own j hj).lt _ e2).2
      omega
  refine { bx := h.bx, bw := h.bw, bf := h.bf, xw := h.xw, xf := h.xf, wf := h.wf, bel := ?_, x := ?_, row := ?_, len := ?_, one := ?_, e := ?_, u := ?_, p := ?_, own := ?_, nil := ?_, ap := ?_, files := ?_, all := ?_, later := ?_ }
  · exact (h'.bel.grown gr h'.bel.size (fun j e => ((h'.own k hk).lt j e).1)).setCell h.bw _
  · exact (heap_set_ne (Ne.symm h.xw) _).trans hx2
  · rw [heap_set hr2]; simp
  · rw [List.length_set]; exact h.len
  · intro v hv
    rcases List.mem_or_eq_of_mem_set hv with hv | rfl
    · exact h.one v hv
    · rfl
  · intro i hi; rw [set_get (by omega)]; exact h.e i hi
  · intro i hi; rw [set_get (by omega)]; exact h.u i hi
  · intro i hi
    by_cases e : i = k
    · subst e; rw [upd_same]; exact List.getElem?_set_self hlt
    · rw [upd_ne q _ e, set_get (by omega)]; exact h.p i hi
  · intro i hi
    by_cases e : i = k
    · subst e
      rw [upd_same, upd_same, List.length_append, List.flatMap_append]
      refine World.ownsRow.kept ?_ (grown_set w2 W _ _) (.inr (by simp [Value.ownBlock]; exact hgg.2.1))
      simpa using own
    · rw [upd_ne q _ e, upd_ne xs _ e]
      refine World.ownsRow.kept ((h'.own i hi).kept gr ?_) (grown_set w2 W _ _) (.inr fun e2 => (h.ap i hi W e2).2.1 rfl)
      cases hq : (q i).ownBlock with
      | none => exact .inl rfl
      | some g => exact .inr fun e2 => (h.ap i hi g hq).2.2.2 k hk (Ne.symm e) e2.symm
  · intro i hi hx
    by_cases e : i = k
    · subst e; rw [upd_same] at hx; simp at hx
    · rw [upd_ne xs _ e] at hx; rw [upd_ne q _ e]; exact h.nil i hi hx
  · intro i hi g hg
    by_cases e : i = k
    · subst e
      rw [upd_same] at hg
      simp only [Value.ownBlock, Option.some.injEq] at hg
      subst hg
      refine ⟨hgg.1, hgg.2.1, hgg.2.2.1, fun j hj hne => ?_⟩
      rw [upd_ne q _ hne]; exact hgg.2.2.2 j hj hne
    · rw [upd_ne q _ e] at hg
      obtain ⟨a1, a2, a3, a4⟩ := h.ap i hi g hg
      refine ⟨a1, a2, a3, fun j hj hne => ?_⟩
      by_cases ej : j = k
      · subst ej
        rw [upd_same]
        simp only [Value.ownBlock, ne_eq, Option.some.injEq]
        intro e2
        subst e2
        exact hgg.2.2.2 i hi e hg
      · rw [upd_ne q _ ej]; exact a4 j hj hne
  · exact World.ownsRow.kept (h'.files.kept gr (.inr hqF)) (grown_set w2 W _ _) (.inr (by simp [Value.ownBlock]; exact Ne.symm h.wf))
  · rw [cat_upd xs k _ (fun i hi => h.later i (by omega)) n hk, h.all, tag_snoc]
  · intro i hi; rw [upd_ne xs _ (by omega)]; exact h.later i hi

/-- What result asks. -/
theorem Inv.has {w wr : World} {X W F n N : Nat} {E U : Nat → Int} {q : Nat → Value} {xs : Nat → List (Int × Nat)} {cur : List Value} {fl fa : List Int} (h : Inv w wr X W F n N n n E U q xs cur fl fa) : Has wr X W n cur E U q xs :=
  { x := h.x, row := h.row, len := h.len, one := h.one, e := h.e, u := h.u, p := h.p, own := fun i hi => own_base (h.own i hi) (Nat.zero_le _), nil := h.nil }

theorem row_full {w : World} {B g n e s : Nat} {xs : List Value} (h : w.ownsRow B e s (.slice (some ⟨g, 0, none⟩) n n) n xs) : w.heap[g]? = some (.cells xs.toArray e (0, 0)) := by
  rcases h.2 with ⟨h', _⟩ | ⟨g', cap', cur, h', _, hg, _, _, hs, htake⟩
  · simp at h'
  · simp only [Value.slice.injEq, Option.some.injEq, Addr.mk.injEq, and_true, true_and] at h'
    obtain ⟨rfl, rfl⟩ := h'
    rw [List.take_of_length_le (by simp [hs])] at htake
    rw [hg, ← htake]

theorem made_get (c : Array Value) (m j : Nat) (hj : j < m) (h0 : 0 < c.size) : (madeCells c m).toList[j]? = c[j % c.size]? := by
  have h1 : j % c.size < c.size := Nat.mod_lt _ h0
  simp [madeCells, hj, h1]

/-- The beginning: workers of zeros, no file. -/
theorem Inv.start {w wr w2 w4 : World} {n N F : Nat} {E U : Nat → Int} {i86 : TypeInfo} {c : Array Value} (K : Wk i86 c) (hb : Below w.heap.size w wr)
    (own : w2.ownsRow w.heap.size 86 1824 (.slice (some ⟨wr.heap.size + 1, 0, none⟩) n n) n (madeCells c (n * 1824)).toList)
    (g2 : (wr.alloc (.cells #[.pointer none, .string ⟨#[]⟩, .pointer none, .slice none 0 0, .slice none 0 0] 33)).grownBy w2 none)
    (own4 : w4.ownsRow w.heap.size 3 1 (.slice (some ⟨F, 0, none⟩) 0 N) 0 [])
    (g4 : (w2.setCell ⟨wr.heap.size, 4, none⟩ (.slice (some ⟨wr.heap.size + 1, 0, none⟩) n n)).grownBy w4 none) (hF : F = w2.heap.size) :
    Inv w w4 wr.heap.size (wr.heap.size + 1) F n N 0 0 E U (fun _ => .slice none 0 0) (fun _ => []) (madeCells c (n * 1824)).toList [] [] := by
  have hs2 : wr.heap.size + 1 ≤ w2.heap.size := by have := g2.size; simp at this; omega
  have hW2 := row_full own
  have hWl := (Array.getElem?_eq_some_iff.1 hW2).1
  have hX2 : w2.heap[wr.heap.size]? = some (.cells #[.pointer none, .string ⟨#[]⟩, .pointer none, .slice none 0 0, .slice none 0 0] 33 (0, 0)) := by
    rw [g2.block _ (by simp) (by simp)]; exact heap_alloc_new _ _
  have hsz := hb.size
  have hlen : (madeCells c (n * 1824)).toList.length = n * 1824 := by simp [size_madeCells]
  refine { bx := hsz, bw := by omega, bf := by omega, xw := by omega, xf := by omega, wf := by omega, bel := ?_, x := ?_, row := ?_, len := hlen, one := ?_, e := fun i hi => absurd hi (by omega), u := fun i hi => absurd hi (by omega), p := ?_, own := ?_, nil := fun _ _ _ => rfl, ap := ?_, files := ?_, all := ?_, later := fun _ _ => rfl }
  · have b1 : Below w.heap.size w w2 := (hb.alloc hsz _).grown g2 (by simp; omega) (fun _ e => by cases e)
    exact (b1.setCell hsz _).grown g4 (by simp; omega) (fun _ e => by cases e)
  · rw [g4.block _ (by simp; omega) (by simp), heap_set hX2]; rfl
  · rw [g4.block _ (by simp; omega) (by simp), heap_set_ne (by omega)]; exact hW2
  · intro v hv
    obtain ⟨j, hj, rfl⟩ := List.mem_iff_getElem.1 hv
    have hj' : j < n * 1824 := by rw [← hlen]; exact hj
    have hg := made_get c (n * 1824) j hj' (by rw [K.csize]; decide)
    rw [List.getElem?_eq_getElem hj] at hg
    exact Array.all_eq_true_iff_forall_mem.1 K.one _ (Array.mem_of_getElem? hg.symm)
  · intro i hi
    rw [made_get c _ _ (by omega) (by rw [K.csize]; decide), K.csize, show (i * 1824 + 1821) % 1824 = 1821 by omega]
    exact K.c21
  · intro i hi; exact World.ownsRow_nil _ _ _ _
  · intro i hi g hg; simp [Value.ownBlock] at hg
  · simpa using own4
  · have hz : ∀ m, cat (fun _ => ([] : List (Int × Nat))) m = [] := fun m => by
      induction m with
      | zero => rfl
      | succ m ih => rw [range_flat, ih]; rfl
    rw [hz]; rfl
end Go.Proofs.Ybulksgi
