import Derived.Test.YbulksgiSort
import Derived.Deep.RegionLaw
import Derived.RegionTactic
import Derived.Maps.AppendAt
/-! (*extractor).result: the first loop. -/
namespace Go.Proofs.Ybulksgi
open Go.RowKit

/-- The workers, as they lie: block X the extractor, block W its workers. -/
structure Has (w : World) (X W n : Nat) (cur : List Value) (E U : Nat → Int) (q : Nat → Value) (xs : Nat → List (Int × Nat)) : Prop where
  x : w.heap[X]? = some (.cells #[.pointer none, .string ⟨#[]⟩, .pointer none, .slice none 0 0, .slice (some ⟨W, 0, none⟩) n n] 33 (0, 0))
  row : w.heap[W]? = some (.cells cur.toArray 86 (0, 0))
  len : cur.length = n * 1824
  one : ∀ v ∈ cur, v.oneCell' = true
  e : ∀ i, i < n → cur[i * 1824 + 1819]? = some (.int .i64 (E i))
  u : ∀ i, i < n → cur[i * 1824 + 1820]? = some (.int .i64 (U i))
  p : ∀ i, i < n → cur[i * 1824 + 1821]? = some (q i)
  own : ∀ i, i < n → w.ownsRow 0 95 21 (q i) (xs i).length ((xs i).flatMap en)
  nil : ∀ i, i < n → xs i = [] → q i = .slice none 0 0

/-- The cells of worker k. -/
def part (cur : List Value) (k : Nat) : List Value := (cur.drop (k * 1824)).take 1824
theorem part_length {cur : List Value} {n k : Nat} (h : cur.length = n * 1824) (hk : k < n) : (part cur k).length = 1824 := by
  have : (k + 1) * 1824 ≤ n * 1824 := Nat.mul_le_mul_right _ hk
  simp [part, h]; omega
theorem part_get {cur : List Value} {k j : Nat} (hj : j < 1824) : (part cur k)[j]? = cur[k * 1824 + j]? := by
  rw [part, List.getElem?_take_of_lt hj, List.getElem?_drop]

/-- The first k workers' problems, one behind the other. -/
def cat (xs : Nat → List (Int × Nat)) (k : Nat) : List (Int × Nat) := (List.range k).flatMap xs

/-- A sum that wraps round. -/
def sumW (E : Nat → Int) : Nat → Int
  | 0 => 0
  | k + 1 => wrap64 (sumW E k + E k)

/-- The world at the head of the first loop's round k; v: the problems so far. -/
structure L1 (w wr : World) (ren : Value) (E U : Nat → Int) (xs : Nat → List (Int × Nat)) (k : Nat) (v : Value) : Prop where
  bel : Below w.heap.size w wr
  r : wr.heap[w.heap.size]? = some (.cells #[.int .i64 (sumW E k), .int .i64 (sumW U k), .slice none 0 0, ren] 101 (0, 0))
  own : wr.ownsRow (w.heap.size + 1) 95 21 v (cat xs k).length ((cat xs k).flatMap en)
  nil : cat xs k = [] → v = .slice none 0 0

/-- 'append(s, nil...)': nothing is appended. -/
theorem wpList_append_none {P : Program} {ops : Array Oper} {rest : List Oper} {o : Oper} {a : Act} {w : World} {Q : Exit → Act → World → Prop} (hgd : o.guard = none) (s x : Operand) (t : TypeId)
    (ho : o.op = .call { callee := .builtin .append, args := #[s, x], argTypes := #[t, t] })
    (e : TypeId) (i : TypeInfo) (ht : P.underlying t = some (.slice e)) (hi : P.info? e = some i)
    (base : Option Addr) (sLen sCap : Nat) (hle : sLen ≤ sCap) (hs : a.eval s = .slice base sLen sCap) (hx : a.eval x = .slice none 0 0)
    (h : wpList P ops Q rest (a.put o.dst (.slice base sLen sCap)) w) : wpList P ops Q (o :: rest) a w := by
  refine wpList_plain hgd fun K hK => ?_
  have hr := run_append_nothing (P := P) w t t o.type e i ht hi base sLen sCap hle (.slice none 0 0) ⟨.inl ⟨e, ht⟩, fun _ => rfl, rfl, rfl, by simp, by simp⟩
  unfold Oper.wp execOp
  simp only [ho, resolve, invoke, builtin, Sem.run_bind, Sem.run_pure, Result.andThen_ok, List.map_toArray, List.map_cons, List.map_nil, hs, hx, hr]
  exact hK _ _ h

theorem own_shape {w : World} {B n : Nat} {v : Value} {l : List Value} (h : w.ownsRow B 95 21 v n l) : ∃ b c, v = .slice b n c ∧ n ≤ c := by
  rcases h.2 with ⟨rfl, rfl⟩ | ⟨g, cap, cur, rfl, hb, _, hc, _⟩
  · exact ⟨none, 0, rfl, Nat.le_refl _⟩
  · exact ⟨_, _, rfl, hc⟩

theorem own_full {w : World} {B n : Nat} {v : Value} {l : List Value} (h : w.ownsRow B 95 21 v n l) (hn : 0 < n) : ∃ g c, v = .slice (some ⟨g, 0, none⟩) n c ∧ g < w.heap.size ∧ ∀ j u, l[j]? = some u → w.cell? ((⟨g, 0, none⟩ : Addr).add j) = some u := by
  rcases h.2 with ⟨rfl, rfl⟩ | ⟨g, cap, cur, rfl, hb, hg, hc, _⟩
  · omega
  · exact ⟨g, cap, rfl, (Array.getElem?_eq_some_iff.1 hg).1, h.cells rfl⟩

theorem flat_one (xs : List (Int × Nat)) : ∀ v ∈ xs.flatMap en, v.oneCell' = true := by
  intro v hv
  obtain ⟨x, _, hx⟩ := List.mem_flatMap.1 hv
  exact en_one x v hx

theorem range_flat (xs : Nat → List (Int × Nat)) (k : Nat) : cat xs (k + 1) = cat xs k ++ xs k := by
  rw [cat, cat, List.range_succ, List.flatMap_append]; simp

theorem drop_le (xs : Nat → List (Int × Nat)) {k n N : Nat} (hk : k < n) (hN : (cat xs n).length = N) : (cat xs k).length + (xs k).length ≤ N := by
  have h1 : (cat xs (k + 1)).length ≤ (cat xs n).length := by
    obtain ⟨m, rfl⟩ : ∃ m, n = (k + 1) + m := ⟨n - (k + 1), by omega⟩
    have e : cat xs (k + 1 + m) = cat xs (k + 1) ++ ((List.range m).map (k + 1 + ·)).flatMap xs := by unfold cat; rw [List.range_add, List.flatMap_append]
    rw [e, List.length_append]; omega
  rw [range_flat, List.length_append] at h1
  omega

/-- Behind the two sums of a round. -/
theorem L1.mid {w wr wB : World} {ren : Value} {E U : Nat → Int} {xs : Nat → List (Int × Nat)} {k : Nat} {v : Value} (h : L1 w wr ren E U xs k v) (hg : wr.grownBy wB (some w.heap.size)) :
    Below w.heap.size w wB ∧ wB.ownsRow (w.heap.size + 1) 95 21 v (cat xs k).length ((cat xs k).flatMap en) := by
  refine ⟨h.bel.grown hg h.bel.size (fun j hj => by cases hj; exact Nat.le_refl _), h.own.kept hg ?_⟩
  right
  intro e
  have := (h.own.lt _ e).1
  omega

theorem L1.nothing {w wr wB : World} {ren : Value} {E U : Nat → Int} {xs : Nat → List (Int × Nat)} {k : Nat} {v : Value} (h : L1 w wr ren E U xs k v) (hg : wr.grownBy wB (some w.heap.size))
    (hr : wB.heap[w.heap.size]? = some (.cells #[.int .i64 (sumW E (k + 1)), .int .i64 (sumW U (k + 1)), .slice none 0 0, ren] 101 (0, 0))) (hx : xs k = []) : L1 w wB ren E U xs (k + 1) v := by
  obtain ⟨h1, h2⟩ := h.mid hg
  refine ⟨h1, hr, ?_, ?_⟩
  · rw [range_flat, hx, List.append_nil]; exact h2
  · rw [range_flat, hx, List.append_nil]; exact h.nil

theorem L1.more {w wr wB w2 : World} {ren : Value} {E U : Nat → Int} {xs : Nat → List (Int × Nat)} {k : Nat} {v v' : Value} (h : L1 w wr ren E U xs k v) (hg : wr.grownBy wB (some w.heap.size))
    (hr : wB.heap[w.heap.size]? = some (.cells #[.int .i64 (sumW E (k + 1)), .int .i64 (sumW U (k + 1)), .slice none 0 0, ren] 101 (0, 0))) (hx : xs k ≠ [])
    (own : w2.ownsRow (w.heap.size + 1) 95 21 v' ((cat xs k).length + (xs k).length) ((cat xs k).flatMap en ++ (xs k).flatMap en)) (gr : wB.grownBy w2 v.ownBlock) : L1 w w2 ren E U xs (k + 1) v' := by
  obtain ⟨h1, h2⟩ := h.mid hg
  have hR : w.heap.size < wB.heap.size := by
    rcases Nat.lt_or_ge w.heap.size wB.heap.size with h | h
    · exact h
    · rw [Array.getElem?_eq_none h] at hr; cases hr
  refine ⟨h1.grown gr h1.size (fun j hj => by have := (h2.lt j hj).1; omega), ?_, ?_, ?_⟩
  · rw [gr.block _ hR (fun e => by have := (h2.lt _ e.symm).1; omega)]; exact hr
  · rw [range_flat, List.flatMap_append, List.length_append]; exact own
  · rw [range_flat]; intro e; simp at e; exact absurd e.2 hx

/-- The world at the head of the second loop's round k; pv: r.Problems. -/
structure L2 (w wr : World) (ren : Value) (sE sU : Int) (v : Value) (N : Nat) (ys : List (Int × Nat)) (k : Nat) (pv : Value) : Prop where
  bel : Below w.heap.size w wr
  r : wr.heap[w.heap.size]? = some (.cells #[.int .i64 sE, .int .i64 sU, pv, ren] 101 (0, 0))
  own : wr.ownsRow (w.heap.size + 1) 95 21 v N (ys.flatMap en)
  own2 : wr.ownsRow (w.heap.size + 1) 93 20 pv k ((ys.take k).flatMap pr)
  ap : ∀ g, pv.ownBlock = some g → v.ownBlock ≠ some g

theorem grown_set (w : World) (R j : Nat) (x : Value) : w.grownBy (w.setCell ⟨R, j, none⟩ x) (some R) :=
  ⟨rfl, rfl, rfl, by simp, fun k _ hne => heap_set_ne (fun e => hne (by rw [e])) x⟩

theorem own_set {w : World} {B e s n R j : Nat} {v x : Value} {l : List Value} (h : w.ownsRow B e s v n l) (hR : R < B) : (w.setCell ⟨R, j, none⟩ x).ownsRow B e s v n l :=
  h.kept (grown_set w R j x) (.inr fun e => by have := (h.lt _ e).1; omega)

theorem L2.next {w wr w1 w2 : World} {ren : Value} {sE sU : Int} {v pv : Value} {N j gg cap2 : Nat} {ys : List (Int × Nat)} {x : Int × Nat} {o : Obj} (h : L2 w wr ren sE sU v N ys j pv) (hx : ys[j]? = some x)
    (hg1 : wr.grownBy w1 none) (hs1 : w1.heap.size = wr.heap.size + 1) (hgrow : ((w1.alloc o).drew).grownBy w2 pv.ownBlock)
    (hown2 : w2.ownsRow (w.heap.size + 1) 93 20 (.slice (some ⟨gg, 0, none⟩) (j + 1) cap2) (j + 1) ((ys.take j).flatMap pr ++ pr x)) (hat : pv.ownBlock = some gg ∨ gg = w1.heap.size + 1)
    (hR2 : w2.heap[w.heap.size]? = some (.cells #[.int .i64 sE, .int .i64 sU, pv, ren] 101 (0, 0))) :
    L2 w (w2.setCell ⟨w.heap.size, 2, none⟩ (.slice (some ⟨gg, 0, none⟩) (j + 1) cap2)) ren sE sU v N ys (j + 1) (.slice (some ⟨gg, 0, none⟩) (j + 1) cap2) := by
  have hg : wr.grownBy w2 pv.ownBlock := by
    refine ⟨hgrow.os.trans hg1.os, hgrow.tape.trans hg1.tape, hgrow.output.trans hg1.output, ?_, fun k hk hne => ?_⟩
    · have := hgrow.size; simp at this; omega
    · rw [hgrow.block k (by simp; omega) hne]
      exact (Below.heap_alloc _ _ _ (by omega)).trans (hg1.block k hk (by simp))
  refine ⟨?_, heap_set hR2 _, ?_, ?_, ?_⟩
  · exact (h.bel.grown hg h.bel.size (fun k hk => by have := (h.own2.lt k hk).1; omega)).setCell (Nat.le_refl _) _
  · refine own_set (h.own.kept hg ?_) (Nat.lt_succ_self _)
    cases hv : v.ownBlock with
    | none => exact .inl rfl
    | some b => exact .inr fun e => h.ap b e.symm hv
  · refine own_set ?_ (Nat.lt_succ_self _)
    rw [List.take_add_one, hx, List.flatMap_append]
    simpa using hown2
  · intro b hb
    simp [Value.ownBlock] at hb
    subst hb
    rcases hat with e | e
    · exact h.ap _ e
    · intro e2
      have := (h.own.lt _ e2).2
      omega

/-- What result leaves. -/
def Tallied (w w' : World) (ren : Value) (sE sU : Int) (N : Nat) (all : List (Int × Nat)) : Prop :=
  ∃ (ys : List (Int × Nat)) (pv : Value), ys.Perm all ∧ Asc ys ∧ w'.heap[w.heap.size]? = some (.cells #[.int .i64 sE, .int .i64 sU, pv, ren] 101 (0, 0)) ∧ w'.ownsRow (w.heap.size + 1) 93 20 pv N (ys.flatMap pr) ∧ Below w.heap.size w w'

theorem list20 (l : List Value) (h : l.length = 20) : ∃ p0 p1 p2 p3 p4 p5 p6 p7 p8 p9 p10 p11 p12 p13 p14 p15 p16 p17 p18 p19, l = [p0, p1, p2, p3, p4, p5, p6, p7, p8, p9, p10, p11, p12, p13, p14, p15, p16, p17, p18, p19] := by
  match l, h with
  | [p0, p1, p2, p3, p4, p5, p6, p7, p8, p9, p10, p11, p12, p13, p14, p15, p16, p17, p18, p19], _ => exact ⟨_, _, _, _, _, _, _, _, _, _, _, _, _, _, _, _, _, _, _, _, rfl⟩

theorem foldSet : ∀ (l : List Value) (n : Nat) (c : Array Value) (j : Nat), n + l.length ≤ c.size → (List.foldl (fun (cs : Array Value) (x : Value × Nat) => cs.setIfInBounds x.snd x.fst) c (l.zipIdx n))[j]? = if n ≤ j ∧ j < n + l.length then l[j - n]? else c[j]?
  | [], n, c, j, _ => by
    rw [if_neg (by simp only [List.length_nil]; omega)]; simp
  | v :: r, n, c, j, h => by
    simp only [List.length_cons] at h
    rw [List.zipIdx_cons, List.foldl_cons, foldSet r (n + 1) _ j (by simp; omega)]
    simp only [List.length_cons]
    by_cases h1 : n + 1 ≤ j ∧ j < n + 1 + r.length
    · rw [if_pos h1, if_pos (by omega), show j - n = (j - (n + 1)) + 1 by omega]; simp
    · rw [if_neg h1]
      by_cases h2 : n = j
      · subst h2
        rw [if_pos (by omega), Array.getElem?_setIfInBounds_self_of_lt (by omega)]; simp
      · rw [if_neg (by omega), Array.getElem?_setIfInBounds_ne h2]

theorem fold20 (l : List Value) (h : l.length = 20) : List.foldl (fun (cs : Array Value) (x : Value × Nat) => cs.setIfInBounds x.snd x.fst) #[.int .i64 0, .string ⟨#[]⟩, .int .u8 0, .int .u8 0, .int .u8 0, .int .u8 0, .int .u8 0, .int .u8 0, .int .u8 0, .int .u8 0, .int .u8 0, .int .u8 0, .int .u8 0, .int .u8 0, .int .u8 0, .int .u8 0, .int .u8 0, .int .u8 0, .int .u64 0, .string ⟨#[]⟩] l.zipIdx = l.toArray := by
  apply Array.ext_getElem?
  intro j
  rw [foldSet l 0 _ j (by rw [h]; decide)]
  by_cases hj : j < 20
  · rw [if_pos ⟨Nat.zero_le _, by omega⟩]; simp
  · rw [if_neg (by omega), Array.getElem?_eq_none (by show 20 ≤ j; omega), Array.getElem?_eq_none (by simp; omega)]

theorem size95 : (Yba.prog.info? 95).map (·.size) = some 21 := by kernel_rfl
theorem size93 : (Yba.prog.info? 93).map (·.size) = some 20 := by kernel_rfl
theorem info93 : (Yba.prog.info? 93).map (fun i => (i.zero, i.size, i.bytes)) = some (some (.agg #[.int .i64 0, .string ⟨#[]⟩, .int .u8 0, .int .u8 0, .int .u8 0, .int .u8 0, .int .u8 0, .int .u8 0, .int .u8 0, .int .u8 0, .int .u8 0, .int .u8 0, .int .u8 0, .int .u8 0, .int .u8 0, .int .u8 0, .int .u8 0, .int .u8 0, .int .u64 0, .string ⟨#[]⟩]), 20, 64) := by kernel_rfl

theorem size86 : (Yba.prog.info? 86).map (·.size) = some 1824 := by kernel_rfl
theorem info95 : (Yba.prog.info? 95).map (fun i => (i.zero, i.size, i.bytes)) = some (some (.agg #[.int .i64 0, .int .i64 0, .string ⟨#[]⟩, .int .u8 0, .int .u8 0, .int .u8 0, .int .u8 0, .int .u8 0, .int .u8 0, .int .u8 0, .int .u8 0, .int .u8 0, .int .u8 0, .int .u8 0, .int .u8 0, .int .u8 0, .int .u8 0, .int .u8 0, .int .u8 0, .int .u64 0, .string ⟨#[]⟩]), 21, 72) := by kernel_rfl

set_option linter.unusedSimpArgs false in
set_option maxHeartbeats 2000000 in
set_option maxRecDepth 100000 in
theorem result5 (X W n N : Nat) (cur : List Value) (E U : Nat → Int) (q : Nat → Value) (xs : Nat → List (Int × Nat)) (ra : Option Addr) (rl rc : Nat) (w : World) (H : Has w X W n cur E U q xs) (hn : n ≤ 256) (hN : (cat xs n).length = N) (hN2 : N ≤ 4096) :
    Calls Yba.prog 5 #[.pointer (some ⟨X, 0, none⟩), .slice ra rl rc] w fun e w' => e = .returned (.pointer (some ⟨w.heap.size, 0, none⟩)) ∧ Tallied w w' (.slice ra rl rc) (sumW E n) (sumW U n) N (cat xs n) := by
  obtain ⟨i86, c86, K⟩ := wk
  have hz86 := K.zeroValue
  have hx4 : w.cell? ⟨X, 4, none⟩ = some (.slice (some ⟨W, 0, none⟩) n n) := by rw [cell_of_row _ _ _ _ _ _ H.x]; rfl
  have HH : Hid (Has w X W n cur E U q xs) := H
  have hXl : X < w.heap.size := World.block_lt_of_cell? _ _ hx4
  have hx4' : (w.alloc (.cells #[.int .i64 0, .int .i64 0, .slice none 0 0, .slice ra rl rc] 101)).cell? ⟨X, 4, none⟩ = some (.slice (some ⟨W, 0, none⟩) n n) := by
    rw [World.cell?_alloc_lt _ _ _ hXl]; exact hx4
  clear H
  go_enter Yba.func5, Yba.ntmps5
  go_wp2
  go_loopw [6, 19] (fun v i wr => ∃ k : Nat, k ≤ n ∧ i = .int .i64 k ∧ L1 w wr (.slice ra rl rc) E U xs k v) (fun _ i _ => n - (intOf i).toNat)
  case atStart =>
    refine ⟨0, Nat.zero_le _, rfl, (Below.refl _ _).alloc (Nat.le_refl _) _, heap_alloc_new _ _, ?_, fun _ => rfl⟩
    exact World.ownsRow_nil _ _ _ _
  case round =>
    obtain ⟨k, hk, rfl, hL⟩ := hrel
    have HL : Hid (L1 w wr (.slice ra rl rc) E U xs k _) := hL
    clear hL hx4 hx4'
    by_cases hkn : k < n
    · have hWl : W < w.heap.size := by
        rcases Nat.lt_or_ge W w.heap.size with h | h
        · exact h
        · have := HH.out.row; rw [Array.getElem?_eq_none h] at this; cases this
      have HR : Hid (wr.rangeAt W (k * 1824) (part cur k)) := fun j v hv => by
        have hj : j < 1824 := by rw [← part_length HH.out.len hkn]; exact (List.getElem?_eq_some_iff.1 hv).1
        rw [part_get hj] at hv
        rw [cell_of_row _ _ _ _ _ _ ((HL.out.bel.block W hWl).trans HH.out.row)]; simpa using hv
      have HPL : Hid ((part cur k).length = 1824) := part_length HH.out.len hkn
      have HPO : Hid (∀ v ∈ part cur k, v.oneCell' = true) := fun v hv => HH.out.one v (List.mem_of_mem_drop (List.mem_of_mem_take hv))
      have HKS : Hid (c86.size = 1824) := K.csize
      obtain ⟨cs, hcs⟩ : ∃ cs, cs = part cur k := ⟨_, rfl⟩
      rw [← hcs] at HR HPL HPO
      have HCS : Hid (cs = part cur k) := hcs
      clear hcs
      go_wp2_with (first
        | (refine wpList_load_mid rfl 86 (.tmp 21) rfl W (k * 1824) rfl cs _ HR.out Yba.underlying86 rfl (by rw [HPL.out]; exact size86) ?_)
        | (refine wpList_store_row rfl 86 (.tmp 8) (.tmp 22) rfl wr.heap.size cs.toArray rfl rfl 86 c86 (heap_alloc_new _ _) (by simpa [HPL.out] using size86) (by simpa [HPL.out] using HKS.out) (all_oneCell_toArray HPO.out) ?_))
      obtain ⟨w1, hw1⟩ : ∃ w1 : World, w1 = (wr.alloc (.cells c86 86)).setRow wr.heap.size cs.toArray := ⟨_, rfl⟩
      have hRl : w.heap.size < wr.heap.size := by
        rcases Nat.lt_or_ge w.heap.size wr.heap.size with h | h
        · exact h
        · have := HL.out.r; rw [Array.getElem?_eq_none h] at this; cases this
      have HR1 : Hid (w1.heap[w.heap.size]? = some (.cells #[.int .i64 (sumW E k), .int .i64 (sumW U k), .slice none 0 0, .slice ra rl rc] 101 (0, 0))) := by
        show _ = _
        rw [hw1, World.setRow_alloc_new, Below.heap_alloc _ _ _ hRl]; exact HL.out.r
      have HT1 : Hid (w1.heap[wr.heap.size]? = some (.cells cs.toArray 86 (0, 0))) := by
        show _ = _
        rw [hw1, World.setRow_alloc_new]; exact heap_alloc_new _ _
      have c0 : w1.cell? ⟨w.heap.size, 0, none⟩ = some (.int .i64 (sumW E k)) := by rw [cell_of_row _ _ _ _ _ _ HR1.out]; rfl
      have c1 : w1.cell? ⟨w.heap.size, 1, none⟩ = some (.int .i64 (sumW U k)) := by rw [cell_of_row _ _ _ _ _ _ HR1.out]; rfl
      have d1 : w1.cell? ⟨wr.heap.size, 1819, none⟩ = some (.int .i64 (E k)) := by rw [cell_of_row _ _ _ _ _ _ HT1.out, HCS.out]; simpa [part_get] using HH.out.e k hkn
      have d2 : w1.cell? ⟨wr.heap.size, 1820, none⟩ = some (.int .i64 (U k)) := by rw [cell_of_row _ _ _ _ _ _ HT1.out, HCS.out]; simpa [part_get] using HH.out.u k hkn
      have d3 : w1.cell? ⟨wr.heap.size, 1821, none⟩ = some (q k) := by rw [cell_of_row _ _ _ _ _ _ HT1.out, HCS.out]; simpa [part_get] using HH.out.p k hkn
      have f0 : w1.frozen? ⟨w.heap.size, 0, none⟩ = false := by simp [World.frozen?, HR1.out]
      have f1 : w1.frozen? ⟨w.heap.size, 1, none⟩ = false := by simp [World.frozen?, HR1.out]
      rw [← hw1]
      have HW1 : Hid _ := hw1
      clear hw1
      have hne : wr.heap.size ≠ w.heap.size := by omega
      have HSE0 : Hid (sumW E (k + 1) = wrap64 (sumW E k + E k)) := show _ = _ from rfl
      have HSU0 : Hid (sumW U (k + 1) = wrap64 (sumW U k + U k)) := show _ = _ from rfl
      generalize sumW E k = sE at *
      generalize sumW U k = sU at *
      generalize E k = eK at *
      generalize U k = uK at *
      simp only [Act.put]
      go_region
      go_wp2
      go_region
      obtain ⟨wB, hwB⟩ : ∃ wB : World, wB = ((w1.setCell ⟨w.heap.size, 0, none⟩ (.int .i64 (wrap64 (sE + eK)))).setCell ⟨w.heap.size, 1, none⟩ (.int .i64 (wrap64 (sU + uK)))).drew.drew := ⟨_, rfl⟩
      rw [← hwB]
      have HRB : Hid (wB.heap[w.heap.size]? = some (.cells #[.int .i64 (wrap64 (sE + eK)), .int .i64 (wrap64 (sU + uK)), .slice none 0 0, .slice ra rl rc] 101 (0, 0))) := by
        show _ = _
        rw [hwB]
        exact heap_set (heap_set HR1.out _) _
      have HTB : Hid (wB.heap[wr.heap.size]? = some (.cells cs.toArray 86 (0, 0))) := by
        show _ = _
        rw [hwB]
        exact (heap_set_ne (Ne.symm hne) _).trans ((heap_set_ne (Ne.symm hne) _).trans HT1.out)
      have HG : Hid (wr.grownBy wB (some w.heap.size)) := by
        show World.grownBy _ _ _
        rw [hwB, HW1.out, World.setRow_alloc_new]
        refine ⟨rfl, rfl, rfl, by simp, fun j hj hne => ?_⟩
        have hne' : w.heap.size ≠ j := fun e => hne (by rw [e])
        exact (heap_set_ne hne' _).trans ((heap_set_ne hne' _).trans (Below.heap_alloc _ _ _ hj))
      have d3B : wB.cell? ⟨wr.heap.size, 1821, none⟩ = some (q k) := by rw [cell_of_row _ _ _ _ _ _ HTB.out, HCS.out]; simpa [part_get] using HH.out.p k hkn
      have HSE : Hid (sumW E (k + 1) = wrap64 (sE + eK)) := HSE0.out
      have HSU : Hid (sumW U (k + 1) = wrap64 (sU + uK)) := HSU0.out
      clear hwB HW1 HT1 HR1 c0 c1 d1 d2 d3 f0 f1 HSE0 HSU0 HR
      generalize wrap64 (sE + eK) = sE' at *
      generalize wrap64 (sU + uK) = sU' at *
      obtain ⟨i95, hi95, hz95, hs95, hb95⟩ := info_parts info95
      obtain ⟨pb, pc, hv, hle⟩ := own_shape HL.out.own
      subst hv
      have HLM := HL.out.mid HG.out
      have HOW : Hid _ := HLM.2
      have HBE : Hid _ := HLM.1
      clear HLM
      have HQN : Hid (xs k = [] → q k = .slice none 0 0) := HH.out.nil k hkn
      by_cases hxk : xs k = []
      · rw [HQN.out hxk] at d3B
        go_wp2_with (at_builtin; refine wpList_append_none rfl _ _ 83 rfl 95 i95 Yba.underlying83 hi95 pb _ pc hle rfl rfl ?_)
        go_roundw
        case rel => exact ⟨k + 1, by omega, by go_num, HL.out.nothing HG.out (by rw [HSE.out, HSU.out]; exact HRB.out) hxk⟩
        case measure => simp [intOf]; omega
      · have hpos : 0 < (xs k).length := List.length_pos_iff.2 hxk
        obtain ⟨g, c, hq, hgl, hcells⟩ := own_full (HH.out.own k hkn) hpos
        have HCE : Hid (∀ j u, ((xs k).flatMap en)[j]? = some u → wB.cell? ((⟨g, 0, none⟩ : Addr).add j) = some u) := fun j u hu => by
          have ad : (⟨g, 0, none⟩ : Addr).add j = ⟨g, j, none⟩ := by unfold Addr.add; split <;> simp_all
          rw [ad]
          rw [HBE.out.cell (p := ⟨g, j, none⟩) hgl]
          rw [← ad]; exact hcells j u hu
        clear hcells
        rw [hq] at d3B
        have HDL := drop_le xs hkn hN
        have hsz := HBE.out.size
        have HRl : w.heap.size + 1 ≤ wB.heap.size := by
          have := (Array.getElem?_eq_some_iff.1 HRB.out).1; omega
        go_wp2_with (at_builtin; refine wpList_append_own_at _ rfl _ _ 83 rfl (w.heap.size + 1) 95 i95 _ 21 72 Yba.underlying83 hi95 hz95 hs95 hb95 rfl (by decide) _ _ _ rfl HOW.out ⟨g, 0, none⟩ (xs k).length c ((xs k).flatMap en) rfl (flat_length en 21 en_length _) HCE.out (flat_one _) (by unfold maxLen; omega) (by omega) HRl ?_)
        intro v' w2 own' gr' _ _
        have HN : Hid (L1 w w2 (.slice ra rl rc) E U xs (k + 1) v') := HL.out.more HG.out (by rw [HSE.out, HSU.out]; exact HRB.out) hxk own' gr'
        clear own' gr'
        go_wp2
        go_roundw
        case rel => exact ⟨k + 1, by omega, by go_num, HN.out⟩
        case measure => simp [intOf]; omega
    · obtain rfl : k = n := by omega
      clear HH hXl K hz86
      by_cases hN0 : N = 0
      · subst hN0
        have hcat : cat xs k = [] := List.length_eq_zero_iff.1 hN
        have hv := HL.out.nil hcat
        subst hv
        go_wp2_with (go_at_call 7; refine (sort7_none _).mono ?_; rintro e w' ⟨rfl, rfl⟩)
        go_loopw [50] (fun i wr' => i = .int .i64 0 ∧ wr' = w') (fun _ _ => 0)
        case atStart => exact ⟨rfl, rfl⟩
        case round =>
          obtain ⟨rfl, rfl⟩ := hrel
          go_wp2
          go_ret
          exact ⟨rfl, [], .slice none 0 0, by rw [hcat], fun i j x y _ hx _ => by simp at hx, HL.out.r, World.ownsRow_nil _ _ _ _, HL.out.bel⟩
      · go_wp2_with fail
        go_at_call 7
        refine (sort7 (w.heap.size + 1) N _ (cat xs k) wr (by rw [← hN]; exact HL.out.own) hN (by omega) hN2).mono ?_
        rintro e ws ⟨rfl, ys, hperm, hasc, hown, hgr⟩
        obtain ⟨g, c, hv, hgl, hcells⟩ := own_full hown (by omega)
        subst hv
        have hRl : w.heap.size < wr.heap.size := by
          have := (Array.getElem?_eq_some_iff.1 HL.out.r).1; omega
        have hgb := (hown.lt g rfl).1
        have HP : Hid (ys.Perm (cat xs k)) := hperm
        have HA : Hid (Asc ys) := hasc
        have HY : Hid (ys.length = N) := by show _ = _; rw [hperm.length_eq]; exact hN
        have H2 : Hid (L2 w ws (.slice ra rl rc) (sumW E k) (sumW U k) (.slice (some ⟨g, 0, none⟩) N c) N ys 0 (.slice none 0 0)) := by
          refine ⟨HL.out.bel.grown hgr HL.out.bel.size (fun j hj => ?_), ?_, hown, World.ownsRow_nil _ _ _ _, fun j hj => by simp [Value.ownBlock] at hj⟩
          · simp [Value.ownBlock] at hj; omega
          · rw [hgr.block _ hRl (by simp [Value.ownBlock]; omega)]; exact HL.out.r
        clear hown hgr hcells hperm hasc HL
        go_wp2
        go_loopw [50] (fun i wr' => ∃ (j : Nat) (pv : Value), j ≤ N ∧ i = .int .i64 j ∧ L2 w wr' (.slice ra rl rc) (sumW E k) (sumW U k) (.slice (some ⟨g, 0, none⟩) N c) N ys j pv) (fun i _ => N - (intOf i).toNat)
        case atStart => exact ⟨0, _, Nat.zero_le _, rfl, H2.out⟩
        case round =>
          obtain ⟨j, pv, hj, rfl, h2⟩ := hrel
          have H2' : Hid (L2 w wr (.slice ra rl rc) (sumW E k) (sumW U k) (.slice (some ⟨g, 0, none⟩) N c) N ys j pv) := h2
          clear h2 H2
          by_cases hjN : j < N
          · obtain ⟨x, hx⟩ : ∃ x, ys[j]? = some x := ⟨_, List.getElem?_eq_getElem (by rw [HY.out]; exact hjN)⟩
            have HX : Hid (ys[j]? = some x) := hx
            clear hx
            have ad : ∀ i, (⟨g, 0, none⟩ : Addr).add i = ⟨g, i, none⟩ := fun i => by unfold Addr.add; split <;> simp_all
            have HR : Hid (wr.rangeAt g (j * 21) (en x)) := fun i v hv => by
              have hi : i < 21 := by rw [← en_length x]; exact (List.getElem?_eq_some_iff.1 hv).1
              rw [← ad]
              refine H2'.out.own.cells rfl _ _ ?_
              rw [flat_get en 21 en_length _ _ _ hi, HX.out]; exact hv
            have HT : Hid (en x = .int .i64 x.1 :: pr x) := show _ = _ from rfl
            have HEL : Hid ((en x).length = 21) := en_length x
            have HEO : Hid (∀ v ∈ en x, v.oneCell' = true) := en_one x
            generalize en x = ex at *
            clear ad
            go_wp2_with (first
              | (refine wpList_load_mid rfl 95 (.tmp 52) rfl g (j * 21) rfl ex _ HR.out Yba.underlying95 rfl (by rw [HEL.out]; exact size95) ?_)
              | (refine wpList_store_row rfl 95 (.tmp 10) (.tmp 53) rfl wr.heap.size ex.toArray rfl rfl 95 _ (heap_alloc_new _ _) (by simpa [HEL.out] using size95) (by simp [HEL.out]) (all_oneCell_toArray HEO.out) ?_))
            obtain ⟨w1, hw1⟩ : ∃ w1 : World, w1 = wr.alloc (.cells ex.toArray 95) := ⟨_, rfl⟩
            simp only [Act.put]
            rw [World.setRow_alloc_new, ← hw1]
            obtain ⟨px, hpx⟩ : ∃ px, px = pr x := ⟨_, rfl⟩
            have HPR : Hid (px = pr x) := hpx
            have hu93 := Yba.underlying93
            have hpl : px.length = 20 := by rw [hpx, pr_length]
            have hi93' : (Yba.prog.info? 93).map (·.size) = some px.length := by rw [hpl]; exact size93
            have hpo : ∀ v ∈ px, v.oneCell' = true := by rw [hpx]; exact pr_one x
            have HT1 : Hid (w1.heap[wr.heap.size]? = some (.cells ex.toArray 95 (0, 0))) := by show _ = _; rw [hw1]; exact heap_alloc_new _ _
            have HG1 : Hid (wr.grownBy w1 none) := by show World.grownBy _ _ _; rw [hw1]; exact World.grownBy_alloc _ _ _
            have hRl' : w.heap.size < wr.heap.size := (Array.getElem?_eq_some_iff.1 H2'.out.r).1
            have HR1 : Hid (w1.heap[w.heap.size]? = some (.cells #[.int .i64 (sumW E k), .int .i64 (sumW U k), pv, .slice ra rl rc] 101 (0, 0))) := by
              show _ = _; rw [HG1.out.block _ hRl' (by simp)]; exact H2'.out.r
            have cr : w1.cell? ⟨w.heap.size, 2, none⟩ = some pv := by rw [cell_of_row _ _ _ _ _ _ HR1.out]; rfl
            have fr : w1.frozen? ⟨w.heap.size, 2, none⟩ = false := by simp [World.frozen?, HR1.out]
            have HS1 : Hid (w1.rangeAt wr.heap.size 1 px) := fun i v hv => by
              rw [cell_of_row _ _ _ _ _ _ HT1.out, HT.out, ← hpx, Nat.add_comm]
              simpa using hv
            have HWS : Hid (w1.heap.size = wr.heap.size + 1) := by show _ = _; rw [hw1]; simp
            have HO2 : Hid (w1.ownsRow (w.heap.size + 1) 93 20 pv j ((ys.take j).flatMap pr)) := H2'.out.own2.kept HG1.out (by cases pv.ownBlock <;> simp)
            have HW1 : Hid _ := hw1
            clear hw1 hpx HR
            obtain ⟨i93, hi93, hz93, hs93, hb93⟩ := info_parts info93
            have cra : ∀ o, (w1.alloc o).cell? ⟨w.heap.size, 2, none⟩ = some pv := fun o => by
              have hws := HWS.out
              rw [World.cell?_alloc_lt _ _ _ (by show w.heap.size < w1.heap.size; omega)]; exact cr
            have hRne : pv.ownBlock ≠ some w.heap.size := fun e => by have := (HO2.out.lt _ e).1; omega
            have HF : Hid (∀ (o : Obj) (w2 : World), ((w1.alloc o).drew).grownBy w2 pv.ownBlock → w2.heap[w.heap.size]? = some (.cells #[.int .i64 (sumW E k), .int .i64 (sumW U k), pv, .slice ra rl rc] 101 (0, 0)) ∧ w2.cell? ⟨w.heap.size, 2, none⟩ = some pv ∧ w2.frozen? ⟨w.heap.size, 2, none⟩ = false) := by
              intro o w2 hg
              have h : w2.heap[w.heap.size]? = some (.cells #[.int .i64 (sumW E k), .int .i64 (sumW U k), pv, .slice ra rl rc] 101 (0, 0)) := by
                have hws := HWS.out
                rw [hg.block _ (by simp; omega) (Ne.symm hRne)]
                exact (Below.heap_alloc _ _ _ (by omega)).trans HR1.out
              exact ⟨h, by rw [cell_of_row _ _ _ _ _ _ h]; rfl, by simp [World.frozen?, h]⟩
            have HKs : Hid (∀ (W : World) (v : Value), W.rangeAt wr.heap.size 1 px → (W.setCell ⟨w.heap.size, 2, none⟩ v).rangeAt wr.heap.size 1 px) := fun W v h i u hu => by
              have hn : w.heap.size ≠ wr.heap.size := Nat.ne_of_lt hRl'
              rw [World.cell?_of_block (heap_set_ne hn v)]; exact h i u hu
            have hTne : pv.ownBlock ≠ some wr.heap.size := fun e => by have := (H2'.out.own2.lt _ e).2; omega
            have HKg : Hid (∀ (W w2 : World), W.rangeAt wr.heap.size 1 px → W.grownBy w2 pv.ownBlock → w2.rangeAt wr.heap.size 1 px) := fun W w2 h hg i u hu => hg.cell (h i u hu) (Ne.symm hTne)
            have hS1 := HS1.out
            have hfold := fold20 px hpl
            refine wp_region_noPanic ?_
            refine wp_region_held_drew (S := fun w' => w'.rangeAt wr.heap.size 1 px) (by kernel_rfl) ((World.rangeAt_drew _ _ _ _).2 hS1) (fun hHeld => ?_)
            refine wpAnyH_take (i := 0) (v := ?v0) rfl (by kernel_rfl) (by kernel_rfl) (by kernel_rfl) (fun _ _ _ h => h) (Or.inl ⟨by rfl, ?hy0⟩) (by assumption) ?rest0
            case hy0 => (intro W hSW; go_simp; try with_reducible rfl)
            simp only [Act.put, List.getElem_toArray, List.getElem_cons_zero, List.getElem_cons_succ, List.setIfInBounds_toArray, List.set_cons_zero, List.set_cons_succ]
            refine wpAnyH_take (i := 1) (v := ?v1) rfl (by kernel_rfl) (by kernel_rfl) (by kernel_rfl) (fun _ _ _ h => h) (Or.inl ⟨by rfl, ?hy1⟩) (by assumption) ?rest1
            case hy1 => (intro W hSW; go_simp; try with_reducible rfl)
            simp only [Act.put, List.getElem_toArray, List.getElem_cons_zero, List.getElem_cons_succ, List.setIfInBounds_toArray, List.set_cons_zero, List.set_cons_succ]
            refine wpAnyH_take (i := 2) (v := ?v2) rfl (by kernel_rfl) (by kernel_rfl) (by kernel_rfl) (fun _ _ _ h => h) (Or.inl ⟨by rfl, ?hy2⟩) (by assumption) ?rest2
            case hy2 => (intro W hSW; go_simp; try with_reducible rfl)
            simp only [Act.put, List.getElem_toArray, List.getElem_cons_zero, List.getElem_cons_succ, List.setIfInBounds_toArray, List.set_cons_zero, List.set_cons_succ]
            refine wpAnyH_take (i := 3) (v := ?v3) rfl (by kernel_rfl) (by kernel_rfl) (by kernel_rfl) (fun _ _ _ h => h) (Or.inl ⟨by rfl, ?hy3⟩) (by assumption) ?rest3
            case hy3 => (intro W hSW; go_simp; try with_reducible rfl)
            simp only [Act.put, List.getElem_toArray, List.getElem_cons_zero, List.getElem_cons_succ, List.setIfInBounds_toArray, List.set_cons_zero, List.set_cons_succ]
            refine wpAnyH_take (i := 5) (v := ?v5) rfl (by kernel_rfl) (by kernel_rfl) (by kernel_rfl) (fun _ _ _ h => h) (Or.inl ⟨by rfl, ?hy5⟩) (by assumption) ?rest5
            case hy5 => (intro W hSW; go_simp; try with_reducible rfl)
            simp only [Act.put, List.getElem_toArray, List.getElem_cons_zero, List.getElem_cons_succ, List.setIfInBounds_toArray, List.set_cons_zero, List.set_cons_succ]
            refine wpAnyH_take (i := 6) (v := .agg px.toArray) rfl (by kernel_rfl) (by kernel_rfl) (by kernel_rfl) (fun _ _ _ h => h) (yieldsIf_load_mid (by rfl) 93 (.tmp 59) rfl wr.heap.size 1 rfl px _ (fun _ h => h) Yba.underlying93 rfl hi93') (by assumption) ?_
            simp only [Act.put, List.getElem_toArray, List.getElem_cons_zero, List.getElem_cons_succ, List.setIfInBounds_toArray, List.set_cons_zero, List.set_cons_succ]
            refine wpAnyH_ready (rs := [4, 7]) (by kernel_rfl) (by simp) ?_
            refine AllReadyH.cons rfl (fun K hK => ?_) (AllReadyH.cons rfl (fun K hK => ?_) AllReadyH.nil)
            · try simp only [List.getElem_toArray, List.getElem_cons_zero, List.getElem_cons_succ]
              go_simp
              refine hK.out _ _ (by assumption) (fun hHeld => ?_)
              clear hK K
              try simp only [Act.put, List.getElem_toArray, List.getElem_cons_zero, List.getElem_cons_succ, List.setIfInBounds_toArray, List.set_cons_zero, List.set_cons_succ]
              refine wpAnyH_ready (rs := [7]) (by kernel_rfl) (by simp) ?_
              refine AllReadyH.cons rfl (fun K hK => ?_) AllReadyH.nil
              try simp only [List.getElem_toArray, List.getElem_cons_zero, List.getElem_cons_succ]
              go_simp
              refine hK.out _ _ ((World.rangeAt_drew _ _ _ _).2 (World.rangeAt_alloc hS1 _)) (fun hHeld => ?_)
              clear hK K
              try simp only [Act.put, List.getElem_toArray, List.getElem_cons_zero, List.getElem_cons_succ, List.setIfInBounds_toArray, List.set_cons_zero, List.set_cons_succ]
              refine wpAnyH_ready (rs := [8]) (by kernel_rfl) (by simp) ?_
              refine AllReadyH.cons rfl (fun K hK => ?_) AllReadyH.nil
              try simp only [List.getElem_toArray, List.getElem_cons_zero, List.getElem_cons_succ]
              rw [if_pos (by rfl)]
              refine wp_append_lies _ (.tmp 58) (.tmp 61) 99 rfl (w.heap.size + 1) 93 i93 _ 20 64 Yba.underlying99 hi93 hz93 hs93 hb93 rfl (by omega) pv j _ rfl ((HO2.out.alloc _).drew) ⟨w1.heap.size, 0, none⟩ 1 1 px rfl (by rw [hpl]) (World.news_of_block (cs := px.toArray) (t := 93) (fr := (0, 0)) (heap_alloc_new w1 _)) hpo (by omega) (by unfold maxLen; omega) (by omega) (by have hws := HWS.out; simp; omega) (w1.heap.size + 1) (by simp) ?_
              intro gg cap2 w2 hown2 hgrow hat hlt
              obtain ⟨hR2, cr2, fr2⟩ := HF.out _ w2 hgrow
              have HR2 : Hid _ := hR2
              clear hR2
              refine hK.out _ _ (HKg.out _ _ ((World.rangeAt_drew _ _ _ _).2 (World.rangeAt_alloc hS1 _)) hgrow) (fun hHeld => ?_)
              clear hK K
              try simp only [Act.put, List.getElem_toArray, List.getElem_cons_zero, List.getElem_cons_succ, List.setIfInBounds_toArray, List.set_cons_zero, List.set_cons_succ]
              refine wpAnyH_take (i := 9) (v := ?va9) rfl (by kernel_rfl) (by kernel_rfl) (by kernel_rfl) (fun _ _ _ h => h) (Or.inl ⟨by rfl, ?hya9⟩) (by assumption) ?resta9
              case hya9 => (intro W hSW; go_simp; try with_reducible rfl)
              try simp only [Act.put, List.getElem_toArray, List.getElem_cons_zero, List.getElem_cons_succ, List.setIfInBounds_toArray, List.set_cons_zero, List.set_cons_succ]
              refine wpAnyH_take (i := 10) (v := ?va10) rfl (by kernel_rfl) (by kernel_rfl) (by kernel_rfl) (fun _ _ _ h => h) (Or.inl ⟨by rfl, ?hya10⟩) (by assumption) ?resta10
              case hya10 => (intro W hSW; go_simp; try with_reducible rfl)
              try simp only [Act.put, List.getElem_toArray, List.getElem_cons_zero, List.getElem_cons_succ, List.setIfInBounds_toArray, List.set_cons_zero, List.set_cons_succ]
              refine wpAnyH_ready (rs := [11]) (by kernel_rfl) (by simp) ?_
              refine AllReadyH.cons rfl (fun K hK => ?_) AllReadyH.nil
              try simp only [List.getElem_toArray, List.getElem_cons_zero, List.getElem_cons_succ]
              go_simp
              refine hK.out _ _ (HKs.out _ _ (by assumption)) (fun _ => ?_)
              clear hK K
              refine wpAnyH_done (by kernel_rfl) ?_ _
              refine NoPanic.normal ?_
              have HN2 := H2'.out.next HX.out HG1.out HWS.out hgrow (by rw [← HPR.out]; exact hown2) hat HR2.out
              have HN : Hid _ := HN2
              clear HN2 hown2 hgrow
              go_wp2
              go_roundw
              case rel => exact ⟨j + 1, _, by omega, by go_num, HN.out⟩
              case measure => simp [intOf]; omega
            · try simp only [List.getElem_toArray, List.getElem_cons_zero, List.getElem_cons_succ]
              go_simp
              refine hK.out _ _ ((World.rangeAt_drew _ _ _ _).2 (World.rangeAt_alloc hS1 _)) (fun hHeld => ?_)
              clear hK K
              try simp only [Act.put, List.getElem_toArray, List.getElem_cons_zero, List.getElem_cons_succ, List.setIfInBounds_toArray, List.set_cons_zero, List.set_cons_succ]
              refine wpAnyH_ready (rs := [4]) (by kernel_rfl) (by simp) ?_
              refine AllReadyH.cons rfl (fun K hK => ?_) AllReadyH.nil
              try simp only [List.getElem_toArray, List.getElem_cons_zero, List.getElem_cons_succ]
              go_simp
              refine hK.out _ _ (by assumption) (fun hHeld => ?_)
              clear hK K
              try simp only [Act.put, List.getElem_toArray, List.getElem_cons_zero, List.getElem_cons_succ, List.setIfInBounds_toArray, List.set_cons_zero, List.set_cons_succ]
              refine wpAnyH_ready (rs := [8]) (by kernel_rfl) (by simp) ?_
              refine AllReadyH.cons rfl (fun K hK => ?_) AllReadyH.nil
              try simp only [List.getElem_toArray, List.getElem_cons_zero, List.getElem_cons_succ]
              rw [if_pos (by rfl)]
              refine wp_append_lies _ (.tmp 58) (.tmp 61) 99 rfl (w.heap.size + 1) 93 i93 _ 20 64 Yba.underlying99 hi93 hz93 hs93 hb93 rfl (by omega) pv j _ rfl ((HO2.out.alloc _).drew) ⟨w1.heap.size, 0, none⟩ 1 1 px rfl (by rw [hpl]) (World.news_of_block (cs := px.toArray) (t := 93) (fr := (0, 0)) (heap_alloc_new w1 _)) hpo (by omega) (by unfold maxLen; omega) (by omega) (by have hws := HWS.out; simp; omega) (w1.heap.size + 1) (by simp) ?_
              intro gg cap2 w2 hown2 hgrow hat hlt
              obtain ⟨hR2, cr2, fr2⟩ := HF.out _ w2 hgrow
              have HR2 : Hid _ := hR2
              clear hR2
              refine hK.out _ _ (HKg.out _ _ ((World.rangeAt_drew _ _ _ _).2 (World.rangeAt_alloc hS1 _)) hgrow) (fun hHeld => ?_)
              clear hK K
              try simp only [Act.put, List.getElem_toArray, List.getElem_cons_zero, List.getElem_cons_succ, List.setIfInBounds_toArray, List.set_cons_zero, List.set_cons_succ]
              refine wpAnyH_take (i := 9) (v := ?vb9) rfl (by kernel_rfl) (by kernel_rfl) (by kernel_rfl) (fun _ _ _ h => h) (Or.inl ⟨by rfl, ?hyb9⟩) (by assumption) ?restb9
              case hyb9 => (intro W hSW; go_simp; try with_reducible rfl)
              try simp only [Act.put, List.getElem_toArray, List.getElem_cons_zero, List.getElem_cons_succ, List.setIfInBounds_toArray, List.set_cons_zero, List.set_cons_succ]
              refine wpAnyH_take (i := 10) (v := ?vb10) rfl (by kernel_rfl) (by kernel_rfl) (by kernel_rfl) (fun _ _ _ h => h) (Or.inl ⟨by rfl, ?hyb10⟩) (by assumption) ?restb10
              case hyb10 => (intro W hSW; go_simp; try with_reducible rfl)
              try simp only [Act.put, List.getElem_toArray, List.getElem_cons_zero, List.getElem_cons_succ, List.setIfInBounds_toArray, List.set_cons_zero, List.set_cons_succ]
              refine wpAnyH_ready (rs := [11]) (by kernel_rfl) (by simp) ?_
              refine AllReadyH.cons rfl (fun K hK => ?_) AllReadyH.nil
              try simp only [List.getElem_toArray, List.getElem_cons_zero, List.getElem_cons_succ]
              go_simp
              refine hK.out _ _ (HKs.out _ _ (by assumption)) (fun _ => ?_)
              clear hK K
              refine wpAnyH_done (by kernel_rfl) ?_ _
              refine NoPanic.normal ?_
              have HN2 := H2'.out.next HX.out HG1.out HWS.out hgrow (by rw [← HPR.out]; exact hown2) hat HR2.out
              have HN : Hid _ := HN2
              clear HN2 hown2 hgrow
              go_wp2
              go_roundw
              case rel => exact ⟨j + 1, _, by omega, by go_num, HN.out⟩
              case measure => simp [intOf]; omega
          · obtain rfl : j = N := by omega
            go_wp2
            go_ret
            exact ⟨rfl, ys, pv, HP.out, HA.out, H2'.out.r, by have := H2'.out.own2; rwa [List.take_of_length_le (by rw [HY.out]; exact Nat.le_refl _)] at this, H2'.out.bel⟩
end Go.Proofs.Ybulksgi
