import Derived.Test.YbulksgiInv
/-! LawS0931CTally. -/
namespace Go.Proofs.Ybulksgi
open Go.RowKit

/-- The workers' plain data, as they came in. -/
structure Inp (w : World) (wa : Option Addr) (n : Nat) (E U : Nat → Int) (fa : Nat → Option Addr) (fc : Nat → Nat) (fs : Nat → List Int) : Prop where
  at0 : 0 < n → ∃ b o, wa = some ⟨b, o, none⟩ ∧ ∀ i, i < n → w.cell? ⟨b, o + i * 3, none⟩ = some (.int .i64 (E i)) ∧ w.cell? ⟨b, o + i * 3 + 1, none⟩ = some (.int .i64 (U i)) ∧ w.cell? ⟨b, o + i * 3 + 2, none⟩ = some (.slice (fa i) (fs i).length (fc i))
  at1 : ∀ i, i < n → 0 < (fs i).length → ∃ b o, fa i = some ⟨b, o, none⟩ ∧ ∀ j z, (fs i)[j]? = some z → w.cell? ⟨b, o + j, none⟩ = some (.int .i64 z)
  rng : ∀ i, i < n → ∀ z ∈ fs i, -9223372036854775808 ≤ z ∧ z < 9223372036854775808

/-- The renamed files, as they came in. -/
def Ren (w : World) (ra : Option Addr) (rl : Nat) : Prop :=
  0 < rl → ∃ b o, ra = some ⟨b, o, none⟩ ∧ ∀ i, i < rl → ∃ (d : Int) (s t : ByteArray), w.cell? ⟨b, o + i * 3, none⟩ = some (.int .u32 d) ∧ w.cell? ⟨b, o + i * 3 + 1, none⟩ = some (.string s) ∧ w.cell? ⟨b, o + i * 3 + 2, none⟩ = some (.string t)

theorem neq103 (W : World) (d : Int) (s t : ByteArray) : (binOp .neq 103 (.agg #[.int .u32 d, .string s, .string t]) (.agg #[.int .u32 d, .string s, .string t])).run Yba.prog W = .ok (.bool false) W := by
  have u54 := Yba.underlying54
  have u9 := Yba.underlying9
  have hS : Yba.prog.underlying 103 = some (.struct (Yba.prog.fieldsOf 103)) := by kernel_rfl
  have hp : Yba.prog.stoodInHeld 103 = false := by kernel_rfl
  rw [run_neq_struct, show (10000 : Nat) = 9999 + 1 from rfl, run_equalIn_agg W 9999 103 _ _ hS hp]
  simp only [Program.fieldsOf, Yba.underlying103]
  go_simp

theorem drewN_two (w : World) (a b : Nat) : (w.drewN a).drewN b = w.drewN (a + b) := by simp [World.drewN, Nat.add_assoc]
theorem below_drewN {B : Nat} {w w' : World} (h : Below B w w') : ∀ n, Below B w (w'.drewN n)
  | 0 => h
  | n + 1 => (below_drewN h n).drew
theorem own_shape' {w : World} {B e s n : Nat} {v : Value} {l : List Value} (h : w.ownsRow B e s v n l) : ∃ b c, v = .slice b n c ∧ n ≤ c ∧ (0 < n → ∃ g, b = some ⟨g, 0, none⟩ ∧ B ≤ g ∧ g < w.heap.size) := by
  rcases h.2 with ⟨rfl, rfl⟩ | ⟨g, cap, cur, rfl, hb, hg, hc, _⟩
  · exact ⟨none, 0, rfl, Nat.le_refl _, fun h => absurd h (by omega)⟩
  · exact ⟨_, _, rfl, hc, fun _ => ⟨g, rfl, hb, (Array.getElem?_eq_some_iff.1 hg).1⟩⟩
theorem info4 : (Yba.prog.info? 4).map (fun i => (i.zero, i.size, i.bytes)) = some (some (.bool false), 1, 1) := by kernel_rfl

/-- The places seen so far. -/
def Seen (wr : World) (S N j : Nat) (ys : List (Int × Nat)) : Prop :=
  ∃ sl : List Bool, wr.heap[S]? = some (.cells (sl.map Value.bool).toArray 4 (0, 0)) ∧ sl.length = N ∧ ∀ g, sl[g]? = some true → ∃ i x, i < j ∧ ys[i]? = some x ∧ x.2 = g
/-- The file before. -/
def Prev (j : Nat) (ys : List (Int × Nat)) (z : Int) : Prop := 0 < j → ∃ x, ys[j - 1]? = some x ∧ z = x.1

theorem tag_snd : ∀ (l : List Int) (s : Nat), (tag s l).map Prod.snd = List.range' s l.length
  | [], _ => rfl
  | f :: r, s => by simp [tag, tag_snd r (s + 1), List.range'_succ]

theorem tag_of {ys : List (Int × Nat)} {fl : List Int} (h : ys.Perm (tag 0 fl)) {j : Nat} {x : Int × Nat} (hx : ys[j]? = some x) : fl[x.2]? = some x.1 := by
  have hm : x ∈ tag 0 fl := h.mem_iff.1 (List.mem_of_getElem? hx)
  obtain ⟨i, hi⟩ := List.mem_iff_getElem?.1 hm
  rw [tag_get] at hi
  cases hf : fl[i]? with
  | none => simp [hf] at hi
  | some f =>
    simp [hf] at hi
    subst hi
    simpa using hf

theorem snd_inj {ys : List (Int × Nat)} {fl : List Int} (h : ys.Perm (tag 0 fl)) {i j : Nat} {x y : Int × Nat} (hx : ys[i]? = some x) (hy : ys[j]? = some y) (e : x.2 = y.2) : i = j := by
  have hn : (ys.map Prod.snd).Nodup := by
    rw [(h.map Prod.snd).nodup_iff, tag_snd]; exact List.nodup_range'
  have hi : i < (ys.map Prod.snd).length := by simpa using (List.getElem?_eq_some_iff.1 hx).1
  refine (List.getElem?_inj hi hn).1 ?_
  simp [hx, hy, e]

theorem Seen.next {w1 : World} {S N j : Nat} {ys : List (Int × Nat)} {x : Int × Nat} (h : Seen w1 S N j ys) (hx : ys[j]? = some x) : Seen (w1.setCell ⟨S, x.2, none⟩ (.bool true)) S N (j + 1) ys := by
  obtain ⟨sl, h1, h2, h3⟩ := h
  refine ⟨sl.set x.2 true, ?_, by simpa using h2, fun g hg => ?_⟩
  · rw [heap_set h1]; simp [List.map_set]
  · by_cases e : x.2 = g
    · exact ⟨j, x, by omega, hx, e⟩
    · rw [List.getElem?_set_ne e] at hg
      obtain ⟨i, y, a, b, c⟩ := h3 g hg
      exact ⟨i, y, by omega, b, c⟩

theorem Seen.below {w1 w2 : World} {S N j : Nat} {ys : List (Int × Nat)} (h : Seen w1 S N j ys) (hb : Below w1.heap.size w1 w2) : Seen w2 S N j ys := by
  obtain ⟨sl, h1, h2, h3⟩ := h
  exact ⟨sl, (hb.block S (Array.getElem?_eq_some_iff.1 h1).1).trans h1, h2, h3⟩

theorem Seen.no {w1 : World} {S N j : Nat} {ys : List (Int × Nat)} {fl : List Int} (h : Seen w1 S N j ys) (hp : ys.Perm (tag 0 fl)) {x : Int × Nat} (hx : ys[j]? = some x) (hN : x.2 < N) : w1.cell? ⟨S, x.2, none⟩ = some (.bool false) ∧ w1.frozen? ⟨S, x.2, none⟩ = false := by
  obtain ⟨sl, h1, h2, h3⟩ := h
  refine ⟨?_, by simp [World.frozen?, h1]⟩
  rw [cell_of_row _ _ _ _ _ _ h1]
  have hg : x.2 < sl.length := by omega
  have hv : sl[x.2]? = some sl[x.2] := List.getElem?_eq_getElem hg
  cases hb : sl[x.2] with
  | false => simp [hv, hb]
  | true =>
    rw [hb] at hv
    obtain ⟨i, y, a, b, c⟩ := h3 _ hv
    have := snd_inj hp b hx c
    omega

theorem pr_kb (x : Int × Nat) (i : Nat) (v : Value) (h : (kb (fN x.1) x.2)[i]? = some v) : (pr x)[2 + i]? = some v := by
  have hi : i < 16 := by rw [← kb_length (fN x.1) x.2]; exact (List.getElem?_eq_some_iff.1 h).1
  unfold pr
  rw [List.append_assoc, List.getElem?_append_right (by simp), List.getElem?_append_left (by simp [kb_length]; omega)]
  simpa using h

/-- How many files the first k workers have. -/
def tot (fs : Nat → List Int) : Nat → Nat
  | 0 => 0
  | k + 1 => tot fs k + (fs k).length

theorem tot_le (fs : Nat → List Int) : ∀ {t k : Nat}, t < k → tot fs t + (fs t).length ≤ tot fs k
  | t, 0, h => absurd h (by omega)
  | t, k + 1, h => by
    by_cases e : t = k
    · subst e; exact Nat.le_refl _
    · have := tot_le fs (t := t) (k := k) (by omega)
      show _ ≤ tot fs k + (fs k).length
      omega

/-- The workers filled, the first a of them with their counts, m files so far. -/
def Fill (w wr : World) (X W F n N a : Nat) (E U : Nat → Int) (m : Nat) : Prop :=
  ∃ q xs cur fl, Inv w wr X W F n N a a E U q xs cur fl fl ∧ fl.length = m ∧ ∀ z ∈ fl, -9223372036854775808 ≤ z ∧ z < 9223372036854775808

theorem list16 (l : List Value) (h : l.length = 16) : ∃ y0 y1 y2 y3 y4 y5 y6 y7 y8 y9 y10 y11 y12 y13 y14 y15, l = [y0, y1, y2, y3, y4, y5, y6, y7, y8, y9, y10, y11, y12, y13, y14, y15] := by
  match l, h with
  | [y0, y1, y2, y3, y4, y5, y6, y7, y8, y9, y10, y11, y12, y13, y14, y15], _ => exact ⟨_, _, _, _, _, _, _, _, _, _, _, _, _, _, _, _, rfl⟩

theorem info3 : (Yba.prog.info? 3).map (fun i => (i.zero, i.size, i.bytes)) = some (some (.int .i64 0), 1, 8) := by kernel_rfl

set_option maxRecDepth 100000 in
theorem law_long (wa : Option Addr) (n wc : Nat) (ra : Option Addr) (rl rc : Nat) (w : World) (hn : 256 < n) :
    Calls Yba.prog 3 #[.slice wa n wc, .slice ra rl rc] w fun e w' => e = .returned (.bool true) ∧ Below w.heap.size w w' := by
  have h : (256 : Int) < (n : Int) := by omega
  go_enter Yba.func3, Yba.ntmps3
  go_wp2
  go_ret
  exact ⟨rfl, Below.refl _ _⟩

set_option linter.unusedSimpArgs false in
set_option linter.unusedVariables false in
set_option maxHeartbeats 4000000 in
set_option maxRecDepth 100000 in
theorem law3 (wa : Option Addr) (n wc : Nat) (ra : Option Addr) (rl rc : Nat) (E U : Nat → Int) (fa : Nat → Option Addr) (fc : Nat → Nat) (fs : Nat → List Int) (w : World) (H : Inp w wa n E U fa fc fs) (HR0 : Ren w ra rl) (hrl : rl ≤ maxLen) (hn : n ≤ 256) :
    Calls Yba.prog 3 #[.slice wa n wc, .slice ra rl rc] w fun e w' => e = .returned (.bool true) ∧ Below w.heap.size w w' := by
  obtain ⟨i86, c86, K⟩ := wk
  have HK : Hid (Wk i86 c86) := K
  have HI : Hid (Inp w wa n E U fa fc fs) := H
  have HRen : Hid (Ren w ra rl) := HR0
  have hrl' : rl ≤ 9223372036854775807 := by unfold maxLen at hrl; omega
  clear HR0 hrl
  have hnI : ¬ (256 : Int) < (n : Int) := by omega
  clear K H
  go_enter Yba.func3, Yba.ntmps3
  go_wp2
  go_loopw [5, 31] (fun t i wr => ∃ k : Nat, k ≤ n ∧ i = .int .i64 k ∧ t = .int .i64 (tot fs k) ∧ tot fs k ≤ 4096 ∧ (∀ i, i < k → (fs i).length ≤ 1024) ∧ Below w.heap.size w wr) (fun _ i _ => n - (intOf i).toNat)
  case atStart => exact ⟨0, Nat.zero_le _, rfl, rfl, Nat.zero_le _, fun i h => absurd h (by omega), Below.refl _ _⟩
  case round =>
    obtain ⟨k, hk, rfl, rfl, ht, hl, hnx⟩ := hrel
    have HL : Hid (∀ i, i < k → (fs i).length ≤ 1024) := hl
    clear hl
    by_cases hkn : k < n
    · obtain ⟨b, o, rfl, hc⟩ := HI.out.at0 (by omega)
      obtain ⟨c1, c2, c3⟩ := hc k hkn
      have hbl : b < w.heap.size := World.block_lt_of_cell? _ _ c1
      have d1 : wr.cell? ⟨b, o + k * 3, none⟩ = _ := (hnx.cell (p := ⟨b, o + k * 3, none⟩) hbl).trans c1
      have d2 : wr.cell? ⟨b, o + k * 3 + 1, none⟩ = _ := (hnx.cell (p := ⟨b, o + k * 3 + 1, none⟩) hbl).trans c2
      have d3 : wr.cell? ⟨b, o + k * 3 + 2, none⟩ = _ := (hnx.cell (p := ⟨b, o + k * 3 + 2, none⟩) hbl).trans c3
      clear hc c1 c2 c3
      have HT : Hid (tot fs (k + 1) = tot fs k + (fs k).length) := show _ = _ from rfl
      have HLk : Hid ((fs k).length = (fs k).length) := show _ = _ from rfl
      generalize hm : (fs k).length = m at d3 HT
      generalize tot fs k = tk at *
      by_cases hm1 : m ≤ 1024
      · have hmI : ¬ (1024 : Int) < (m : Int) := by omega
        by_cases hm2 : tk + m ≤ 4096
        · have hm2I : ¬ (4096 : Int) < (tk : Int) + (m : Int) := by omega
          go_wp2
          go_roundw
          case rel =>
            refine ⟨k + 1, by omega, by go_num, by rw [HT.out]; go_num, by rw [HT.out]; exact hm2, fun i hi => ?_, ?_⟩
            · by_cases e : i = k
              · subst e; omega
              · exact HL.out i (by omega)
            · exact hnx.alloc hnx.size _
          case measure => simp [intOf]; omega
        · have hm2I : (4096 : Int) < (tk : Int) + (m : Int) := by omega
          go_wp2
          go_ret
          exact ⟨rfl, hnx.alloc hnx.size _⟩
      · have hmI : (1024 : Int) < (m : Int) := by omega
        go_wp2
        go_ret
        exact ⟨rfl, hnx.alloc hnx.size _⟩
    · obtain rfl : k = n := by omega
      obtain ⟨i3, hi3, hz3, hs3, hb3⟩ := info_parts info3
      have hi86 := HK.out.info
      have hz86 := HK.out.zero
      have hs86 := HK.out.size
      have hb86 := HK.out.bytes
      obtain ⟨N, hN⟩ : ∃ N, N = tot fs k := ⟨_, rfl⟩
      rw [← hN] at ht ⊢
      have HN : Hid (N = tot fs k) := hN
      have HB0 : Hid (Below w.heap.size w wr) := hnx
      have hsz := hnx.size
      clear hN hnx
      go_wp2_with (at_make; refine wpList_make_full _ rfl _ _ 31 rfl w.heap.size 86 i86 (.agg c86) 1824 Yba.underlying31 hi86 hz86 hs86 _ _ _ _ k rfl rfl rfl rfl (by rw [hb86]; omega) (by unfold maxLen; omega) (by simp; omega) ?_)
      intro w2 own2 g2
      have hX2 : w2.heap[wr.heap.size]? = some (.cells #[.pointer none, .string ⟨#[]⟩, .pointer none, .slice none 0 0, .slice none 0 0] 33 (0, 0)) := by
        rw [g2.block _ (by simp) (by simp)]; exact heap_alloc_new _ _
      have x4 : w2.cell? ⟨wr.heap.size, 4, none⟩ = some (.slice none 0 0) := by rw [cell_of_row _ _ _ _ _ _ hX2]; rfl
      have f4 : w2.frozen? ⟨wr.heap.size, 4, none⟩ = false := by simp [World.frozen?, hX2]
      have HO2 : Hid _ := own2
      have HG2 : Hid _ := g2
      have hs2 : w.heap.size ≤ w2.heap.size := by have := g2.size; simp at this; omega
      clear own2 g2 hX2
      go_wp2_with (at_make; refine wpList_make_own _ rfl _ _ 24 rfl w.heap.size 3 i3 (.int .i64 0) 1 Yba.underlying24 hi3 hz3 hs3 _ _ _ N rfl rfl rfl (by rw [hb3]; omega) (by unfold maxLen; omega) (by simp; omega) ?_)
      intro w4 own4 g4
      have HV : Hid (Fill w w4 wr.heap.size (wr.heap.size + 1) w2.heap.size k N 0 E U 0) :=
        ⟨_, _, _, [], Inv.start HK.out HB0.out HO2.out HG2.out own4 g4 rfl, rfl, fun z hz => by cases hz⟩
      have hX1 : wr.heap.size ≠ wr.heap.size + 1 := by omega
      clear own4 g4 HO2 HG2 x4 f4 hs2 HB0 hsz HK hi86 hz86 hs86 hb86
      go_wp2
      generalize wr.heap.size = X at *
      generalize hWe : X + 1 = W at *
      generalize w2.heap.size = F at *
      go_loopw [9, 10, 11, 59] (fun fv sE sU i wr => ∃ t : Nat, t ≤ k ∧ i = .int .i64 t ∧ fv = .slice (some ⟨F, 0, none⟩) (tot fs t) N ∧ sE = .int .i64 (sumW E t) ∧ sU = .int .i64 (sumW U t) ∧ Fill w wr X W F k N t E U (tot fs t)) (fun _ _ _ i _ => k - (intOf i).toNat)
      case atStart => exact ⟨0, Nat.zero_le _, rfl, rfl, rfl, rfl, HV.out⟩
      case round =>
        obtain ⟨t, htk, rfl, rfl, rfl, rfl, hfill⟩ := hrel
        obtain ⟨q, xs, cur, fl, hinv, hfl, hrg⟩ := hfill
        have HV' : Hid (Inv w wr X W F k N t t E U q xs cur fl fl) := hinv
        have HFL : Hid (fl.length = tot fs t) := hfl
        have HRG : Hid (∀ z ∈ fl, -9223372036854775808 ≤ z ∧ z < 9223372036854775808) := hrg
        clear hinv hfl hrg HV
        by_cases htn : t < k
        · obtain ⟨b, o, rfl, hc⟩ := HI.out.at0 (by omega)
          obtain ⟨c1, c2, c3⟩ := hc t htn
          have hnx := HV'.out.bel
          have hbl : b < w.heap.size := World.block_lt_of_cell? _ _ c1
          have d1 : wr.cell? ⟨b, o + t * 3, none⟩ = _ := (hnx.cell (p := ⟨b, o + t * 3, none⟩) hbl).trans c1
          have d2 : wr.cell? ⟨b, o + t * 3 + 1, none⟩ = _ := (hnx.cell (p := ⟨b, o + t * 3 + 1, none⟩) hbl).trans c2
          have d3 : wr.cell? ⟨b, o + t * 3 + 2, none⟩ = _ := (hnx.cell (p := ⟨b, o + t * 3 + 2, none⟩) hbl).trans c3
          have HBX : Hid (Below w.heap.size w wr) := hnx
          clear hc c1 c2 c3 hnx
          go_wp2
          obtain ⟨w1, hw1⟩ : ∃ w1 : World, w1 = wr.alloc (.cells #[.int .i64 (E t), .int .i64 (U t), .slice (fa t) (fs t).length (fc t)] 26) := ⟨_, rfl⟩
          rw [← hw1]
          have HV1 : Hid (Inv w w1 X W F k N t t E U q xs cur fl fl) := HV'.out.grown (by rw [hw1]; exact World.grownBy_alloc _ _ _)
          have hT1 : w1.heap[wr.heap.size]? = some (.cells #[.int .i64 (E t), .int .i64 (U t), .slice (fa t) (fs t).length (fc t)] 26 (0, 0)) := by rw [hw1]; exact heap_alloc_new _ _
          have hXl := HV'.out.xlt
          have hWl := HV'.out.wlt
          have hXW := HV1.out.xw
          have hTW : wr.heap.size ≠ W := by omega
          have cx : w1.cell? ⟨X, 4, none⟩ = some (.slice (some ⟨W, 0, none⟩) k k) := by rw [cell_of_row _ _ _ _ _ _ HV1.out.x]; rfl
          have hcl : (t + 1) * 1824 ≤ cur.length := by rw [HV1.out.len]; exact Nat.mul_le_mul_right _ htn
          obtain ⟨v1, e1⟩ : ∃ v1, w1.cell? ⟨W, t * 1824 + 1819, none⟩ = some v1 := ⟨_, by rw [cell_of_row _ _ _ _ _ _ HV1.out.row]; exact Array.getElem?_eq_getElem (by simp; omega)⟩
          obtain ⟨v2, e2⟩ : ∃ v2, w1.cell? ⟨W, t * 1824 + 1820, none⟩ = some v2 := ⟨_, by rw [cell_of_row _ _ _ _ _ _ HV1.out.row]; exact Array.getElem?_eq_getElem (by simp; omega)⟩
          have g1 : w1.frozen? ⟨W, t * 1824 + 1819, none⟩ = false := by simp [World.frozen?, HV1.out.row]
          have g2 : w1.frozen? ⟨W, t * 1824 + 1820, none⟩ = false := by simp [World.frozen?, HV1.out.row]
          have t0 : w1.cell? ⟨wr.heap.size, 0, none⟩ = some (.int .i64 (E t)) := by rw [cell_of_row _ _ _ _ _ _ hT1]; rfl
          have t1 : w1.cell? ⟨wr.heap.size, 1, none⟩ = some (.int .i64 (U t)) := by rw [cell_of_row _ _ _ _ _ _ hT1]; rfl
          have t2 : w1.cell? ⟨wr.heap.size, 2, none⟩ = some (.slice (fa t) (fs t).length (fc t)) := by rw [cell_of_row _ _ _ _ _ _ hT1]; rfl
          have HSE : Hid (sumW E (t + 1) = wrap64 (sumW E t + E t)) := show _ = _ from rfl
          have HSU : Hid (sumW U (t + 1) = wrap64 (sumW U t + U t)) := show _ = _ from rfl
          have HT : Hid (tot fs (t + 1) = tot fs t + (fs t).length) := show _ = _ from rfl
          have HW1s : Hid (wr.heap.size < w1.heap.size) := (Array.getElem?_eq_some_iff.1 hT1).1
          have HVE : Hid (Inv w (((w1.setCell ⟨W, t * 1824 + 1819, none⟩ (.int .i64 (E t))).setCell ⟨W, t * 1824 + 1820, none⟩ (.int .i64 (U t))).drew.drew) X W F k N (t + 1) (t + 1) E U q xs _ fl fl) := (((HV1.out.setE htn).setU htn).grown (grown_drew _)).grown (grown_drew _)
          have HTC : Hid (∀ j v, w1.cell? ⟨wr.heap.size, j, none⟩ = some v → (((w1.setCell ⟨W, t * 1824 + 1819, none⟩ (.int .i64 (E t))).setCell ⟨W, t * 1824 + 1820, none⟩ (.int .i64 (U t))).drew.drew).cell? ⟨wr.heap.size, j, none⟩ = some v) := fun j v hv => by
            have h1 : (((w1.setCell ⟨W, t * 1824 + 1819, none⟩ (.int .i64 (E t))).setCell ⟨W, t * 1824 + 1820, none⟩ (.int .i64 (U t))).drew.drew).heap[wr.heap.size]? = w1.heap[wr.heap.size]? := (heap_set_ne (Ne.symm hTW) _).trans (heap_set_ne (Ne.symm hTW) _)
            rw [World.cell?_of_block h1]; exact hv
          clear hcl hT1 hw1 d1 d2 d3 hbl
          generalize hmm : (fs t).length = m at *
          go_region
          go_wp2
          go_region
          obtain ⟨wB, hwB⟩ : ∃ wB : World, wB = ((w1.setCell ⟨W, t * 1824 + 1819, none⟩ (.int .i64 (E t))).setCell ⟨W, t * 1824 + 1820, none⟩ (.int .i64 (U t))).drew.drew := ⟨_, rfl⟩
          rw [← hwB] at HVE HTC ⊢
          have s0 := HTC.out 0 _ t0
          have s1 := HTC.out 1 _ t1
          have s2 := HTC.out 2 _ t2
          have HM : Hid (tot fs t + m ≤ N) := by show _ ≤ _; rw [HN.out, ← hmm]; exact tot_le fs htn
          have HMM : Hid ((fs t).length = m) := hmm
          have HV3 : Hid (Fill w wB X W F k N (t + 1) E U (tot fs t)) := ⟨_, _, _, fl, HVE.out, HFL.out, HRG.out⟩
          have hbT : wr.heap.size < wB.heap.size := by rw [hwB]; simp; exact HW1s.out
          have hm1 : m ≤ 1024 := by rw [← hmm]; exact HL.out t htn
          clear hwB HTC HVE t0 t1 t2 e1 e2 g1 g2 cx hmm HV1 HV' HFL HRG HW1s hTW hXl hWl v1 v2
          generalize tot fs t = T0 at *
          generalize sumW E t = sE at *
          generalize sumW U t = sU at *
          go_wp2
          go_loopw [9, 93] (fun fv i wr => ∃ j : Nat, j ≤ m ∧ i = .int .i64 j ∧ fv = .slice (some ⟨F, 0, none⟩) (T0 + j) N ∧ Fill w wr X W F k N (t + 1) E U (T0 + j)) (fun _ i _ => m - (intOf i).toNat)
          case atStart => exact ⟨0, Nat.zero_le _, rfl, rfl, HV3.out⟩
          case round =>
            obtain ⟨j, hj, rfl, rfl, hfill⟩ := hrel
            have HF3 : Hid (Fill w wr X W F k N (t + 1) E U (T0 + j)) := hfill
            clear hfill HV3
            by_cases hjm : j < m
            · obtain ⟨q3, xs3, cur3, fl3, hinv3, hfl3, hrg3⟩ := HF3.out
              obtain ⟨b2, o2, hfa, hcf⟩ := HI.out.at1 t htn (by rw [HMM.out]; omega)
              obtain ⟨z, hz⟩ : ∃ z, (fs t)[j]? = some z := ⟨_, List.getElem?_eq_getElem (by rw [HMM.out]; exact hjm)⟩
              have cf0 := hcf j z hz
              have HZ : Hid (-9223372036854775808 ≤ z ∧ z < 9223372036854775808) := HI.out.rng t htn z (List.mem_of_getElem? hz)
              have hb2 : b2 < w.heap.size := World.block_lt_of_cell? _ _ cf0
              have cf : wr.cell? ⟨b2, o2 + j, none⟩ = some (.int .i64 z) := (hinv3.bel.cell (p := ⟨b2, o2 + j, none⟩) hb2).trans cf0
              rw [hfa]
              have HV3 : Hid (Inv w wr X W F k N (t + 1) (t + 1) E U q3 xs3 cur3 fl3 fl3) := hinv3
              have HFL3 : Hid (fl3.length = T0 + j) := hfl3
              have HRG3 : Hid (∀ z ∈ fl3, -9223372036854775808 ≤ z ∧ z < 9223372036854775808) := hrg3
              have HOW : Hid (wr.ownsRow w.heap.size 3 1 (.slice (some ⟨F, 0, none⟩) (T0 + j) N) (T0 + j) (fl3.map (Value.int .i64))) := by
                have := hinv3.files; rw [hfl3] at this; exact this
              have hTN : T0 + j + 1 ≤ N := by have := HM.out; omega
              clear hinv3 hfl3 hrg3 hcf hz cf0 hb2 HF3
              go_wp2_with (at_builtin; refine wpList_append_fits _ rfl _ _ 24 rfl w.heap.size 3 i3 1 Yba.underlying24 hi3 hs3 F (T0 + j) N _ rfl (HOW.out.alloc _) ⟨wr.heap.size, 0, none⟩ 1 1 [.int .i64 z] rfl rfl (World.news_of_block (cs := #[.int .i64 z]) (t := 3) (fr := (0, 0)) (heap_alloc_new wr _)) (by intro u hu; simp at hu; subst hu; rfl) hTN ?_)
              intro w5 own5 gr5
              have HV5 : Hid (Inv w w5 X W F k N (t + 1) (t + 1) E U q3 xs3 cur3 (fl3 ++ [z]) fl3) := HV3.out.file (World.grownBy_alloc _ _ _) (by rw [HFL3.out]; exact own5) gr5
              clear own5 gr5 HOW cf HV3
              go_wp2
              obtain ⟨y0, y1, y2, y3, y4, y5, y6, y7, y8, y9, y10, y11, y12, y13, y14, y15, hkb⟩ := list16 (kb (fN z) (T0 + j)) (kb_length _ _)
              have hcon : ∀ Y : World, Calls Yba.prog 4 #[.int .i64 z, .int .i64 ((T0 : Int) + (j : Int))] Y fun e w' => e = .returned (.agg #[y0, y1, y2, y3, y4, y5, y6, y7, y8, y9, y10, y11, y12, y13, y14, y15]) ∧ Below Y.heap.size Y w' := fun Y => by
                have h := key4 (fN z) (T0 + j) (fN_lt z) (by omega) z (fN_wrap z) Y
                rw [hkb, Int.natCast_add] at h
                exact h
              have HEN : Hid (en (z, fl3.length) = [.int .i64 z, .int .i64 0, .string ⟨#[]⟩, y0, y1, y2, y3, y4, y5, y6, y7, y8, y9, y10, y11, y12, y13, y14, y15, .int .u64 0, .string ⟨#[]⟩]) := by
                show en (z, fl3.length) = _
                unfold en pr
                simp only [HFL3.out, hkb]; rfl
              have HOn : Hid (∀ v ∈ [.int .i64 z, .int .i64 0, .string ⟨#[]⟩, y0, y1, y2, y3, y4, y5, y6, y7, y8, y9, y10, y11, y12, y13, y14, y15, .int .u64 0, .string ⟨#[]⟩], Value.oneCell' v = true) := by
                show ∀ v ∈ _, _
                rw [← HEN.out]; exact en_one _
              have HC : Hid (∀ Y : World, w5.grownBy Y none → Y.cell? ⟨X, 4, none⟩ = some (.slice (some ⟨W, 0, none⟩) k k) ∧ Y.cell? ⟨W, t * 1824 + 1821, none⟩ = some (q3 t) ∧ (∀ o : Obj, (Y.alloc o).cell? ⟨X, 4, none⟩ = some (.slice (some ⟨W, 0, none⟩) k k) ∧ (Y.alloc o).cell? ⟨W, t * 1824 + 1821, none⟩ = some (q3 t)) ∧ Y.frozen? ⟨W, t * 1824 + 1821, none⟩ = false) := by
                have main : ∀ Y : World, w5.grownBy Y none → Y.cell? ⟨X, 4, none⟩ = some (.slice (some ⟨W, 0, none⟩) k k) ∧ Y.cell? ⟨W, t * 1824 + 1821, none⟩ = some (q3 t) ∧ Y.frozen? ⟨W, t * 1824 + 1821, none⟩ = false := fun Y hY => by
                  have V := HV5.out.grown hY
                  refine ⟨by rw [cell_of_row _ _ _ _ _ _ V.x]; rfl, by rw [cell_of_row _ _ _ _ _ _ V.row]; simpa using V.p t htn, by simp [World.frozen?, V.row]⟩
                intro Y hY
                obtain ⟨a1, a2, a3⟩ := main Y hY
                exact ⟨a1, a2, fun o => ⟨(main _ (grown_trans hY (World.grownBy_alloc _ o _))).1, (main _ (grown_trans hY (World.grownBy_alloc _ o _))).2.1⟩, a3⟩
              have HC7 : Hid (∀ Y : World, w5.grownBy Y none → ∀ (o : Obj) (w7 : World), (Y.alloc o).grownBy w7 (q3 t).ownBlock → w7.cell? ⟨X, 4, none⟩ = some (.slice (some ⟨W, 0, none⟩) k k) ∧ w7.cell? ⟨W, t * 1824 + 1821, none⟩ = some (q3 t) ∧ w7.frozen? ⟨W, t * 1824 + 1821, none⟩ = false) := by
                intro Y hY o w7 h7
                have V := HV5.out.grown (grown_trans hY (World.grownBy_alloc _ o _))
                have n1 : some X ≠ (q3 t).ownBlock := fun e => (V.ap t htn X e.symm).1 rfl
                have n2 : some W ≠ (q3 t).ownBlock := fun e => (V.ap t htn W e.symm).2.1 rfl
                have r1 := (h7.block _ V.xlt n1).trans V.x
                have r2 := (h7.block _ V.wlt n2).trans V.row
                exact ⟨by rw [cell_of_row _ _ _ _ _ _ r1]; rfl, by rw [cell_of_row _ _ _ _ _ _ r2]; simpa using V.p t htn, by simp [World.frozen?, r2]⟩
              have HCS : Hid (∀ (Y : World) (v : Value), Y.cell? ⟨X, 4, none⟩ = some (.slice (some ⟨W, 0, none⟩) k k) → (Y.setCell ⟨W, t * 1824 + 1821, none⟩ v).cell? ⟨X, 4, none⟩ = some (.slice (some ⟨W, 0, none⟩) k k)) := fun Y v h => by
                rw [World.cell?_of_block (heap_set_ne (Ne.symm HV5.out.xw) v)]; exact h
              have HXL : (xs3 t).length ≤ 4096 := by
                have h1 := drop_le xs3 htn (rfl : (cat xs3 k).length = _)
                rw [HV5.out.all, tag_length, HFL3.out] at h1
                omega
              obtain ⟨cx5, cq5, _, _⟩ := HC.out w5 (World.grownBy.refl _ _)
              obtain ⟨i95, hi95, hz95, hs95, hb95⟩ := info_parts info95
              have hti : (t : Int) < (k : Int) := by omega
              have hti0 : (0 : Int) ≤ (t : Int) := by omega
              clear hkb
              refine wp_region_noPanic ?_
              refine wp_region_held_drew (S := fun w' => w'.cell? ⟨X, 4, none⟩ = some (.slice (some ⟨W, 0, none⟩) k k)) (by kernel_rfl) cx5 (fun hHeld => ?_)
              refine wpAnyH_take (i := 0) (v := ?v0) rfl (by kernel_rfl) (by kernel_rfl) (by kernel_rfl) (fun _ _ _ h => h) (Or.inl ⟨by rfl, ?hy0⟩) (by assumption) ?rest0
              case hy0 => (intro Z hSZ; (try dsimp only at hSZ); go_simp; try with_reducible rfl)
              try simp only [Act.put, List.getElem_toArray, List.getElem_cons_zero, List.getElem_cons_succ, List.setIfInBounds_toArray, List.set_cons_zero, List.set_cons_succ]
              refine wpAnyH_take (i := 1) (v := ?v1) rfl (by kernel_rfl) (by kernel_rfl) (by kernel_rfl) (fun _ _ _ h => h) (Or.inl ⟨by rfl, ?hy1⟩) (by assumption) ?rest1
              case hy1 => (intro Z hSZ; (try dsimp only at hSZ); go_simp; try with_reducible rfl)
              try simp only [Act.put, List.getElem_toArray, List.getElem_cons_zero, List.getElem_cons_succ, List.setIfInBounds_toArray, List.set_cons_zero, List.set_cons_succ]
              refine wpAnyH_take (i := 2) (v := ?v2) rfl (by kernel_rfl) (by kernel_rfl) (by kernel_rfl) (fun _ _ _ h => h) (Or.inl ⟨by rfl, ?hy2⟩) (by assumption) ?rest2
              case hy2 => (intro Z hSZ; (try dsimp only at hSZ); go_simp; try with_reducible rfl)
              try simp only [Act.put, List.getElem_toArray, List.getElem_cons_zero, List.getElem_cons_succ, List.setIfInBounds_toArray, List.set_cons_zero, List.set_cons_succ]
              refine wpAnyH_take (i := 3) (v := ?v3) rfl (by kernel_rfl) (by kernel_rfl) (by kernel_rfl) (fun _ _ _ h => h) (Or.inl ⟨by rfl, ?hy3⟩) (by assumption) ?rest3
              case hy3 => (intro Z hSZ; (try dsimp only at hSZ); go_simp; try with_reducible rfl)
              try simp only [Act.put, List.getElem_toArray, List.getElem_cons_zero, List.getElem_cons_succ, List.setIfInBounds_toArray, List.set_cons_zero, List.set_cons_succ]
              refine wpAnyH_take (i := 4) (v := ?v4) rfl (by kernel_rfl) (by kernel_rfl) (by kernel_rfl) (fun _ _ _ h => h) (Or.inl ⟨by rfl, ?hy4⟩) (by assumption) ?rest4
              case hy4 => (intro Z hSZ; (try dsimp only at hSZ); go_simp; try with_reducible rfl)
              try simp only [Act.put, List.getElem_toArray, List.getElem_cons_zero, List.getElem_cons_succ, List.setIfInBounds_toArray, List.set_cons_zero, List.set_cons_succ]
              refine wpAnyH_take (i := 5) (v := ?v5) rfl (by kernel_rfl) (by kernel_rfl) (by kernel_rfl) (fun _ _ _ h => h) (Or.inl ⟨by rfl, ?hy5⟩) (by assumption) ?rest5
              case hy5 => (intro Z hSZ; (try dsimp only at hSZ); go_simp; try with_reducible rfl)
              try simp only [Act.put, List.getElem_toArray, List.getElem_cons_zero, List.getElem_cons_succ, List.setIfInBounds_toArray, List.set_cons_zero, List.set_cons_succ]
              refine wpAnyH_take (i := 6) (v := ?v6) rfl (by kernel_rfl) (by kernel_rfl) (by kernel_rfl) (fun _ _ _ h => h) (Or.inl ⟨by rfl, ?hy6⟩) (by assumption) ?rest6
              case hy6 => (intro Z hSZ; (try dsimp only at hSZ); go_simp; try with_reducible rfl)
              try simp only [Act.put, List.getElem_toArray, List.getElem_cons_zero, List.getElem_cons_succ, List.setIfInBounds_toArray, List.set_cons_zero, List.set_cons_succ]
              refine wpAnyH_take (i := 7) (v := ?v7) rfl (by kernel_rfl) (by kernel_rfl) (by kernel_rfl) (fun _ _ _ h => h) (Or.inl ⟨by rfl, ?hy7⟩) (by assumption) ?rest7
              case hy7 => (intro Z hSZ; (try dsimp only at hSZ); go_simp; try with_reducible rfl)
              try simp only [Act.put, List.getElem_toArray, List.getElem_cons_zero, List.getElem_cons_succ, List.setIfInBounds_toArray, List.set_cons_zero, List.set_cons_succ]
              refine wpAnyH_take (i := 8) (v := ?v8) rfl (by kernel_rfl) (by kernel_rfl) (by kernel_rfl) (fun _ _ _ h => h) (Or.inl ⟨by rfl, ?hy8⟩) (by assumption) ?rest8
              case hy8 => (intro Z hSZ; (try dsimp only at hSZ); go_simp; try with_reducible rfl)
              try simp only [Act.put, List.getElem_toArray, List.getElem_cons_zero, List.getElem_cons_succ, List.setIfInBounds_toArray, List.set_cons_zero, List.set_cons_succ]
              refine wpAnyH_take (i := 9) (v := ?v9) rfl (by kernel_rfl) (by kernel_rfl) (by kernel_rfl) (fun _ _ _ h => h) (Or.inl ⟨by rfl, ?hy9⟩) (by assumption) ?rest9
              case hy9 => (intro Z hSZ; (try dsimp only at hSZ); go_simp; try with_reducible rfl)
              try simp only [Act.put, List.getElem_toArray, List.getElem_cons_zero, List.getElem_cons_succ, List.setIfInBounds_toArray, List.set_cons_zero, List.set_cons_succ]
              refine wpAnyH_take (i := 10) (v := ?v10) rfl (by kernel_rfl) (by kernel_rfl) (by kernel_rfl) (fun _ _ _ h => h) (Or.inl ⟨by rfl, ?hy10⟩) (by assumption) ?rest10
              case hy10 => (intro Z hSZ; (try dsimp only at hSZ); go_simp; try with_reducible rfl)
              try simp only [Act.put, List.getElem_toArray, List.getElem_cons_zero, List.getElem_cons_succ, List.setIfInBounds_toArray, List.set_cons_zero, List.set_cons_succ]
              refine wpAnyH_take (i := 11) (v := ?v11) rfl (by kernel_rfl) (by kernel_rfl) (by kernel_rfl) (fun _ _ _ h => h) (Or.inl ⟨by rfl, ?hy11⟩) (by assumption) ?rest11
              case hy11 => (intro Z hSZ; (try dsimp only at hSZ); go_simp; try with_reducible rfl)
              try simp only [Act.put, List.getElem_toArray, List.getElem_cons_zero, List.getElem_cons_succ, List.setIfInBounds_toArray, List.set_cons_zero, List.set_cons_succ]
              refine wpAnyH_take (i := 13) (v := ?v13) rfl (by kernel_rfl) (by kernel_rfl) (by kernel_rfl) (fun _ _ _ h => h) (Or.inl ⟨by rfl, ?hy13⟩) (by assumption) ?rest13
              case hy13 => (intro Z hSZ; (try dsimp only at hSZ); go_simp; try with_reducible rfl)
              try simp only [Act.put, List.getElem_toArray, List.getElem_cons_zero, List.getElem_cons_succ, List.setIfInBounds_toArray, List.set_cons_zero, List.set_cons_succ]
              refine wpAnyH_take (i := 14) (v := ?v14) rfl (by kernel_rfl) (by kernel_rfl) (by kernel_rfl) (fun _ _ _ h => h) (Or.inl ⟨by rfl, ?hy14⟩) (by assumption) ?rest14
              case hy14 => (intro Z hSZ; (try dsimp only at hSZ); go_simp; try with_reducible rfl)
              try simp only [Act.put, List.getElem_toArray, List.getElem_cons_zero, List.getElem_cons_succ, List.setIfInBounds_toArray, List.set_cons_zero, List.set_cons_succ]
              refine wpAnyH_take (i := 15) (v := ?v15) rfl (by kernel_rfl) (by kernel_rfl) (by kernel_rfl) (fun _ _ _ h => h) (Or.inl ⟨by rfl, ?hy15⟩) (by assumption) ?rest15
              case hy15 => (intro Z hSZ; (try dsimp only at hSZ); go_simp; try with_reducible rfl)
              try simp only [Act.put, List.getElem_toArray, List.getElem_cons_zero, List.getElem_cons_succ, List.setIfInBounds_toArray, List.set_cons_zero, List.set_cons_succ]
              refine wpAnyH_ready (rs := [12, 16]) (by kernel_rfl) (by simp) ?_
              refine AllReadyH.cons rfl (fun K hK => ?_) (AllReadyH.cons rfl (fun K hK => ?_) AllReadyH.nil)
              · try simp only [List.getElem_toArray, List.getElem_cons_zero, List.getElem_cons_succ]
                go_simp
                refine hK.out _ _ (by assumption) (fun hHeld => ?_)
                clear hK K
                try simp only [Act.put, List.getElem_toArray, List.getElem_cons_zero, List.getElem_cons_succ, List.setIfInBounds_toArray, List.set_cons_zero, List.set_cons_succ]
                refine wpAnyH_ready (rs := [16]) (by kernel_rfl) (by simp) ?_
                refine AllReadyH.cons rfl (fun K hK => ?_) AllReadyH.nil
                try simp only [List.getElem_toArray, List.getElem_cons_zero, List.getElem_cons_succ]
                go_simp
                refine (hcon _).mono ?_
                rintro e w6 ⟨rfl, hb6⟩
                have HG6 : Hid (w5.grownBy w6 none) := grown_trans (grown_drew w5) (grown_below hb6)
                obtain ⟨cx6, cq6, cqa6, fq6⟩ := HC.out w6 HG6.out
                clear hb6
                go_wp2_with fail
                refine hK.out _ _ cx6 (fun hHeld => ?_)
                clear hK K
                try simp only [Act.put, List.getElem_toArray, List.getElem_cons_zero, List.getElem_cons_succ, List.setIfInBounds_toArray, List.set_cons_zero, List.set_cons_succ]
                refine wpAnyH_take (i := 17) (v := ?va17) rfl (by kernel_rfl) (by kernel_rfl) (by kernel_rfl) (fun _ _ _ h => h) (Or.inl ⟨by rfl, ?hya17⟩) (by assumption) ?resta17
                case hya17 => (intro Z hSZ; (try dsimp only at hSZ); go_simp; try with_reducible rfl)
                try simp only [Act.put, List.getElem_toArray, List.getElem_cons_zero, List.getElem_cons_succ, List.setIfInBounds_toArray, List.set_cons_zero, List.set_cons_succ]
                refine wpAnyH_take (i := 18) (v := ?va18) rfl (by kernel_rfl) (by kernel_rfl) (by kernel_rfl) (fun _ _ _ h => h) (Or.inl ⟨by rfl, ?hya18⟩) (by assumption) ?resta18
                case hya18 => (intro Z hSZ; (try dsimp only at hSZ); go_simp; try with_reducible rfl)
                try simp only [Act.put, List.getElem_toArray, List.getElem_cons_zero, List.getElem_cons_succ, List.setIfInBounds_toArray, List.set_cons_zero, List.set_cons_succ]
                refine wpAnyH_ready (rs := [19]) (by kernel_rfl) (by simp) ?_
                refine AllReadyH.cons rfl (fun K hK => ?_) AllReadyH.nil
                try simp only [List.getElem_toArray, List.getElem_cons_zero, List.getElem_cons_succ]
                go_simp
                refine hK.out _ _ (cqa6 _).1 (fun hHeld => ?_)
                clear hK K
                try simp only [Act.put, List.getElem_toArray, List.getElem_cons_zero, List.getElem_cons_succ, List.setIfInBounds_toArray, List.set_cons_zero, List.set_cons_succ]
                refine wpAnyH_ready (rs := [20]) (by kernel_rfl) (by simp) ?_
                refine AllReadyH.cons rfl (fun K hK => ?_) AllReadyH.nil
                try simp only [List.getElem_toArray, List.getElem_cons_zero, List.getElem_cons_succ]
                rw [if_pos (by rfl)]
                refine wp_append_lies _ (.tmp 115) (.tmp 122) 83 rfl w.heap.size 95 i95 _ 21 72 Yba.underlying83 hi95 hz95 hs95 hb95 rfl (by omega) (q3 t) (xs3 t).length _ rfl (((HV5.out.grown HG6.out).own t htn).alloc _) ⟨w6.heap.size, 0, none⟩ 1 1 [.int .i64 z, .int .i64 0, .string ⟨#[]⟩, y0, y1, y2, y3, y4, y5, y6, y7, y8, y9, y10, y11, y12, y13, y14, y15, .int .u64 0, .string ⟨#[]⟩] rfl rfl (World.news_of_block (cs := #[.int .i64 z, .int .i64 0, .string ⟨#[]⟩, y0, y1, y2, y3, y4, y5, y6, y7, y8, y9, y10, y11, y12, y13, y14, y15, .int .u64 0, .string ⟨#[]⟩]) (t := 95) (fr := (0, 0)) (heap_alloc_new w6 _)) HOn.out (by omega) (by unfold maxLen; omega) (by omega) (by have := (HV5.out.grown HG6.out).bel.size; simp; omega) (w6.heap.size + 1) (by simp) ?_
                intro gg cap2 w7 own7 gr7 hat7 hlt7
                have HG7 : Hid (w5.grownBy (w6.alloc (.cells #[.int .i64 z, .int .i64 0, .string ⟨#[]⟩, y0, y1, y2, y3, y4, y5, y6, y7, y8, y9, y10, y11, y12, y13, y14, y15, .int .u64 0, .string ⟨#[]⟩] 95)) none) := grown_trans HG6.out (World.grownBy_alloc _ _ _)
                have HP7 := HV5.out.problem htn HG7.out (by rw [HEN.out]; exact own7) gr7 (by simpa using hat7)
                have HI7 : Hid (Inv w _ X W F k N (t + 1) (t + 1) E U _ _ _ (fl3 ++ [z]) (fl3 ++ [z])) := HP7
                obtain ⟨cx7, cq7, fq7⟩ := HC7.out w6 HG6.out _ w7 gr7
                clear own7 gr7 HP7
                refine hK.out _ _ cx7 (fun hHeld => ?_)
                clear hK K
                try simp only [Act.put, List.getElem_toArray, List.getElem_cons_zero, List.getElem_cons_succ, List.setIfInBounds_toArray, List.set_cons_zero, List.set_cons_succ]
                refine wpAnyH_take (i := 21) (v := ?va21) rfl (by kernel_rfl) (by kernel_rfl) (by kernel_rfl) (fun _ _ _ h => h) (Or.inl ⟨by rfl, ?hya21⟩) (by assumption) ?resta21
                case hya21 => (intro Z hSZ; (try dsimp only at hSZ); go_simp; try with_reducible rfl)
                try simp only [Act.put, List.getElem_toArray, List.getElem_cons_zero, List.getElem_cons_succ, List.setIfInBounds_toArray, List.set_cons_zero, List.set_cons_succ]
                refine wpAnyH_take (i := 22) (v := ?va22) rfl (by kernel_rfl) (by kernel_rfl) (by kernel_rfl) (fun _ _ _ h => h) (Or.inl ⟨by rfl, ?hya22⟩) (by assumption) ?resta22
                case hya22 => (intro Z hSZ; (try dsimp only at hSZ); go_simp; try with_reducible rfl)
                try simp only [Act.put, List.getElem_toArray, List.getElem_cons_zero, List.getElem_cons_succ, List.setIfInBounds_toArray, List.set_cons_zero, List.set_cons_succ]
                refine wpAnyH_ready (rs := [23]) (by kernel_rfl) (by simp) ?_
                refine AllReadyH.cons rfl (fun K hK => ?_) AllReadyH.nil
                try simp only [List.getElem_toArray, List.getElem_cons_zero, List.getElem_cons_succ]
                go_simp
                refine hK.out _ _ (HCS.out _ _ cx7) (fun _ => ?_)
                clear hK K
                refine wpAnyH_done (by kernel_rfl) ?_ _
                refine NoPanic.normal ?_
                go_wp2
                go_roundw
                case rel => exact ⟨j + 1, by omega, by go_num, by rw [Nat.add_assoc], _, _, _, _, HI7.out, by simp [HFL3.out]; omega, fun y hy => (List.mem_append.1 hy).elim (HRG3.out y) (fun h => by simp at h; subst h; exact HZ.out)⟩
                case measure => simp [intOf]; omega
              · try simp only [List.getElem_toArray, List.getElem_cons_zero, List.getElem_cons_succ]
                go_simp
                refine (hcon _).mono ?_
                rintro e w6 ⟨rfl, hb6⟩
                have HG6 : Hid (w5.grownBy w6 none) := grown_trans (grown_drew w5) (grown_below hb6)
                obtain ⟨cx6, cq6, cqa6, fq6⟩ := HC.out w6 HG6.out
                clear hb6
                go_wp2_with fail
                refine hK.out _ _ cx6 (fun hHeld => ?_)
                clear hK K
                try simp only [Act.put, List.getElem_toArray, List.getElem_cons_zero, List.getElem_cons_succ, List.setIfInBounds_toArray, List.set_cons_zero, List.set_cons_succ]
                refine wpAnyH_take (i := 17) (v := ?vb17) rfl (by kernel_rfl) (by kernel_rfl) (by kernel_rfl) (fun _ _ _ h => h) (Or.inl ⟨by rfl, ?hyb17⟩) (by assumption) ?restb17
                case hyb17 => (intro Z hSZ; (try dsimp only at hSZ); go_simp; try with_reducible rfl)
                try simp only [Act.put, List.getElem_toArray, List.getElem_cons_zero, List.getElem_cons_succ, List.setIfInBounds_toArray, List.set_cons_zero, List.set_cons_succ]
                refine wpAnyH_take (i := 18) (v := ?vb18) rfl (by kernel_rfl) (by kernel_rfl) (by kernel_rfl) (fun _ _ _ h => h) (Or.inl ⟨by rfl, ?hyb18⟩) (by assumption) ?restb18
                case hyb18 => (intro Z hSZ; (try dsimp only at hSZ); go_simp; try with_reducible rfl)
                try simp only [Act.put, List.getElem_toArray, List.getElem_cons_zero, List.getElem_cons_succ, List.setIfInBounds_toArray, List.set_cons_zero, List.set_cons_succ]
                refine wpAnyH_ready (rs := [12, 19]) (by kernel_rfl) (by simp) ?_
                refine AllReadyH.cons rfl (fun K hK => ?_) (AllReadyH.cons rfl (fun K hK => ?_) AllReadyH.nil)
                · try simp only [List.getElem_toArray, List.getElem_cons_zero, List.getElem_cons_succ]
                  go_simp
                  refine hK.out _ _ (by assumption) (fun hHeld => ?_)
                  clear hK K
                  try simp only [Act.put, List.getElem_toArray, List.getElem_cons_zero, List.getElem_cons_succ, List.setIfInBounds_toArray, List.set_cons_zero, List.set_cons_succ]
                  refine wpAnyH_ready (rs := [19]) (by kernel_rfl) (by simp) ?_
                  refine AllReadyH.cons rfl (fun K hK => ?_) AllReadyH.nil
                  try simp only [List.getElem_toArray, List.getElem_cons_zero, List.getElem_cons_succ]
                  go_simp
                  refine hK.out _ _ (cqa6 _).1 (fun hHeld => ?_)
                  clear hK K
                  try simp only [Act.put, List.getElem_toArray, List.getElem_cons_zero, List.getElem_cons_succ, List.setIfInBounds_toArray, List.set_cons_zero, List.set_cons_succ]
                  refine wpAnyH_ready (rs := [20]) (by kernel_rfl) (by simp) ?_
                  refine AllReadyH.cons rfl (fun K hK => ?_) AllReadyH.nil
                  try simp only [List.getElem_toArray, List.getElem_cons_zero, List.getElem_cons_succ]
                  rw [if_pos (by rfl)]
                  refine wp_append_lies _ (.tmp 115) (.tmp 122) 83 rfl w.heap.size 95 i95 _ 21 72 Yba.underlying83 hi95 hz95 hs95 hb95 rfl (by omega) (q3 t) (xs3 t).length _ rfl (((HV5.out.grown HG6.out).own t htn).alloc _) ⟨w6.heap.size, 0, none⟩ 1 1 [.int .i64 z, .int .i64 0, .string ⟨#[]⟩, y0, y1, y2, y3, y4, y5, y6, y7, y8, y9, y10, y11, y12, y13, y14, y15, .int .u64 0, .string ⟨#[]⟩] rfl rfl (World.news_of_block (cs := #[.int .i64 z, .int .i64 0, .string ⟨#[]⟩, y0, y1, y2, y3, y4, y5, y6, y7, y8, y9, y10, y11, y12, y13, y14, y15, .int .u64 0, .string ⟨#[]⟩]) (t := 95) (fr := (0, 0)) (heap_alloc_new w6 _)) HOn.out (by omega) (by unfold maxLen; omega) (by omega) (by have := (HV5.out.grown HG6.out).bel.size; simp; omega) (w6.heap.size + 1) (by simp) ?_
                  intro gg cap2 w7 own7 gr7 hat7 hlt7
                  have HG7 : Hid (w5.grownBy (w6.alloc (.cells #[.int .i64 z, .int .i64 0, .string ⟨#[]⟩, y0, y1, y2, y3, y4, y5, y6, y7, y8, y9, y10, y11, y12, y13, y14, y15, .int .u64 0, .string ⟨#[]⟩] 95)) none) := grown_trans HG6.out (World.grownBy_alloc _ _ _)
                  have HP7 := HV5.out.problem htn HG7.out (by rw [HEN.out]; exact own7) gr7 (by simpa using hat7)
                  have HI7 : Hid (Inv w _ X W F k N (t + 1) (t + 1) E U _ _ _ (fl3 ++ [z]) (fl3 ++ [z])) := HP7
                  obtain ⟨cx7, cq7, fq7⟩ := HC7.out w6 HG6.out _ w7 gr7
                  clear own7 gr7 HP7
                  refine hK.out _ _ cx7 (fun hHeld => ?_)
                  clear hK K
                  try simp only [Act.put, List.getElem_toArray, List.getElem_cons_zero, List.getElem_cons_succ, List.setIfInBounds_toArray, List.set_cons_zero, List.set_cons_succ]
                  refine wpAnyH_take (i := 21) (v := ?vc21) rfl (by kernel_rfl) (by kernel_rfl) (by kernel_rfl) (fun _ _ _ h => h) (Or.inl ⟨by rfl, ?hyc21⟩) (by assumption) ?restc21
                  case hyc21 => (intro Z hSZ; (try dsimp only at hSZ); go_simp; try with_reducible rfl)
                  try simp only [Act.put, List.getElem_toArray, List.getElem_cons_zero, List.getElem_cons_succ, List.setIfInBounds_toArray, List.set_cons_zero, List.set_cons_succ]
                  refine wpAnyH_take (i := 22) (v := ?vc22) rfl (by kernel_rfl) (by kernel_rfl) (by kernel_rfl) (fun _ _ _ h => h) (Or.inl ⟨by rfl, ?hyc22⟩) (by assumption) ?restc22
                  case hyc22 => (intro Z hSZ; (try dsimp only at hSZ); go_simp; try with_reducible rfl)
                  try simp only [Act.put, List.getElem_toArray, List.getElem_cons_zero, List.getElem_cons_succ, List.setIfInBounds_toArray, List.set_cons_zero, List.set_cons_succ]
                  refine wpAnyH_ready (rs := [23]) (by kernel_rfl) (by simp) ?_
                  refine AllReadyH.cons rfl (fun K hK => ?_) AllReadyH.nil
                  try simp only [List.getElem_toArray, List.getElem_cons_zero, List.getElem_cons_succ]
                  go_simp
                  refine hK.out _ _ (HCS.out _ _ cx7) (fun _ => ?_)
                  clear hK K
                  refine wpAnyH_done (by kernel_rfl) ?_ _
                  refine NoPanic.normal ?_
                  go_wp2
                  go_roundw
                  case rel => exact ⟨j + 1, by omega, by go_num, by rw [Nat.add_assoc], _, _, _, _, HI7.out, by simp [HFL3.out]; omega, fun y hy => (List.mem_append.1 hy).elim (HRG3.out y) (fun h => by simp at h; subst h; exact HZ.out)⟩
                  case measure => simp [intOf]; omega
                · try simp only [List.getElem_toArray, List.getElem_cons_zero, List.getElem_cons_succ]
                  go_simp
                  refine hK.out _ _ (cqa6 _).1 (fun hHeld => ?_)
                  clear hK K
                  try simp only [Act.put, List.getElem_toArray, List.getElem_cons_zero, List.getElem_cons_succ, List.setIfInBounds_toArray, List.set_cons_zero, List.set_cons_succ]
                  refine wpAnyH_ready (rs := [12]) (by kernel_rfl) (by simp) ?_
                  refine AllReadyH.cons rfl (fun K hK => ?_) AllReadyH.nil
                  try simp only [List.getElem_toArray, List.getElem_cons_zero, List.getElem_cons_succ]
                  go_simp
                  refine hK.out _ _ (by assumption) (fun hHeld => ?_)
                  clear hK K
                  try simp only [Act.put, List.getElem_toArray, List.getElem_cons_zero, List.getElem_cons_succ, List.setIfInBounds_toArray, List.set_cons_zero, List.set_cons_succ]
                  refine wpAnyH_ready (rs := [20]) (by kernel_rfl) (by simp) ?_
                  refine AllReadyH.cons rfl (fun K hK => ?_) AllReadyH.nil
                  try simp only [List.getElem_toArray, List.getElem_cons_zero, List.getElem_cons_succ]
                  rw [if_pos (by rfl)]
                  refine wp_append_lies _ (.tmp 115) (.tmp 122) 83 rfl w.heap.size 95 i95 _ 21 72 Yba.underlying83 hi95 hz95 hs95 hb95 rfl (by omega) (q3 t) (xs3 t).length _ rfl (((HV5.out.grown HG6.out).own t htn).alloc _) ⟨w6.heap.size, 0, none⟩ 1 1 [.int .i64 z, .int .i64 0, .string ⟨#[]⟩, y0, y1, y2, y3, y4, y5, y6, y7, y8, y9, y10, y11, y12, y13, y14, y15, .int .u64 0, .string ⟨#[]⟩] rfl rfl (World.news_of_block (cs := #[.int .i64 z, .int .i64 0, .string ⟨#[]⟩, y0, y1, y2, y3, y4, y5, y6, y7, y8, y9, y10, y11, y12, y13, y14, y15, .int .u64 0, .string ⟨#[]⟩]) (t := 95) (fr := (0, 0)) (heap_alloc_new w6 _)) HOn.out (by omega) (by unfold maxLen; omega) (by omega) (by have := (HV5.out.grown HG6.out).bel.size; simp; omega) (w6.heap.size + 1) (by simp) ?_
                  intro gg cap2 w7 own7 gr7 hat7 hlt7
                  have HG7 : Hid (w5.grownBy (w6.alloc (.cells #[.int .i64 z, .int .i64 0, .string ⟨#[]⟩, y0, y1, y2, y3, y4, y5, y6, y7, y8, y9, y10, y11, y12, y13, y14, y15, .int .u64 0, .string ⟨#[]⟩] 95)) none) := grown_trans HG6.out (World.grownBy_alloc _ _ _)
                  have HP7 := HV5.out.problem htn HG7.out (by rw [HEN.out]; exact own7) gr7 (by simpa using hat7)
                  have HI7 : Hid (Inv w _ X W F k N (t + 1) (t + 1) E U _ _ _ (fl3 ++ [z]) (fl3 ++ [z])) := HP7
                  obtain ⟨cx7, cq7, fq7⟩ := HC7.out w6 HG6.out _ w7 gr7
                  clear own7 gr7 HP7
                  refine hK.out _ _ cx7 (fun hHeld => ?_)
                  clear hK K
                  try simp only [Act.put, List.getElem_toArray, List.getElem_cons_zero, List.getElem_cons_succ, List.setIfInBounds_toArray, List.set_cons_zero, List.set_cons_succ]
                  refine wpAnyH_take (i := 21) (v := ?vd21) rfl (by kernel_rfl) (by kernel_rfl) (by kernel_rfl) (fun _ _ _ h => h) (Or.inl ⟨by rfl, ?hyd21⟩) (by assumption) ?restd21
                  case hyd21 => (intro Z hSZ; (try dsimp only at hSZ); go_simp; try with_reducible rfl)
                  try simp only [Act.put, List.getElem_toArray, List.getElem_cons_zero, List.getElem_cons_succ, List.setIfInBounds_toArray, List.set_cons_zero, List.set_cons_succ]
                  refine wpAnyH_take (i := 22) (v := ?vd22) rfl (by kernel_rfl) (by kernel_rfl) (by kernel_rfl) (fun _ _ _ h => h) (Or.inl ⟨by rfl, ?hyd22⟩) (by assumption) ?restd22
                  case hyd22 => (intro Z hSZ; (try dsimp only at hSZ); go_simp; try with_reducible rfl)
                  try simp only [Act.put, List.getElem_toArray, List.getElem_cons_zero, List.getElem_cons_succ, List.setIfInBounds_toArray, List.set_cons_zero, List.set_cons_succ]
                  refine wpAnyH_ready (rs := [23]) (by kernel_rfl) (by simp) ?_
                  refine AllReadyH.cons rfl (fun K hK => ?_) AllReadyH.nil
                  try simp only [List.getElem_toArray, List.getElem_cons_zero, List.getElem_cons_succ]
                  go_simp
                  refine hK.out _ _ (HCS.out _ _ cx7) (fun _ => ?_)
                  clear hK K
                  refine wpAnyH_done (by kernel_rfl) ?_ _
                  refine NoPanic.normal ?_
                  go_wp2
                  go_roundw
                  case rel => exact ⟨j + 1, by omega, by go_num, by rw [Nat.add_assoc], _, _, _, _, HI7.out, by simp [HFL3.out]; omega, fun y hy => (List.mem_append.1 hy).elim (HRG3.out y) (fun h => by simp at h; subst h; exact HZ.out)⟩
                  case measure => simp [intOf]; omega
            · obtain rfl : j = m := by omega
              clear hjm
              go_wp2
              go_roundw
              case rel => exact ⟨t + 1, by omega, by go_num, by rw [HT.out], by rw [HSE.out], by rw [HSU.out], by rw [HT.out]; exact HF3.out⟩
              case measure => simp [intOf]; omega
        · obtain rfl : t = k := by omega
          have hTN : tot fs t = N := HN.out.symm
          rw [hTN]
          clear hTN
          have HNf : Hid (fl.length = N) := by show _ = _; rw [HFL.out, HN.out]
          have hcatN : (cat xs t).length = N := by rw [HV'.out.all, tag_length]; exact HNf.out
          have HHas := HV'.out.has
          go_wp2_with fail
          go_at_call 5
          refine (result5 X W t N cur E U q xs ra rl rc wr HHas hn hcatN ht).mono ?_
          rintro e w3 ⟨rfl, ys, pv, hperm, hasc, hR, hpo, hbel⟩
          have HP : Hid (ys.Perm (tag 0 fl)) := by show ys.Perm _; rw [← HV'.out.all]; exact hperm
          have HA : Hid (Asc ys) := hasc
          have HPO : Hid (w3.ownsRow (wr.heap.size + 1) 93 20 pv N (ys.flatMap pr)) := hpo
          have HFI : Hid (w3.ownsRow w.heap.size 3 1 (.slice (some ⟨F, 0, none⟩) fl.length N) fl.length (fl.map (Value.int .i64))) := HV'.out.files.kept (grown_below hbel) (.inr (by simp [Value.ownBlock]))
          have HB3 : Hid (Below w.heap.size w w3) := HV'.out.bel.trans (hbel.mono HV'.out.bel.size)
          have r0 : w3.cell? ⟨wr.heap.size, 0, none⟩ = some (.int .i64 (sumW E t)) := by rw [cell_of_row _ _ _ _ _ _ hR]; rfl
          have r1 : w3.cell? ⟨wr.heap.size, 1, none⟩ = some (.int .i64 (sumW U t)) := by rw [cell_of_row _ _ _ _ _ _ hR]; rfl
          have r2 : w3.cell? ⟨wr.heap.size, 2, none⟩ = some pv := by rw [cell_of_row _ _ _ _ _ _ hR]; rfl
          have r3 : w3.cell? ⟨wr.heap.size, 3, none⟩ = some (.slice ra rl rc) := by rw [cell_of_row _ _ _ _ _ _ hR]; rfl
          have hR3 : wr.heap.size < w3.heap.size := (Array.getElem?_eq_some_iff.1 hR).1
          have HRB : Hid (w3.heap[wr.heap.size]? = _) := hR
          have HF0 : Hid (Below w.heap.size w wr) := HV'.out.bel
          have hle0 := HV'.out.bel.size
          clear hperm hasc hpo hbel hR HHas hcatN HV'
          generalize sumW E t = sE at *
          generalize sumW U t = sU at *
          have hnil : ∀ Y : World, (binOp .eql 23 (.slice ra rl rc) (.slice none 0 0)).run Yba.prog Y = .ok (.bool ra.isNone) Y := fun Y => Lib.run_eql_slice_nil Y 23 103 ra rl rc 0 0 Yba.underlying23
          go_wp2
          go_loopw [167] (fun i wr' => ∃ j q' : Nat, j ≤ rl ∧ i = .int .i64 j ∧ wr' = w3.drewN q') (fun i _ => rl - (intOf i).toNat)
          case atStart => exact ⟨0, 0, Nat.zero_le _, rfl, rfl⟩
          case round =>
            obtain ⟨j, q', hj, rfl, rfl⟩ := hrel
            by_cases hjr : j < rl
            · obtain ⟨rb, ro, rfl, hrc⟩ := HRen.out (by omega)
              obtain ⟨d, s, y, k1, k2, k3⟩ := hrc j hjr
              have hrb : rb < w.heap.size := World.block_lt_of_cell? _ _ k1
              have m1 : w3.cell? ⟨rb, ro + j * 3, none⟩ = _ := (HB3.out.cell (p := ⟨rb, ro + j * 3, none⟩) hrb).trans k1
              have m2 : w3.cell? ⟨rb, ro + j * 3 + 1, none⟩ = _ := (HB3.out.cell (p := ⟨rb, ro + j * 3 + 1, none⟩) hrb).trans k2
              have m3 : w3.cell? ⟨rb, ro + j * 3 + 2, none⟩ = _ := (HB3.out.cell (p := ⟨rb, ro + j * 3 + 2, none⟩) hrb).trans k3
              have hq := fun Y => neq103 Y d s y
              have hji : (j : Int) < (rl : Int) := by omega
              clear hrc k1 k2 k3
              go_wp2
              go_quiet (fail)
              go_wp2
              go_roundw
              case rel => exact ⟨j + 1, q' + nq, by omega, by go_num, rfl⟩
              case measure => simp [intOf]; omega
            · obtain rfl : j = rl := by omega
              obtain ⟨wq, hwq⟩ : ∃ wq : World, wq = w3.drewN q' := ⟨_, rfl⟩
              have HB4 : Hid (Below w.heap.size w wq) := by show Below _ _ _; rw [hwq]; exact below_drewN HB3.out _
              have HPO4 : Hid (wq.ownsRow (wr.heap.size + 1) 93 20 pv N (ys.flatMap pr)) := by show World.ownsRow _ _ _ _ _ _ _; rw [hwq]; exact HPO.out
              have HFI4 : Hid (wq.ownsRow w.heap.size 3 1 (.slice (some ⟨F, 0, none⟩) fl.length N) fl.length (fl.map (Value.int .i64))) := by show World.ownsRow _ _ _ _ _ _ _; rw [hwq]; exact HFI.out
              have r2q : wq.cell? ⟨wr.heap.size, 2, none⟩ = some pv := by rw [hwq]; exact r2
              obtain ⟨pb, pc, hpv, hpc, hpg⟩ := own_shape' HPO4.out
              subst hpv
              have HPG : Hid (0 < N → ∃ g, pb = some ⟨g, 0, none⟩ ∧ wr.heap.size + 1 ≤ g ∧ g < wq.heap.size) := hpg
              rw [← hwq]
              clear hwq r0 r1 r2 r3 HB3 HPO HFI HRB hnil hpg
              obtain ⟨i4, hi4, hz4, hs4, hb4⟩ := info_parts info4
              go_wp2_with (at_make; refine wpList_make_full _ rfl _ _ 104 rfl wq.heap.size 4 i4 (.bool false) 1 Yba.underlying104 hi4 hz4 hs4 _ _ _ _ N rfl rfl rfl rfl (by rw [hb4]; omega) (by unfold maxLen; omega) (Nat.le_refl _) ?_)
              intro wS ownS grS
              have HBS : Hid (Below wq.heap.size wq wS) := (Below.refl _ _).grown grS (Nat.le_refl _) (fun _ e => by cases e)
              have HSN : Hid (Seen wS wq.heap.size N 0 ys) := by
                refine ⟨List.replicate N false, ?_, by simp, fun g hg => ?_⟩
                · have := row_full ownS
                  rw [toList_madeCells_one] at this
                  rw [this]; simp
                · rw [List.getElem?_replicate] at hg; split at hg <;> simp at hg
              have r2S : wS.cell? ⟨wr.heap.size, 2, none⟩ = some (.slice pb N pc) := (HBS.out.cell (p := ⟨wr.heap.size, 2, none⟩) (World.block_lt_of_cell? _ _ r2q)).trans r2q
              clear ownS grS r2q
              go_wp2
              go_loopw [20, 197] (fun pz i wr' => ∃ (j : Nat) (z : Int), j ≤ N ∧ i = .int .i64 j ∧ pz = .int .i64 z ∧ Prev j ys z ∧ Seen wr' wq.heap.size N j ys ∧ Below wq.heap.size wq wr') (fun _ i _ => N - (intOf i).toNat)
              case atStart => exact ⟨0, 0, Nat.zero_le _, rfl, rfl, fun h => absurd h (by omega), HSN.out, HBS.out⟩
              case round =>
                obtain ⟨j, z, hj, rfl, rfl, hpz, hse, hbe⟩ := hrel
                have HSE5 : Hid (Seen wr wq.heap.size N j ys) := hse
                have HBE5 : Hid (Below wq.heap.size wq wr) := hbe
                have HPZ : Hid (Prev j ys z) := hpz
                clear hse hbe hpz HSN HBS
                by_cases hjN : j < N
                · obtain ⟨pg, rfl, hpg1, hpg2⟩ := HPG.out (by omega)
                  have hyl : ys.length = N := by rw [HP.out.length_eq, tag_length]; exact HNf.out
                  obtain ⟨x, hx⟩ : ∃ x, ys[j]? = some x := ⟨_, List.getElem?_eq_getElem (by omega)⟩
                  have hfx := tag_of HP.out hx
                  have hgN : x.2 < N := by rw [← HNf.out]; exact (List.getElem?_eq_some_iff.1 hfx).1
                  have hrx := HRG.out x.1 (List.mem_of_getElem? hfx)
                  have HR5 : Hid (wr.rangeAt pg (j * 20) (pr x)) := fun i v hv => by
                    have hi : i < 20 := by rw [← pr_length x]; exact (List.getElem?_eq_some_iff.1 hv).1
                    have ad : (⟨pg, 0, none⟩ : Addr).add (j * 20 + i) = ⟨pg, j * 20 + i, none⟩ := by unfold Addr.add; split <;> simp_all
                    rw [HBE5.out.cell (p := ⟨pg, j * 20 + i, none⟩) hpg2, ← ad]
                    refine HPO4.out.cells rfl _ _ ?_
                    rw [flat_get pr 20 pr_length _ _ _ hi, hx]; exact hv
                  have HPL : Hid ((pr x).length = 20) := pr_length x
                  have HPN : Hid (∀ v ∈ pr x, v.oneCell' = true) := pr_one x
                  have HKB : Hid (∀ i v, (kb (fN x.1) x.2)[i]? = some v → (pr x)[2 + i]? = some v) := pr_kb x
                  obtain ⟨px, hpx⟩ : ∃ px, px = pr x := ⟨_, rfl⟩
                  rw [← hpx] at HR5 HPL HPN HKB
                  clear hpx
                  go_wp2_with (first
                    | (refine wpList_load_mid rfl 93 (.tmp 200) rfl pg (j * 20) rfl px _ HR5.out Yba.underlying93 rfl (by rw [HPL.out]; exact size93) ?_)
                    | (refine wpList_store_row rfl 93 (.tmp 22) (.tmp 201) rfl wr.heap.size px.toArray rfl rfl 93 _ (heap_alloc_new _ _) (by simpa [HPL.out] using size93) (by simp [HPL.out]) (all_oneCell_toArray HPN.out) ?_)
                    | (refine wpList_load_mid rfl 88 (.tmp 203) rfl wr.heap.size 2 rfl (kb (fN x.1) x.2) _ (fun i v hv => by rw [World.setRow_alloc_new, cell_of_row _ _ _ _ _ _ (heap_alloc_new _ _)]; simpa using HKB.out i v hv) Yba.underlying88 rfl (by rw [kb_length]; exact size88) ?_))
                  go_at_call 6
                  refine (dec6 (fN x.1) x.2 (fN_lt _) (by omega) x.1 (fN_back _ hrx.1 hrx.2) _).mono ?_
                  rintro e w5 ⟨rfl, hb5⟩
                  rw [World.setRow_alloc_new] at hb5
                  have hb1 : Below wr.heap.size wr (wr.alloc (.cells px.toArray 93)) := (Below.refl _ _).alloc (Nat.le_refl _) _
                  have hb15 : Below wr.heap.size wr w5 := hb1.trans (hb5.mono hb1.size)
                  have HS6 : Hid (Seen w5 wq.heap.size N j ys) := HSE5.out.below hb15
                  have HB6 : Hid (Below wq.heap.size wq w5) := HBE5.out.trans (hb15.mono HBE5.out.size)
                  obtain ⟨sn, sf⟩ := HS6.out.no HP.out hx hgN
                  have hFl : F < wq.heap.size := (HFI4.out.lt F rfl).2
                  have cfi : w5.cell? ⟨F, x.2, none⟩ = some (.int .i64 x.1) := by
                    have ad : (⟨F, 0, none⟩ : Addr).add x.2 = ⟨F, x.2, none⟩ := by unfold Addr.add; split <;> simp_all
                    rw [HB6.out.cell (p := ⟨F, x.2, none⟩) hFl, ← ad]
                    exact HFI4.out.cells rfl _ _ (by simp [hfx])
                  have HX : Hid (ys[j]? = some x) := hx
                  have HPV : Hid (0 < j → ¬ x.1 < z) := fun h0 => by
                    obtain ⟨y, hy, rfl⟩ := HPZ.out h0
                    have := HA.out (j - 1) j y x (by omega) hy hx
                    omega
                  have HNX : Hid (Seen (w5.setCell ⟨wq.heap.size, x.2, none⟩ (.bool true)) wq.heap.size N (j + 1) ys) := HS6.out.next hx
                  have HPX : Hid (Prev (j + 1) ys x.1) := fun _ => ⟨x, by simpa using hx, rfl⟩
                  have HB7 : Hid (Below wq.heap.size wq (w5.setCell ⟨wq.heap.size, x.2, none⟩ (.bool true))) := HB6.out.setCell (Nat.le_refl _) _
                  clear hb5 hb1 hb15 hx hfx HR5 HKB HPL HPN hrx
                  have hgI : ¬ ((N : Int) ≤ (x.2 : Int)) := by omega
                  generalize x.1 = f at *
                  generalize x.2 = g at *
                  rcases Nat.eq_zero_or_pos j with rfl | hj0
                  · go_wp2
                    go_roundw
                    case rel => exact ⟨0 + 1, f, by omega, by go_num, rfl, HPX.out, HNX.out, HB7.out⟩
                    case measure => simp [intOf]; omega
                  · have hpv := HPV.out hj0
                    have hj0I : (0 : Int) < (j : Int) := by omega
                    go_wp2
                    go_roundw
                    case rel => exact ⟨j + 1, f, by omega, by go_num, rfl, HPX.out, HNX.out, HB7.out⟩
                    case measure => simp [intOf]; omega
                · go_wp2
                  go_ret
                  exact ⟨rfl, HB4.out.trans (HBE5.out.mono HB4.out.size)⟩
end Go.Proofs.Ybulksgi
