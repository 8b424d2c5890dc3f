import Derived.Test.YbulksfuExtras
import Derived.Test.YbulksfuAbe
import Derived.Laws.CopyOwn
import Derived.Deep.QuietTactic
import Derived.BigQuiet
import Derived.WalkSmall
/-! LawS0930AEncode. -/
namespace Go.Proofs.Ybulksfu
open Go.RowKit

theorem info5' : (Yba.prog.info? 5).map (·.size) = some 1 := by kernel_rfl

theorem addr_block (a : Addr) (j : Nat) : (a.add j).block = a.block := by unfold Addr.add; split <;> rfl

set_option maxHeartbeats 4000000 in
set_option maxRecDepth 100000 in
theorem law_short (ao : Option Addr) (len cap : Nat) (xs : List Value) (a b c d f : Nat) (w : World) (hlen : len ≤ 1024) (ha : a < 18446744073709551616) (hb : b < 18446744073709551616) (hc : c < 4294967296) (hd : d < 4294967296) (hf : f < 4294967296)
    (hxl : xs.length = len) (hx8 : Bytes xs) (hnone : ao = none → len = 0 ∧ cap = 0) (hcell : ∀ ad, ao = some ad → ∀ j u, xs[j]? = some u → w.cell? (ad.add j) = some u) (hlt : ∀ ad, ao = some ad → 0 < len → ad.block < w.heap.size) :
    Calls Yba.prog 3 #[.slice ao len cap, .int .u64 a, .int .u64 b, .int .u32 c, .int .u32 d, .int .u32 f] w fun e w' => e = .returned (.bool true) ∧ Below w.heap.size w w' := by
  obtain ⟨i0, hi, hz0, hz1, hz2⟩ := info_parts info5
  have HC : Hid (∀ ad, ao = some ad → ∀ j u, xs[j]? = some u → w.cell? (ad.add j) = some u) := hcell
  have HN : Hid (ao = none → len = 0 ∧ cap = 0) := hnone
  have HL : Hid (∀ ad, ao = some ad → 0 < len → ad.block < w.heap.size) := hlt
  have HX : Hid (xs.length = len) := hxl
  have H8 : Hid (Bytes xs) := hx8
  clear hcell hnone hlt hxl hx8
  go_enter Yba.func3, Yba.ntmps3
  go_wp2_with (at_make; refine wpList_make_full _ rfl _ _ 22 rfl w.heap.size 5 i0 (.int .u8 0) 1 Yba.underlying22 hi hz0 hz1 _ _ _ _ len rfl rfl rfl rfl (by rw [hz2]; omega) (by unfold maxLen; omega) (Nat.le_refl _) ?_)
  intro w1 own1 gr1
  have R1 : Hid (w1.heap[w.heap.size]? = some (.cells (List.replicate len (.int .u8 0)).toArray 5 (0, 0))) := by
    have := row_of_full own1
    rw [toList_madeCells_one] at this
    exact this
  have N1 : Below w.heap.size w w1 := (Below.refl _ _).grown gr1 (Nat.le_refl _) (fun k h => by cases h)
  clear own1 gr1
  go_wp2_with (refine wpList_copy_splice rfl (.tmp 24) (.tmp 25) 22 22 rfl 5 Yba.underlying22 info5' _ _ _ _ _ _ rfl rfl w.heap.size 0 (List.replicate len (.int .u8 0)) 5 R1.out xs (by rw [HX.out]; simp) ?c1 (by simp [HX.out]) ?c2 w.heap.size w N1 (Nat.le_refl _) ?_)
  case c1 =>
    intro h0
    cases hao : ao with
    | none => have := (HN.out hao).1; have := HX.out; omega
    | some ad => exact ⟨ad, rfl, fun j v hv => (N1.cell (by rw [addr_block]; exact HL.out ad hao (by have := HX.out; omega))).trans (HC.out ad hao j v hv)⟩
  case c2 => intro u hu; obtain ⟨z, rfl⟩ := H8.out u hu; rfl
  intro w2 R2 N2
  have O2 : Hid (w2.ownsRow w.heap.size 5 1 (.slice (some ⟨w.heap.size, 0, none⟩) len len) len xs) := by
    have h := R2.out
    have e : splice (List.replicate len (Value.int .u8 0)) 0 xs = xs := by simp [splice, HX.out]
    rw [e] at h
    exact full_of_row h (Nat.le_refl _) HX.out (by unfold maxLen; omega)
  have z2 : w.heap.size ≤ w2.heap.size := N2.size
  clear R1 N1 R2
  go_wp2_with fail
  refine (extras5 w.heap.size len a b c d f ha hb hc hd hf _ xs _ (O2.out.alloc _) (by simp; omega) (by omega)).mono ?_
  rintro e w3 ⟨g3, cap3, rfl, own3, gr3, -⟩
  have N3 : Below w.heap.size w w3 := (N2.alloc (by omega) _).grown gr3 (by simp; omega) (fun k h => by cases h; exact Nat.le_refl _)
  have O3 : Hid (w3.ownsRow w.heap.size 5 1 (.slice (some ⟨g3, 0, none⟩) (len + 31) cap3) (len + 31) (xs ++ mutCells a b c d f)) := own3
  have z3 : w.heap.size ≤ w3.heap.size := N3.size
  clear own3 gr3 O2 N2 z2
  go_wp2_with (at_make; refine wpList_make_own _ rfl _ _ 22 rfl w3.heap.size 5 i0 (.int .u8 0) 1 Yba.underlying22 hi hz0 hz1 _ _ _ (len + 31) rfl rfl (by omega) (by rw [hz2]; omega) (by unfold maxLen; omega) (Nat.le_refl _) ?_)
  intro w4 own4 gr4
  have N4 : Below w3.heap.size w3 w4 := (Below.refl _ _).grown gr4 (Nat.le_refl _) (fun k h => by cases h)
  have O4 : Hid (w4.ownsRow w3.heap.size 5 1 (.slice (some ⟨w3.heap.size, 0, none⟩) 0 (len + 31)) 0 []) := own4
  clear own4 gr4
  have z4 : w3.heap.size ≤ w4.heap.size := N4.size
  go_wp2_with (at_builtin; refine wpList_append_fits_any _ rfl _ _ 22 rfl w3.heap.size 5 i0 1 Yba.underlying22 hi hz1 _ _ _ _ rfl O4.out ao len cap xs rfl (by rw [HX.out]; simp) HN.out ?c1 ?c2 (by omega) ?_)
  case c1 =>
    intro ad hao j u hu
    have hj : j < xs.length := (List.getElem?_eq_some_iff.1 hu).1
    have hl := HL.out ad hao (by have := HX.out; omega)
    exact (N4.cell (by rw [addr_block]; omega)).trans ((N3.cell (by rw [addr_block]; exact hl)).trans (HC.out ad hao j u hu))
  case c2 => intro u hu; obtain ⟨z, rfl⟩ := H8.out u hu; rfl
  intro w5 own5 gr5
  have N5 : Below w3.heap.size w3 w5 := N4.grown gr5 (by omega) (fun k h => by cases h; exact Nat.le_refl _)
  have O5 : Hid (w5.ownsRow w3.heap.size 5 1 (.slice (some ⟨w3.heap.size, 0, none⟩) len (len + 31)) len xs) := own5
  clear own5 gr5 O4 N4 z4
  have z5 : w3.heap.size ≤ w5.heap.size := N5.size
  go_wp2_with fail
  refine (abe6 w3.heap.size len 8 a (by omega) ha _ xs _ O5.out z5 (by omega)).mono ?_
  rintro e w6 ⟨v6, rfl, own6, n6⟩
  have N6 : Below w3.heap.size w3 w6 := N5.trans n6
  have O6 : Hid (w6.ownsRow w3.heap.size 5 1 v6 (len + 8) (xs ++ beCells 8 a)) := own6
  have z6 : w3.heap.size ≤ w6.heap.size := N6.size
  clear own6 n6 O5 N5 z5
  go_wp2_with fail
  refine (abe6 w3.heap.size (len + 8) 8 b (by omega) hb _ _ _ O6.out z6 (by omega)).mono ?_
  rintro e w7 ⟨v7, rfl, own7, n7⟩
  have N7 : Below w3.heap.size w3 w7 := N6.trans n7
  have O7 : Hid (w7.ownsRow w3.heap.size 5 1 v7 (len + 8 + 8) (xs ++ beCells 8 a ++ beCells 8 b)) := own7
  have z7 : w3.heap.size ≤ w7.heap.size := N7.size
  clear own7 n7 O6 N6 z6
  go_wp2_with fail
  refine (abe6 w3.heap.size (len + 8 + 8) 4 c (by omega) (by omega) _ _ _ O7.out z7 (by omega)).mono ?_
  rintro e w8 ⟨v8, rfl, own8, n8⟩
  have N8 : Below w3.heap.size w3 w8 := N7.trans n8
  have O8 : Hid (w8.ownsRow w3.heap.size 5 1 v8 (len + 8 + 8 + 4) (xs ++ beCells 8 a ++ beCells 8 b ++ beCells 4 c)) := own8
  have z8 : w3.heap.size ≤ w8.heap.size := N8.size
  clear own8 n8 O7 N7 z7
  go_wp2_with fail
  refine (abe6 w3.heap.size (len + 8 + 8 + 4) 4 d (by omega) (by omega) _ _ _ O8.out z8 (by omega)).mono ?_
  rintro e w9 ⟨v9, rfl, own9, n9⟩
  have N9 : Below w3.heap.size w3 w9 := N8.trans n9
  have O9 : Hid (w9.ownsRow w3.heap.size 5 1 v9 (len + 8 + 8 + 4 + 4) (xs ++ beCells 8 a ++ beCells 8 b ++ beCells 4 c ++ beCells 4 d)) := own9
  have z9 : w3.heap.size ≤ w9.heap.size := N9.size
  clear own9 n9 O8 N8 z8
  go_wp2_with fail
  refine (abe6 w3.heap.size (len + 8 + 8 + 4 + 4) 4 f (by omega) (by omega) _ _ _ O9.out z9 (by omega)).mono ?_
  rintro e w10 ⟨v10, rfl, own10, n10⟩
  have N10 : Below w3.heap.size w3 w10 := N9.trans n10
  have O10 : Hid (w10.ownsRow w3.heap.size 5 1 v10 (len + 8 + 8 + 4 + 4 + 4) (xs ++ beCells 8 a ++ beCells 8 b ++ beCells 4 c ++ beCells 4 d ++ beCells 4 f)) := own10
  have z10 : w3.heap.size ≤ w10.heap.size := N10.size
  clear own10 n10 O9 N9 z9
  go_wp2_with (at_builtin; refine wpList_append_lies _ rfl _ _ 22 rfl w3.heap.size 5 i0 (.int .u8 0) 1 1 Yba.underlying22 hi hz0 hz1 hz2 rfl (by decide) _ _ _ rfl (O10.out.alloc _) _ 3 3 [Value.int .u8 0, Value.int .u8 0, Value.int .u8 0] rfl rfl ?c1 ?c2 (by decide) ?c3 ?c4 ?c5 (w10.heap.size + 1) ?c6 ?_)
  case c1 =>
    intro j u hj
    match j, hj with
    | 0, hj => simp at hj; subst hj; simp [Addr.add]
    | 1, hj => simp at hj; subst hj; simp [Addr.add]
    | 2, hj => simp at hj; subst hj; simp [Addr.add]
  case c2 => intro u hu; simp at hu; subst hu; rfl
  case c3 => unfold maxLen; omega
  case c4 => omega
  case c5 => simp; omega
  case c6 => simp
  intro g capw wf ownf grf atf _
  have NF : Below w3.heap.size w3 wf := (N10.alloc z10 _).grown grf (by simp; omega) (fun k h => (O10.out.lt k h).1)
  have F : Hid (∀ j, j < len + 31 → ∃ z : Int, wf.cell? ⟨g3, j, none⟩ = some (.int .u8 z) ∧ wf.cell? ⟨g, j, none⟩ = some (.int .u8 z)) := by
    intro j hj
    have hg3 : g3 < w3.heap.size := (O3.out.lt g3 rfl).2
    have c3 := O3.out.cellAt j (by omega)
    have cf := ownf.cellAt j (by omega)
    obtain ⟨z, hz⟩ := Bytes.at (l := xs ++ mutCells a b c d f) (H8.out.append ((Bytes.be 8 a).append ((Bytes.be 8 b).append ((Bytes.be 4 c).append ((Bytes.be 4 d).append ((Bytes.be 4 f).append (Bytes.ints [0, 0, 0]))))))) (j := j) (by rw [O3.out.1]; omega)
    exact ⟨z, (NF.cell (p := ⟨g3, j, none⟩) hg3).trans (c3.trans hz), cf.trans hz⟩
  have NW : Below w.heap.size w wf := N3.trans (NF.mono z3)
  have zf : w.heap.size ≤ wf.heap.size := NW.size
  clear ownf grf atf O10 N10 z10 NF O3 N3 HC HN HL HX H8 z3
  go_wp2_with fail
  go_loopw [17] (fun i wr => ∃ k : Nat, k ≤ len + 31 ∧ i = .int .i64 k ∧ Below wf.heap.size wf wr) (fun i _ => len + 31 - (intOf i).toNat)
  case atStart => exact ⟨0, Nat.zero_le _, rfl, Below.refl _ _⟩
  case round =>
    obtain ⟨k, hk, rfl, hnx⟩ := hrel
    by_cases hlt : k < len + 31
    · obtain ⟨z, hc1, hc2⟩ := F.out k hlt
      have hd1 : wr.cell? ⟨g3, k, none⟩ = some (.int .u8 z) := (hnx.cell (World.block_lt_of_cell? _ _ hc1)).trans hc1
      have hd2 : wr.cell? ⟨g, k, none⟩ = some (.int .u8 z) := (hnx.cell (World.block_lt_of_cell? _ _ hc2)).trans hc2
      clear hc1 hc2
      have hi0 : (0 : Int) ≤ (k : Int) := by omega
      have hi1 : (k : Int) < (len : Int) + 31 := by omega
      go_wp2_with fail
      go_quiet (fail)
      go_wp2
      go_roundw
      case rel => exact ⟨k + 1, by omega, by go_num, by first | exact hnx | exact below_drewN hnx _⟩
      case measure => simp [intOf]; omega
    · go_wp2_with fail
      go_ret
      exact ⟨rfl, NW.trans (hnx.mono zf)⟩

set_option maxHeartbeats 1000000 in
theorem law_long (ao : Option Addr) (len cap : Nat) (a b c d f : Nat) (w : World) (hlen : 1024 < len) :
    Calls Yba.prog 3 #[.slice ao len cap, .int .u64 a, .int .u64 b, .int .u32 c, .int .u32 d, .int .u32 f] w fun e w' => e = .returned (.bool true) ∧ Below w.heap.size w w' := by
  have h : (1024 : Int) < (len : Int) := by omega
  go_enter Yba.func3, Yba.ntmps3
  go_wp2
  go_ret
  exact ⟨rfl, Below.refl _ _⟩

end Go.Proofs.Ybulksfu
