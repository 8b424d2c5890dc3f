import Derived.Test.YbulkskqSize
import Derived.LaidEqlPtr
/-! LawS0939ASize. -/
namespace Go.Proofs.Ybulkskq
open Go.RowKit

/-- The first j numbers are 1, 2, .., j. -/
def Up (l : List Int) (ln j : Nat) : Prop := l.length = ln ∧ ∀ i, i < j → l[i]? = some ((i : Int) + 1)

theorem Up.set {l : List Int} {ln j : Nat} (h : Up l ln j) (hj : j < ln) : Up (l.set j ((j : Int) + 1)) ln (j + 1) := by
  refine ⟨by rw [List.length_set]; exact h.1, fun i hi => ?_⟩
  by_cases e : i = j
  · subst e; rw [List.getElem?_set_self (by rw [h.1]; exact hj)]
  · rw [List.getElem?_set_ne (Ne.symm e)]; exact h.2 i (by omega)

theorem run_neq_ptr_same {P : Program} (w : World) {tp te : TypeId} {j : TypeInfo} (a : Addr) (hp : P.underlying tp = some (.pointer te)) (hte : P.info? te = some j) :
    (binOp .neq tp (.pointer (some a)) (.pointer (some a))).run P w = .ok (.bool false) w := by
  have h : ∀ d : Nat, (Op.equalIn (d + 1) tp (.pointer (some a)) (.pointer (some a))).run P w = .ok true w := fun d => by
    simp [Op.equalIn, run_underlying hp, sizeOf, typeInfo, hte, run_sameAddr_same]
  simp only [binOp]
  simp [Op.equal, Op.maxDepth, h 9999]

theorem below_drewN {B : Nat} {w w' : World} (h : Below B w w') : ∀ n, Below B w (w'.drewN n)
  | 0 => h
  | n + 1 => (below_drewN h n).drew

theorem blk_cell {w : World} {R : Nat} {s : Value} {u z b l : Int} (h : Blk w R s u z b l) : w.cell? ⟨R, 0, none⟩ = some s ∧ w.cell? ⟨R, 1, none⟩ = some (.int .i64 u) ∧ w.cell? ⟨R, 2, none⟩ = some (.int .i64 z) ∧ w.cell? ⟨R, 3, none⟩ = some (.int .i64 b) ∧ w.cell? ⟨R, 4, none⟩ = some (.int .i64 l) :=
  ⟨by rw [cell_of_row w R _ _ _ _ h]; rfl, by rw [cell_of_row w R _ _ _ _ h]; rfl, by rw [cell_of_row w R _ _ _ _ h]; rfl, by rw [cell_of_row w R _ _ _ _ h]; rfl, by rw [cell_of_row w R _ _ _ _ h]; rfl⟩

set_option maxHeartbeats 1000000 in
set_option maxRecDepth 100000 in
theorem law_new_big (q ln : Nat) (n : Int) (u z b l : Int) (w : World) (hq : (q : Int) % 2048 = (ln : Int)) (hln : ln < 2048) (hbig : 1024 < n) (hlt : ln < 1024) :
    Calls Yba.prog 3 #[.int .u16 q, .int .i64 n, .int .i64 u, .int .i64 z, .int .i64 b, .int .i64 l] w fun e w' => e = .returned (.bool true) ∧ Below w.heap.size w w' := by
  obtain ⟨i0, hi, hz0, hz1, hz2⟩ := info_parts info3
  go_enter Yba.func3, Yba.ntmps3
  go_wp2_with (at_make; refine wpList_make_full _ rfl _ _ 23 rfl w.heap.size 3 i0 (.int .i64 0) 1 Yba.underlying23 hi hz0 hz1 _ _ _ _ ln rfl rfl rfl rfl (by rw [hz2]; omega) (by unfold maxLen; omega) (Nat.le_refl _) ?_)
  intro w1 own1 gr1
  have R1 : Hid (Row w1 w.heap.size (List.replicate ln 0)) := row_made own1
  have N1 : Below w.heap.size w w1 := (Below.refl _ _).grown gr1 (Nat.le_refl _) (fun k h => by cases h)
  clear own1 gr1
  go_wp2
  go_loopw [15] (fun i wr => ∃ (j : Nat) (xs : List Int), j ≤ ln ∧ i = .int .i64 j ∧ Up xs ln j ∧ Row wr w.heap.size xs ∧ Below w.heap.size w wr) (fun i _ => ln - (intOf i).toNat)
  case atStart => exact ⟨0, _, Nat.zero_le _, rfl, ⟨List.length_replicate, fun i h => absurd h (by omega)⟩, R1.out, N1⟩
  case round =>
    obtain ⟨j, xs, hj, rfl, hup, hrow, hnx⟩ := hrel
    have HU : Hid (Up xs ln j) := hup
    have HR : Hid (Row wr w.heap.size xs) := hrow
    clear hup hrow R1 N1
    by_cases hjl : j < ln
    · obtain ⟨v, hv⟩ : ∃ v, xs[j]? = some v := ⟨_, List.getElem?_eq_getElem (by rw [HU.out.1]; omega)⟩
      have hc := HR.out.cell hv
      have hf := HR.out.frozen j
      clear hv
      go_wp2
      go_roundw
      case rel => exact ⟨j + 1, _, by omega, by go_num, HU.out.set hjl, HR.out.set j _, hnx.setCell (Nat.le_refl _) _⟩
      case measure => simp [intOf]; omega
    · obtain rfl : j = ln := by omega
      obtain ⟨w2, hw2⟩ : ∃ w2 : World, w2 = wr.alloc (.cells #[.slice (some ⟨w.heap.size, 0, none⟩) j j, .int .i64 u, .int .i64 z, .int .i64 b, .int .i64 l] 26) := ⟨_, rfl⟩
      have hB2 : Hid (Blk w2 wr.heap.size (.slice (some ⟨w.heap.size, 0, none⟩) j j) u z b l) := by subst hw2; exact heap_alloc_new wr _
      have hR2 : Hid (Row w2 w.heap.size xs) := by subst hw2; exact HR.out.below ((Below.refl _ _).alloc (Nat.le_refl _) _) HR.out.lt
      have N2 : Below w.heap.size w w2 := by subst hw2; exact hnx.alloc hnx.size _
      have hlt0 : w.heap.size < wr.heap.size := HR.out.lt
      go_wp2_with fail
      go_at_call 4
      rw [← hw2]
      refine (sizeFor_new wr.heap.size j 1024 _ _ _ u z b l w2 hB2.out (if_pos hbig) hlt (Nat.le_refl _)).mono ?_
      rintro e w3 ⟨rfl, hB3, hR3, hbel⟩
      obtain ⟨c0, c1, c2, c3, c4⟩ := blk_cell hB3
      have HR3 : Hid (Row w3 w2.heap.size (List.replicate 1024 0)) := hR3
      have N3 : Below w.heap.size w w3 := N2.trans (hbel.mono (Nat.le_of_lt hlt0))
      clear hB3 hR3 hbel hB2 hR2 HR HU N2 hnx hw2
      go_wp2
      go_loop [18] (fun i => ∃ k : Nat, k ≤ 1024 ∧ i = .int .i64 k) (fun i => 1024 - (intOf i).toNat)
      case atStart => exact ⟨0, Nat.zero_le _, rfl⟩
      case round =>
        obtain ⟨k, hk, rfl⟩ := hrel
        by_cases hkm : k < 1024
        · have hcz := HR3.out.cell (j := k) (z := 0) (by rw [List.getElem?_replicate, if_pos hkm])
          go_wp2
          go_round
          case rel => exact ⟨k + 1, by omega, by go_num⟩
          case measure => simp [intOf]; omega
        · obtain rfl : k = 1024 := by omega
          go_wp2
          go_ret
          exact ⟨rfl, N3⟩

set_option maxHeartbeats 1000000 in
set_option maxRecDepth 100000 in
theorem law_new_small (q ln : Nat) (m : Nat) (u z b l : Int) (w : World) (hq : (q : Int) % 2048 = (ln : Int)) (hln : ln < 2048) (hlt : ln < m) (hm2 : m ≤ 1024) :
    Calls Yba.prog 3 #[.int .u16 q, .int .i64 m, .int .i64 u, .int .i64 z, .int .i64 b, .int .i64 l] w fun e w' => e = .returned (.bool true) ∧ Below w.heap.size w w' := by
  obtain ⟨i0, hi, hz0, hz1, hz2⟩ := info_parts info3
  go_enter Yba.func3, Yba.ntmps3
  go_wp2_with (at_make; refine wpList_make_full _ rfl _ _ 23 rfl w.heap.size 3 i0 (.int .i64 0) 1 Yba.underlying23 hi hz0 hz1 _ _ _ _ ln rfl rfl rfl rfl (by rw [hz2]; omega) (by unfold maxLen; omega) (Nat.le_refl _) ?_)
  intro w1 own1 gr1
  have R1 : Hid (Row w1 w.heap.size (List.replicate ln 0)) := row_made own1
  have N1 : Below w.heap.size w w1 := (Below.refl _ _).grown gr1 (Nat.le_refl _) (fun k h => by cases h)
  clear own1 gr1
  go_wp2
  go_loopw [15] (fun i wr => ∃ (j : Nat) (xs : List Int), j ≤ ln ∧ i = .int .i64 j ∧ Up xs ln j ∧ Row wr w.heap.size xs ∧ Below w.heap.size w wr) (fun i _ => ln - (intOf i).toNat)
  case atStart => exact ⟨0, _, Nat.zero_le _, rfl, ⟨List.length_replicate, fun i h => absurd h (by omega)⟩, R1.out, N1⟩
  case round =>
    obtain ⟨j, xs, hj, rfl, hup, hrow, hnx⟩ := hrel
    have HU : Hid (Up xs ln j) := hup
    have HR : Hid (Row wr w.heap.size xs) := hrow
    clear hup hrow R1 N1
    by_cases hjl : j < ln
    · obtain ⟨v, hv⟩ : ∃ v, xs[j]? = some v := ⟨_, List.getElem?_eq_getElem (by rw [HU.out.1]; omega)⟩
      have hc := HR.out.cell hv
      have hf := HR.out.frozen j
      clear hv
      go_wp2
      go_roundw
      case rel => exact ⟨j + 1, _, by omega, by go_num, HU.out.set hjl, HR.out.set j _, hnx.setCell (Nat.le_refl _) _⟩
      case measure => simp [intOf]; omega
    · obtain rfl : j = ln := by omega
      obtain ⟨w2, hw2⟩ : ∃ w2 : World, w2 = wr.alloc (.cells #[.slice (some ⟨w.heap.size, 0, none⟩) j j, .int .i64 u, .int .i64 z, .int .i64 b, .int .i64 l] 26) := ⟨_, rfl⟩
      have hB2 : Hid (Blk w2 wr.heap.size (.slice (some ⟨w.heap.size, 0, none⟩) j j) u z b l) := by subst hw2; exact heap_alloc_new wr _
      have hR2 : Hid (Row w2 w.heap.size xs) := by subst hw2; exact HR.out.below ((Below.refl _ _).alloc (Nat.le_refl _) _) HR.out.lt
      have N2 : Below w.heap.size w w2 := by subst hw2; exact hnx.alloc hnx.size _
      have hlt0 : w.heap.size < wr.heap.size := HR.out.lt
      go_wp2_with fail
      go_at_call 4
      rw [← hw2]
      refine (sizeFor_new wr.heap.size j m _ _ _ u z b l w2 hB2.out (if_neg (by omega)) hlt hm2).mono ?_
      rintro e w3 ⟨rfl, hB3, hR3, hbel⟩
      obtain ⟨c0, c1, c2, c3, c4⟩ := blk_cell hB3
      have HR3 : Hid (Row w3 w2.heap.size (List.replicate m 0)) := hR3
      have N3 : Below w.heap.size w w3 := N2.trans (hbel.mono (Nat.le_of_lt hlt0))
      clear hB3 hR3 hbel hB2 hR2 HR HU N2 hnx hw2
      go_wp2
      go_loop [18] (fun i => ∃ k : Nat, k ≤ m ∧ i = .int .i64 k) (fun i => m - (intOf i).toNat)
      case atStart => exact ⟨0, Nat.zero_le _, rfl⟩
      case round =>
        obtain ⟨k, hk, rfl⟩ := hrel
        by_cases hkm : k < m
        · have hcz := HR3.out.cell (j := k) (z := 0) (by rw [List.getElem?_replicate, if_pos hkm])
          go_wp2
          go_round
          case rel => exact ⟨k + 1, by omega, by go_num⟩
          case measure => simp [intOf]; omega
        · obtain rfl : k = m := by omega
          go_wp2
          go_ret
          exact ⟨rfl, N3⟩

set_option maxHeartbeats 1000000 in
set_option maxRecDepth 100000 in
theorem law_keep_big (q ln : Nat) (n : Int) (u z b l : Int) (w : World) (hq : (q : Int) % 2048 = (ln : Int)) (hln : ln < 2048) (hbig : 1024 < n) (hge : 1024 ≤ ln) :
    Calls Yba.prog 3 #[.int .u16 q, .int .i64 n, .int .i64 u, .int .i64 z, .int .i64 b, .int .i64 l] w fun e w' => e = .returned (.bool true) ∧ Below w.heap.size w w' := by
  obtain ⟨i0, hi, hz0, hz1, hz2⟩ := info_parts info3
  go_enter Yba.func3, Yba.ntmps3
  go_wp2_with (at_make; refine wpList_make_full _ rfl _ _ 23 rfl w.heap.size 3 i0 (.int .i64 0) 1 Yba.underlying23 hi hz0 hz1 _ _ _ _ ln rfl rfl rfl rfl (by rw [hz2]; omega) (by unfold maxLen; omega) (Nat.le_refl _) ?_)
  intro w1 own1 gr1
  have R1 : Hid (Row w1 w.heap.size (List.replicate ln 0)) := row_made own1
  have N1 : Below w.heap.size w w1 := (Below.refl _ _).grown gr1 (Nat.le_refl _) (fun k h => by cases h)
  clear own1 gr1
  go_wp2
  go_loopw [15] (fun i wr => ∃ (j : Nat) (xs : List Int), j ≤ ln ∧ i = .int .i64 j ∧ Up xs ln j ∧ Row wr w.heap.size xs ∧ Below w.heap.size w wr) (fun i _ => ln - (intOf i).toNat)
  case atStart => exact ⟨0, _, Nat.zero_le _, rfl, ⟨List.length_replicate, fun i h => absurd h (by omega)⟩, R1.out, N1⟩
  case round =>
    obtain ⟨j, xs, hj, rfl, hup, hrow, hnx⟩ := hrel
    have HU : Hid (Up xs ln j) := hup
    have HR : Hid (Row wr w.heap.size xs) := hrow
    clear hup hrow R1 N1
    by_cases hjl : j < ln
    · obtain ⟨v, hv⟩ : ∃ v, xs[j]? = some v := ⟨_, List.getElem?_eq_getElem (by rw [HU.out.1]; omega)⟩
      have hc := HR.out.cell hv
      have hf := HR.out.frozen j
      clear hv
      go_wp2
      go_roundw
      case rel => exact ⟨j + 1, _, by omega, by go_num, HU.out.set hjl, HR.out.set j _, hnx.setCell (Nat.le_refl _) _⟩
      case measure => simp [intOf]; omega
    · obtain rfl : j = ln := by omega
      obtain ⟨w2, hw2⟩ : ∃ w2 : World, w2 = wr.alloc (.cells #[.slice (some ⟨w.heap.size, 0, none⟩) j j, .int .i64 u, .int .i64 z, .int .i64 b, .int .i64 l] 26) := ⟨_, rfl⟩
      have hB2 : Hid (Blk w2 wr.heap.size (.slice (some ⟨w.heap.size, 0, none⟩) j j) u z b l) := by subst hw2; exact heap_alloc_new wr _
      have hR2 : Hid (Row w2 w.heap.size xs) := by subst hw2; exact HR.out.below ((Below.refl _ _).alloc (Nat.le_refl _) _) HR.out.lt
      have N2 : Below w.heap.size w w2 := by subst hw2; exact hnx.alloc hnx.size _
      have hlt0 : w.heap.size < wr.heap.size := HR.out.lt
      go_wp2_with fail
      go_at_call 4
      rw [← hw2]
      refine (sizeFor_keep wr.heap.size j _ _ _ u z b l w2 hB2.out (by rw [if_pos hbig]; omega)).mono ?_
      rintro e w3 ⟨rfl, rfl⟩
      obtain ⟨c0, c1, c2, c3, c4⟩ := blk_cell hB2.out
      clear hB2 HR hnx hw2
      go_wp2
      go_loop [19] (fun i => ∃ k : Nat, k ≤ j ∧ i = .int .i64 k) (fun i => j - (intOf i).toNat)
      case atStart => exact ⟨0, Nat.zero_le _, rfl⟩
      case round =>
        obtain ⟨k, hk, rfl⟩ := hrel
        by_cases hkm : k < j
        · have hcz := hR2.out.cell (HU.out.2 k hkm)
          go_wp2
          go_round
          case rel => exact ⟨k + 1, by omega, by go_num⟩
          case measure => simp [intOf]; omega
        · obtain rfl : k = j := by omega
          by_cases hk0 : 0 < k
          · have hcz := hR2.out.cell (HU.out.2 0 hk0)
            have hd : decide ((k : Int) > 0) = true := by simp; omega
            have hd' : decide ((0 : Int) < (k : Int)) = true := by simp; omega
            go_wp2_with fail
            have hneq := fun (W : World) => run_neq_ptr_same (P := Yba.prog) W ⟨w.heap.size, 0, none⟩ Yba.underlying28 hi
            go_quiet (fail)
            go_wp2
            go_ret
            exact ⟨rfl, below_drewN N2 _⟩
          · have hd : decide ((k : Int) > 0) = false := by simp; omega
            have hd' : decide ((0 : Int) < (k : Int)) = false := by simp; omega
            go_wp2_with fail
            go_quiet (fail)
            go_wp2
            go_ret
            exact ⟨rfl, below_drewN N2 _⟩

set_option maxHeartbeats 1000000 in
set_option maxRecDepth 100000 in
theorem law_keep_small (q ln : Nat) (n : Int) (u z b l : Int) (w : World) (hq : (q : Int) % 2048 = (ln : Int)) (hln : ln < 2048) (hsm : ¬ 1024 < n) (hge : ¬ (ln : Int) < n) :
    Calls Yba.prog 3 #[.int .u16 q, .int .i64 n, .int .i64 u, .int .i64 z, .int .i64 b, .int .i64 l] w fun e w' => e = .returned (.bool true) ∧ Below w.heap.size w w' := by
  obtain ⟨i0, hi, hz0, hz1, hz2⟩ := info_parts info3
  go_enter Yba.func3, Yba.ntmps3
  go_wp2_with (at_make; refine wpList_make_full _ rfl _ _ 23 rfl w.heap.size 3 i0 (.int .i64 0) 1 Yba.underlying23 hi hz0 hz1 _ _ _ _ ln rfl rfl rfl rfl (by rw [hz2]; omega) (by unfold maxLen; omega) (Nat.le_refl _) ?_)
  intro w1 own1 gr1
  have R1 : Hid (Row w1 w.heap.size (List.replicate ln 0)) := row_made own1
  have N1 : Below w.heap.size w w1 := (Below.refl _ _).grown gr1 (Nat.le_refl _) (fun k h => by cases h)
  clear own1 gr1
  go_wp2
  go_loopw [15] (fun i wr => ∃ (j : Nat) (xs : List Int), j ≤ ln ∧ i = .int .i64 j ∧ Up xs ln j ∧ Row wr w.heap.size xs ∧ Below w.heap.size w wr) (fun i _ => ln - (intOf i).toNat)
  case atStart => exact ⟨0, _, Nat.zero_le _, rfl, ⟨List.length_replicate, fun i h => absurd h (by omega)⟩, R1.out, N1⟩
  case round =>
    obtain ⟨j, xs, hj, rfl, hup, hrow, hnx⟩ := hrel
    have HU : Hid (Up xs ln j) := hup
    have HR : Hid (Row wr w.heap.size xs) := hrow
    clear hup hrow R1 N1
    by_cases hjl : j < ln
    · obtain ⟨v, hv⟩ : ∃ v, xs[j]? = some v := ⟨_, List.getElem?_eq_getElem (by rw [HU.out.1]; omega)⟩
      have hc := HR.out.cell hv
      have hf := HR.out.frozen j
      clear hv
      go_wp2
      go_roundw
      case rel => exact ⟨j + 1, _, by omega, by go_num, HU.out.set hjl, HR.out.set j _, hnx.setCell (Nat.le_refl _) _⟩
      case measure => simp [intOf]; omega
    · obtain rfl : j = ln := by omega
      obtain ⟨w2, hw2⟩ : ∃ w2 : World, w2 = wr.alloc (.cells #[.slice (some ⟨w.heap.size, 0, none⟩) j j, .int .i64 u, .int .i64 z, .int .i64 b, .int .i64 l] 26) := ⟨_, rfl⟩
      have hB2 : Hid (Blk w2 wr.heap.size (.slice (some ⟨w.heap.size, 0, none⟩) j j) u z b l) := by subst hw2; exact heap_alloc_new wr _
      have hR2 : Hid (Row w2 w.heap.size xs) := by subst hw2; exact HR.out.below ((Below.refl _ _).alloc (Nat.le_refl _) _) HR.out.lt
      have N2 : Below w.heap.size w w2 := by subst hw2; exact hnx.alloc hnx.size _
      have hlt0 : w.heap.size < wr.heap.size := HR.out.lt
      go_wp2_with fail
      go_at_call 4
      rw [← hw2]
      refine (sizeFor_keep wr.heap.size j _ _ _ u z b l w2 hB2.out (by rw [if_neg (by omega)]; omega)).mono ?_
      rintro e w3 ⟨rfl, rfl⟩
      obtain ⟨c0, c1, c2, c3, c4⟩ := blk_cell hB2.out
      clear hB2 HR hnx hw2
      go_wp2
      go_loop [19] (fun i => ∃ k : Nat, k ≤ j ∧ i = .int .i64 k) (fun i => j - (intOf i).toNat)
      case atStart => exact ⟨0, Nat.zero_le _, rfl⟩
      case round =>
        obtain ⟨k, hk, rfl⟩ := hrel
        by_cases hkm : k < j
        · have hcz := hR2.out.cell (HU.out.2 k hkm)
          go_wp2
          go_round
          case rel => exact ⟨k + 1, by omega, by go_num⟩
          case measure => simp [intOf]; omega
        · obtain rfl : k = j := by omega
          by_cases hk0 : 0 < k
          · have hcz := hR2.out.cell (HU.out.2 0 hk0)
            have hd : decide ((k : Int) > 0) = true := by simp; omega
            have hd' : decide ((0 : Int) < (k : Int)) = true := by simp; omega
            go_wp2_with fail
            have hneq := fun (W : World) => run_neq_ptr_same (P := Yba.prog) W ⟨w.heap.size, 0, none⟩ Yba.underlying28 hi
            go_quiet (fail)
            go_wp2
            go_ret
            exact ⟨rfl, below_drewN N2 _⟩
          · have hd : decide ((k : Int) > 0) = false := by simp; omega
            have hd' : decide ((0 : Int) < (k : Int)) = false := by simp; omega
            go_wp2_with fail
            go_quiet (fail)
            go_wp2
            go_ret
            exact ⟨rfl, below_drewN N2 _⟩

end Go.Proofs.Ybulkskq
