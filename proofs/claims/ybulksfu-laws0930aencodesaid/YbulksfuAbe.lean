import Derived.Test.YbulksfuApp
import Derived.LoopTactic
import Derived.WalkSpells
/-! zzs0930abe: a number's bytes appended one by one, the greatest first. -/
namespace Go.Proofs.Ybulksfu
open Go.RowKit

theorem abe_step {B n k v j m : Nat} {X : Int} {xs : List Value} {w wr w1 : World} {o v' : Value} (hjr : j + (m + 1) = k) (hX : X = ((v / 256 ^ m % 256 : Nat) : Int))
    (hownr : wr.ownsRow B 5 1 o (n + j) (xs ++ (beCells k v).take j)) (hnx : Below B w wr) (hBw : B ≤ w.heap.size)
    (own1 : w1.ownsRow B 5 1 v' (n + j + 1) (xs ++ ((beCells k v).take j ++ [.int .u8 X]))) (gr : (wr.alloc (.cells #[.int .u8 X] 5)).grownBy w1 o.ownBlock) :
    w1.ownsRow B 5 1 v' (n + (j + 1)) (xs ++ (beCells k v).take (j + 1)) ∧ Below B w w1 := by
  have hz := hnx.size
  refine ⟨?_, (hnx.alloc (by omega) _).grown gr (by simp; omega) (fun g hg => (hownr.lt g hg).1)⟩
  rw [beCells_take k v j (by omega), show k - 1 - j = m by omega, ← hX]
  exact own1

set_option maxHeartbeats 4000000 in
set_option maxRecDepth 100000 in
theorem abe6 (B n k v : Nat) (hk : k ≤ 8) (hv : v < 18446744073709551616) (sv : Value) (xs : List Value) (w : World) (hown : w.ownsRow B 5 1 sv n xs) (hBw : B ≤ w.heap.size) (hlim : n + k ≤ 140737488355328) :
    Calls Yba.prog 6 #[sv, .int .u64 v, .int .i64 k] w fun e w' => ∃ v', e = .returned v' ∧ w'.ownsRow B 5 1 v' (n + k) (xs ++ beCells k v) ∧ Below B w w' := by
  obtain ⟨i0, hi, hz0, hz1, hz2⟩ := info_parts info5
  go_enter Yba.func6, Yba.ntmps6
  go_wp2
  go_loopw [0, 7] (fun o i wr => ∃ j r : Nat, j + r = k ∧ i = .int .i64 ((r : Int) - 1) ∧ wr.ownsRow B 5 1 o (n + j) (xs ++ (beCells k v).take j) ∧ Below B w wr) (fun _ i _ => (intOf i + 1).toNat)
  case atStart => exact ⟨0, k, by omega, rfl, by simpa using hown, Below.refl _ _⟩
  case round =>
    obtain ⟨j, r, hjr, rfl, hownr, hnx⟩ := hrel
    by_cases hr : r = 0
    · subst hr
      go_wp2
      go_ret
      obtain rfl : j = k := by omega
      exact ⟨_, rfl, by rw [List.take_of_length_le (by rw [beCells_length]; omega)] at hownr; exact hownr, hnx⟩
    · obtain ⟨m, rfl⟩ : ∃ m, r = m + 1 := ⟨r - 1, by omega⟩
      have hz := hnx.size
      rcases (by omega : m = 0 ∨ m = 1 ∨ m = 2 ∨ m = 3 ∨ m = 4 ∨ m = 5 ∨ m = 6 ∨ m = 7) with rfl | rfl | rfl | rfl | rfl | rfl | rfl | rfl
      · have HX : Hid ((v : Int) % 256 = ((v / 256 ^ 0 % 256 : Nat) : Int)) := show _ = _ by simp only [Nat.reducePow]; omega
        go_wp2_with (at_builtin; refine wpList_append_own _ rfl _ _ 22 rfl B 5 i0 (.int .u8 0) 1 1 Yba.underlying22 hi hz0 hz1 hz2 rfl (by decide) _ _ _ rfl (hownr.alloc _) _ 1 1 [.int .u8 ((v : Int) % 256)] rfl rfl (cell_one_new _ _ _) (by intro u hu; simp at hu; subst hu; rfl) (by unfold maxLen; omega) (by omega) (by simp; omega) ?_)
        intro v' w1 own1 gr _
        obtain ⟨R1, R2⟩ := abe_step hjr HX.out hownr hnx hBw own1 gr
        clear own1 gr hownr hnx HX
        go_wp2
        go_roundw
        case rel => exact ⟨j + 1, 0, by omega, by go_num, R1, R2⟩
        case measure => simp [intOf]
      · have HX : Hid ((v : Int) / 256 % 256 = ((v / 256 ^ 1 % 256 : Nat) : Int)) := show _ = _ by simp only [Nat.reducePow]; omega
        go_wp2_with (at_builtin; refine wpList_append_own _ rfl _ _ 22 rfl B 5 i0 (.int .u8 0) 1 1 Yba.underlying22 hi hz0 hz1 hz2 rfl (by decide) _ _ _ rfl (hownr.alloc _) _ 1 1 [.int .u8 ((v : Int) / 256 % 256)] rfl rfl (cell_one_new _ _ _) (by intro u hu; simp at hu; subst hu; rfl) (by unfold maxLen; omega) (by omega) (by simp; omega) ?_)
        intro v' w1 own1 gr _
        obtain ⟨R1, R2⟩ := abe_step hjr HX.out hownr hnx hBw own1 gr
        clear own1 gr hownr hnx HX
        go_wp2
        go_roundw
        case rel => exact ⟨j + 1, 1, by omega, by go_num, R1, R2⟩
        case measure => simp [intOf]
      · have HX : Hid ((v : Int) / 65536 % 256 = ((v / 256 ^ 2 % 256 : Nat) : Int)) := show _ = _ by simp only [Nat.reducePow]; omega
        go_wp2_with (at_builtin; refine wpList_append_own _ rfl _ _ 22 rfl B 5 i0 (.int .u8 0) 1 1 Yba.underlying22 hi hz0 hz1 hz2 rfl (by decide) _ _ _ rfl (hownr.alloc _) _ 1 1 [.int .u8 ((v : Int) / 65536 % 256)] rfl rfl (cell_one_new _ _ _) (by intro u hu; simp at hu; subst hu; rfl) (by unfold maxLen; omega) (by omega) (by simp; omega) ?_)
        intro v' w1 own1 gr _
        obtain ⟨R1, R2⟩ := abe_step hjr HX.out hownr hnx hBw own1 gr
        clear own1 gr hownr hnx HX
        go_wp2
        go_roundw
        case rel => exact ⟨j + 1, 2, by omega, by go_num, R1, R2⟩
        case measure => simp [intOf]
      · have HX : Hid ((v : Int) / 16777216 % 256 = ((v / 256 ^ 3 % 256 : Nat) : Int)) := show _ = _ by simp only [Nat.reducePow]; omega
        go_wp2_with (at_builtin; refine wpList_append_own _ rfl _ _ 22 rfl B 5 i0 (.int .u8 0) 1 1 Yba.underlying22 hi hz0 hz1 hz2 rfl (by decide) _ _ _ rfl (hownr.alloc _) _ 1 1 [.int .u8 ((v : Int) / 16777216 % 256)] rfl rfl (cell_one_new _ _ _) (by intro u hu; simp at hu; subst hu; rfl) (by unfold maxLen; omega) (by omega) (by simp; omega) ?_)
        intro v' w1 own1 gr _
        obtain ⟨R1, R2⟩ := abe_step hjr HX.out hownr hnx hBw own1 gr
        clear own1 gr hownr hnx HX
        go_wp2
        go_roundw
        case rel => exact ⟨j + 1, 3, by omega, by go_num, R1, R2⟩
        case measure => simp [intOf]
      · have HX : Hid ((v : Int) / 4294967296 % 256 = ((v / 256 ^ 4 % 256 : Nat) : Int)) := show _ = _ by simp only [Nat.reducePow]; omega
        go_wp2_with (at_builtin; refine wpList_append_own _ rfl _ _ 22 rfl B 5 i0 (.int .u8 0) 1 1 Yba.underlying22 hi hz0 hz1 hz2 rfl (by decide) _ _ _ rfl (hownr.alloc _) _ 1 1 [.int .u8 ((v : Int) / 4294967296 % 256)] rfl rfl (cell_one_new _ _ _) (by intro u hu; simp at hu; subst hu; rfl) (by unfold maxLen; omega) (by omega) (by simp; omega) ?_)
        intro v' w1 own1 gr _
        obtain ⟨R1, R2⟩ := abe_step hjr HX.out hownr hnx hBw own1 gr
        clear own1 gr hownr hnx HX
        go_wp2
        go_roundw
        case rel => exact ⟨j + 1, 4, by omega, by go_num, R1, R2⟩
        case measure => simp [intOf]
      · have HX : Hid ((v : Int) / 1099511627776 % 256 = ((v / 256 ^ 5 % 256 : Nat) : Int)) := show _ = _ by simp only [Nat.reducePow]; omega
        go_wp2_with (at_builtin; refine wpList_append_own _ rfl _ _ 22 rfl B 5 i0 (.int .u8 0) 1 1 Yba.underlying22 hi hz0 hz1 hz2 rfl (by decide) _ _ _ rfl (hownr.alloc _) _ 1 1 [.int .u8 ((v : Int) / 1099511627776 % 256)] rfl rfl (cell_one_new _ _ _) (by intro u hu; simp at hu; subst hu; rfl) (by unfold maxLen; omega) (by omega) (by simp; omega) ?_)
        intro v' w1 own1 gr _
        obtain ⟨R1, R2⟩ := abe_step hjr HX.out hownr hnx hBw own1 gr
        clear own1 gr hownr hnx HX
        go_wp2
        go_roundw
        case rel => exact ⟨j + 1, 5, by omega, by go_num, R1, R2⟩
        case measure => simp [intOf]
      · have HX : Hid ((v : Int) / 281474976710656 % 256 = ((v / 256 ^ 6 % 256 : Nat) : Int)) := show _ = _ by simp only [Nat.reducePow]; omega
        go_wp2_with (at_builtin; refine wpList_append_own _ rfl _ _ 22 rfl B 5 i0 (.int .u8 0) 1 1 Yba.underlying22 hi hz0 hz1 hz2 rfl (by decide) _ _ _ rfl (hownr.alloc _) _ 1 1 [.int .u8 ((v : Int) / 281474976710656 % 256)] rfl rfl (cell_one_new _ _ _) (by intro u hu; simp at hu; subst hu; rfl) (by unfold maxLen; omega) (by omega) (by simp; omega) ?_)
        intro v' w1 own1 gr _
        obtain ⟨R1, R2⟩ := abe_step hjr HX.out hownr hnx hBw own1 gr
        clear own1 gr hownr hnx HX
        go_wp2
        go_roundw
        case rel => exact ⟨j + 1, 6, by omega, by go_num, R1, R2⟩
        case measure => simp [intOf]
      · have HX : Hid ((v : Int) / 72057594037927936 = ((v / 256 ^ 7 % 256 : Nat) : Int)) := show _ = _ by simp only [Nat.reducePow]; omega
        go_wp2_with (at_builtin; refine wpList_append_own _ rfl _ _ 22 rfl B 5 i0 (.int .u8 0) 1 1 Yba.underlying22 hi hz0 hz1 hz2 rfl (by decide) _ _ _ rfl (hownr.alloc _) _ 1 1 [.int .u8 ((v : Int) / 72057594037927936)] rfl rfl (cell_one_new _ _ _) (by intro u hu; simp at hu; subst hu; rfl) (by unfold maxLen; omega) (by omega) (by simp; omega) ?_)
        intro v' w1 own1 gr _
        obtain ⟨R1, R2⟩ := abe_step hjr HX.out hownr hnx hBw own1 gr
        clear own1 gr hownr hnx HX
        go_wp2
        go_roundw
        case rel => exact ⟨j + 1, 7, by omega, by go_num, R1, R2⟩
        case measure => simp [intOf]

end Go.Proofs.Ybulksfu
