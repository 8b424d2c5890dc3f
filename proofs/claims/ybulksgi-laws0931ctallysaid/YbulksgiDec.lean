import Derived.Test.YbulksgiKey
import Derived.Lib.EndianBits
/-! zzs0931cdecode: the two numbers out of the sixteen bytes. -/
namespace Go.Proofs.Ybulksgi
open Go.RowKit

theorem wraps64 : ∀ n : Int, 0 ≤ n → n < 2 ^ 64 → IntKind.u64.wrap n = n := by
  intro n h1 h2
  simp [IntKind.wrap, IntKind.signed, IntKind.bits]
  omega

theorem mod_next (F P : Nat) : F % (P * 256) = F % P + F / P % 256 * P := by
  rw [Nat.mod_mul, Nat.mul_comm P]

set_option maxHeartbeats 1000000 in
set_option maxRecDepth 100000 in
theorem dec6 (F G : Nat) (hF : F < 18446744073709551616) (hG : G < 9223372036854775808) (f : Int) (hf : IntKind.i64.wrap (F : Int) = f) (w : World) :
    Calls Yba.prog 6 #[.agg (kb F G).toArray] w fun e w' => e = .returned (.tuple #[.int .i64 f, .int .u64 G]) ∧ Below w.heap.size w w' := by
  obtain ⟨W, hW⟩ : ∃ W : World, W = w.alloc (.cells (kb F G).toArray 88) := ⟨_, rfl⟩
  have HC : Hid (∀ j v, (kb F G)[j]? = some v → W.cell? ⟨w.heap.size, j, none⟩ = some v) := fun j v hv => by
    rw [hW, cell_of_row _ _ _ _ _ _ (heap_alloc_new _ _)]; simpa using hv
  have HB : Hid (Below w.heap.size w W) := by rw [hW]; exact (Below.refl _ _).alloc (Nat.le_refl _) _
  go_enter Yba.func6, Yba.ntmps6
  go_wp2_with fail
  rw [← hW]
  clear hW
  go_loop [4, 5, 6] (fun a b i => ∃ j : Nat, j ≤ 8 ∧ i = .int .i64 j ∧ a = .int .u64 ((F % 256 ^ j : Nat) : Int) ∧ b = .int .u64 ((G % 256 ^ j : Nat) : Int)) (fun _ _ i => 8 - (intOf i).toNat)
  case atStart => exact ⟨0, by omega, rfl, by simp, by simp⟩
  case round =>
    obtain ⟨j, hj, rfl, rfl, rfl⟩ := hrel
    rcases (by omega : j = 0 ∨ j = 1 ∨ j = 2 ∨ j = 3 ∨ j = 4 ∨ j = 5 ∨ j = 6 ∨ j = 7 ∨ j = 8) with rfl | rfl | rfl | rfl | rfl | rfl | rfl | rfl | rfl
    · have hc1 := HC.out 0 (by8 F 0) rfl
      have hc2 := HC.out 8 (by8 G 0) rfl
      have N1 : Hid (F % 256 = F % 1 + F / 1 % 256 * 1) := mod_next F 1
      have N2 : Hid (G % 256 = G % 1 + G / 1 % 256 * 1) := mod_next G 1
      have hb1 : F / 1 % 256 < 256 := Nat.mod_lt _ (by decide)
      have hb2 : G / 1 % 256 < 256 := Nat.mod_lt _ (by decide)
      have ha1 : F % 1 < 1 := Nat.mod_lt _ (by decide)
      have ha2 : G % 1 < 1 := Nat.mod_lt _ (by decide)
      have e1 : (256 : Nat) ^ 0 = 1 := by decide
      rw [by8, e1] at hc1 hc2
      simp only [e1]
      clear e1
      generalize F / 1 % 256 = b1 at *
      generalize G / 1 % 256 = b2 at *
      generalize F % 1 = a1 at *
      generalize G % 1 = a2 at *
      have O1 : Hid (bits .or .u64 (a1 : Int) ((b1 : Int)) = (a1 : Int) + (b1 : Int)) := show _ = _ from bits_join_low .u64 64 (by decide) wraps64 0 _ _ (by omega) (by omega) (by omega) (by omega) (by omega) (by omega)
      have O2 : Hid (bits .or .u64 (a2 : Int) ((b2 : Int)) = (a2 : Int) + (b2 : Int)) := show _ = _ from bits_join_low .u64 64 (by decide) wraps64 0 _ _ (by omega) (by omega) (by omega) (by omega) (by omega) (by omega)
      go_wp2
      go_round
      case rel =>
        refine ⟨1, by omega, by go_num, ?_, ?_⟩
        · have e1 : (256 : Nat) ^ 1 = 256 := by decide
          rw [e1, N1.out, O1.out]; congr 1 <;> omega
        · have e1 : (256 : Nat) ^ 1 = 256 := by decide
          rw [e1, N2.out, O2.out]; congr 1 <;> omega
      case measure => simp [intOf]
    · have hc1 := HC.out 1 (by8 F 1) rfl
      have hc2 := HC.out 9 (by8 G 1) rfl
      have N1 : Hid (F % 65536 = F % 256 + F / 256 % 256 * 256) := mod_next F 256
      have N2 : Hid (G % 65536 = G % 256 + G / 256 % 256 * 256) := mod_next G 256
      have hb1 : F / 256 % 256 < 256 := Nat.mod_lt _ (by decide)
      have hb2 : G / 256 % 256 < 256 := Nat.mod_lt _ (by decide)
      have ha1 : F % 256 < 256 := Nat.mod_lt _ (by decide)
      have ha2 : G % 256 < 256 := Nat.mod_lt _ (by decide)
      have e1 : (256 : Nat) ^ 1 = 256 := by decide
      rw [by8, e1] at hc1 hc2
      simp only [e1]
      clear e1
      generalize F / 256 % 256 = b1 at *
      generalize G / 256 % 256 = b2 at *
      generalize F % 256 = a1 at *
      generalize G % 256 = a2 at *
      have O1 : Hid (bits .or .u64 (a1 : Int) ((b1 : Int) * 256) = (a1 : Int) + (b1 : Int) * 256) := show _ = _ from bits_join_low .u64 64 (by decide) wraps64 8 _ _ (by omega) (by omega) (by omega) (by omega) (by omega) (by omega)
      have O2 : Hid (bits .or .u64 (a2 : Int) ((b2 : Int) * 256) = (a2 : Int) + (b2 : Int) * 256) := show _ = _ from bits_join_low .u64 64 (by decide) wraps64 8 _ _ (by omega) (by omega) (by omega) (by omega) (by omega) (by omega)
      go_wp2
      go_round
      case rel =>
        refine ⟨2, by omega, by go_num, ?_, ?_⟩
        · have e1 : (256 : Nat) ^ 2 = 65536 := by decide
          rw [e1, N1.out, O1.out]; congr 1 <;> omega
        · have e1 : (256 : Nat) ^ 2 = 65536 := by decide
          rw [e1, N2.out, O2.out]; congr 1 <;> omega
      case measure => simp [intOf]
    · have hc1 := HC.out 2 (by8 F 2) rfl
      have hc2 := HC.out 10 (by8 G 2) rfl
      have N1 : Hid (F % 16777216 = F % 65536 + F / 65536 % 256 * 65536) := mod_next F 65536
      have N2 : Hid (G % 16777216 = G % 65536 + G / 65536 % 256 * 65536) := mod_next G 65536
      have hb1 : F / 65536 % 256 < 256 := Nat.mod_lt _ (by decide)
      have hb2 : G / 65536 % 256 < 256 := Nat.mod_lt _ (by decide)
      have ha1 : F % 65536 < 65536 := Nat.mod_lt _ (by decide)
      have ha2 : G % 65536 < 65536 := Nat.mod_lt _ (by decide)
      have e1 : (256 : Nat) ^ 2 = 65536 := by decide
      rw [by8, e1] at hc1 hc2
      simp only [e1]
      clear e1
      generalize F / 65536 % 256 = b1 at *
      generalize G / 65536 % 256 = b2 at *
      generalize F % 65536 = a1 at *
      generalize G % 65536 = a2 at *
      have O1 : Hid (bits .or .u64 (a1 : Int) ((b1 : Int) * 65536) = (a1 : Int) + (b1 : Int) * 65536) := show _ = _ from bits_join_low .u64 64 (by decide) wraps64 16 _ _ (by omega) (by omega) (by omega) (by omega) (by omega) (by omega)
      have O2 : Hid (bits .or .u64 (a2 : Int) ((b2 : Int) * 65536) = (a2 : Int) + (b2 : Int) * 65536) := show _ = _ from bits_join_low .u64 64 (by decide) wraps64 16 _ _ (by omega) (by omega) (by omega) (by omega) (by omega) (by omega)
      go_wp2
      go_round
      case rel =>
        refine ⟨3, by omega, by go_num, ?_, ?_⟩
        · have e1 : (256 : Nat) ^ 3 = 16777216 := by decide
          rw [e1, N1.out, O1.out]; congr 1 <;> omega
        · have e1 : (256 : Nat) ^ 3 = 16777216 := by decide
          rw [e1, N2.out, O2.out]; congr 1 <;> omega
      case measure => simp [intOf]
    · have hc1 := HC.out 3 (by8 F 3) rfl
      have hc2 := HC.out 11 (by8 G 3) rfl
      have N1 : Hid (F % 4294967296 = F % 16777216 + F / 16777216 % 256 * 16777216) := mod_next F 16777216
      have N2 : Hid (G % 4294967296 = G % 16777216 + G / 16777216 % 256 * 16777216) := mod_next G 16777216
      have hb1 : F / 16777216 % 256 < 256 := Nat.mod_lt _ (by decide)
      have hb2 : G / 16777216 % 256 < 256 := Nat.mod_lt _ (by decide)
      have ha1 : F % 16777216 < 16777216 := Nat.mod_lt _ (by decide)
      have ha2 : G % 16777216 < 16777216 := Nat.mod_lt _ (by decide)
      have e1 : (256 : Nat) ^ 3 = 16777216 := by decide
      rw [by8, e1] at hc1 hc2
      simp only [e1]
      clear e1
      generalize F / 16777216 % 256 = b1 at *
      generalize G / 16777216 % 256 = b2 at *
      generalize F % 16777216 = a1 at *
      generalize G % 16777216 = a2 at *
      have O1 : Hid (bits .or .u64 (a1 : Int) ((b1 : Int) * 16777216) = (a1 : Int) + (b1 : Int) * 16777216) := show _ = _ from bits_join_low .u64 64 (by decide) wraps64 24 _ _ (by omega) (by omega) (by omega) (by omega) (by omega) (by omega)
      have O2 : Hid (bits .or .u64 (a2 : Int) ((b2 : Int) * 16777216) = (a2 : Int) + (b2 : Int) * 16777216) := show _ = _ from bits_join_low .u64 64 (by decide) wraps64 24 _ _ (by omega) (by omega) (by omega) (by omega) (by omega) (by omega)
      go_wp2
      go_round
      case rel =>
        refine ⟨4, by omega, by go_num, ?_, ?_⟩
        · have e1 : (256 : Nat) ^ 4 = 4294967296 := by decide
          rw [e1, N1.out, O1.out]; congr 1 <;> omega
        · have e1 : (256 : Nat) ^ 4 = 4294967296 := by decide
          rw [e1, N2.out, O2.out]; congr 1 <;> omega
      case measure => simp [intOf]
    · have hc1 := HC.out 4 (by8 F 4) rfl
      have hc2 := HC.out 12 (by8 G 4) rfl
      have N1 : Hid (F % 1099511627776 = F % 4294967296 + F / 4294967296 % 256 * 4294967296) := mod_next F 4294967296
      have N2 : Hid (G % 1099511627776 = G % 4294967296 + G / 4294967296 % 256 * 4294967296) := mod_next G 4294967296
      have hb1 : F / 4294967296 % 256 < 256 := Nat.mod_lt _ (by decide)
      have hb2 : G / 4294967296 % 256 < 256 := Nat.mod_lt _ (by decide)
      have ha1 : F % 4294967296 < 4294967296 := Nat.mod_lt _ (by decide)
      have ha2 : G % 4294967296 < 4294967296 := Nat.mod_lt _ (by decide)
      have e1 : (256 : Nat) ^ 4 = 4294967296 := by decide
      rw [by8, e1] at hc1 hc2
      simp only [e1]
      clear e1
      generalize F / 4294967296 % 256 = b1 at *
      generalize G / 4294967296 % 256 = b2 at *
      generalize F % 4294967296 = a1 at *
      generalize G % 4294967296 = a2 at *
      have O1 : Hid (bits .or .u64 (a1 : Int) ((b1 : Int) * 4294967296) = (a1 : Int) + (b1 : Int) * 4294967296) := show _ = _ from bits_join_low .u64 64 (by decide) wraps64 32 _ _ (by omega) (by omega) (by omega) (by omega) (by omega) (by omega)
      have O2 : Hid (bits .or .u64 (a2 : Int) ((b2 : Int) * 4294967296) = (a2 : Int) + (b2 : Int) * 4294967296) := show _ = _ from bits_join_low .u64 64 (by decide) wraps64 32 _ _ (by omega) (by omega) (by omega) (by omega) (by omega) (by omega)
      go_wp2
      go_round
      case rel =>
        refine ⟨5, by omega, by go_num, ?_, ?_⟩
        · have e1 : (256 : Nat) ^ 5 = 1099511627776 := by decide
          rw [e1, N1.out, O1.out]; congr 1 <;> omega
        · have e1 : (256 : Nat) ^ 5 = 1099511627776 := by decide
          rw [e1, N2.out, O2.out]; congr 1 <;> omega
      case measure => simp [intOf]
    · have hc1 := HC.out 5 (by8 F 5) rfl
      have hc2 := HC.out 13 (by8 G 5) rfl
      have N1 : Hid (F % 281474976710656 = F % 1099511627776 + F / 1099511627776 % 256 * 1099511627776) := mod_next F 1099511627776
      have N2 : Hid (G % 281474976710656 = G % 1099511627776 + G / 1099511627776 % 256 * 1099511627776) := mod_next G 1099511627776
      have hb1 : F / 1099511627776 % 256 < 256 := Nat.mod_lt _ (by decide)
      have hb2 : G / 1099511627776 % 256 < 256 := Nat.mod_lt _ (by decide)
      have ha1 : F % 1099511627776 < 1099511627776 := Nat.mod_lt _ (by decide)
      have ha2 : G % 1099511627776 < 1099511627776 := Nat.mod_lt _ (by decide)
      have e1 : (256 : Nat) ^ 5 = 1099511627776 := by decide
      rw [by8, e1] at hc1 hc2
      simp only [e1]
      clear e1
      generalize F / 1099511627776 % 256 = b1 at *
      generalize G / 1099511627776 % 256 = b2 at *
      generalize F % 1099511627776 = a1 at *
      generalize G % 1099511627776 = a2 at *
      have O1 : Hid (bits .or .u64 (a1 : Int) ((b1 : Int) * 1099511627776) = (a1 : Int) + (b1 : Int) * 1099511627776) := show _ = _ from bits_join_low .u64 64 (by decide) wraps64 40 _ _ (by omega) (by omega) (by omega) (by omega) (by omega) (by omega)
      have O2 : Hid (bits .or .u64 (a2 : Int) ((b2 : Int) * 1099511627776) = (a2 : Int) + (b2 : Int) * 1099511627776) := show _ = _ from bits_join_low .u64 64 (by decide) wraps64 40 _ _ (by omega) (by omega) (by omega) (by omega) (by omega) (by omega)
      go_wp2
      go_round
      case rel =>
        refine ⟨6, by omega, by go_num, ?_, ?_⟩
        · have e1 : (256 : Nat) ^ 6 = 281474976710656 := by decide
          rw [e1, N1.out, O1.out]; congr 1 <;> omega
        · have e1 : (256 : Nat) ^ 6 = 281474976710656 := by decide
          rw [e1, N2.out, O2.out]; congr 1 <;> omega
      case measure => simp [intOf]
    · have hc1 := HC.out 6 (by8 F 6) rfl
      have hc2 := HC.out 14 (by8 G 6) rfl
      have N1 : Hid (F % 72057594037927936 = F % 281474976710656 + F / 281474976710656 % 256 * 281474976710656) := mod_next F 281474976710656
      have N2 : Hid (G % 72057594037927936 = G % 281474976710656 + G / 281474976710656 % 256 * 281474976710656) := mod_next G 281474976710656
      have hb1 : F / 281474976710656 % 256 < 256 := Nat.mod_lt _ (by decide)
      have hb2 : G / 281474976710656 % 256 < 256 := Nat.mod_lt _ (by decide)
      have ha1 : F % 281474976710656 < 281474976710656 := Nat.mod_lt _ (by decide)
      have ha2 : G % 281474976710656 < 281474976710656 := Nat.mod_lt _ (by decide)
      have e1 : (256 : Nat) ^ 6 = 281474976710656 := by decide
      rw [by8, e1] at hc1 hc2
      simp only [e1]
      clear e1
      generalize F / 281474976710656 % 256 = b1 at *
      generalize G / 281474976710656 % 256 = b2 at *
      generalize F % 281474976710656 = a1 at *
      generalize G % 281474976710656 = a2 at *
      have O1 : Hid (bits .or .u64 (a1 : Int) ((b1 : Int) * 281474976710656) = (a1 : Int) + (b1 : Int) * 281474976710656) := show _ = _ from bits_join_low .u64 64 (by decide) wraps64 48 _ _ (by omega) (by omega) (by omega) (by omega) (by omega) (by omega)
      have O2 : Hid (bits .or .u64 (a2 : Int) ((b2 : Int) * 281474976710656) = (a2 : Int) + (b2 : Int) * 281474976710656) := show _ = _ from bits_join_low .u64 64 (by decide) wraps64 48 _ _ (by omega) (by omega) (by omega) (by omega) (by omega) (by omega)
      go_wp2
      go_round
      case rel =>
        refine ⟨7, by omega, by go_num, ?_, ?_⟩
        · have e1 : (256 : Nat) ^ 7 = 72057594037927936 := by decide
          rw [e1, N1.out, O1.out]; congr 1 <;> omega
        · have e1 : (256 : Nat) ^ 7 = 72057594037927936 := by decide
          rw [e1, N2.out, O2.out]; congr 1 <;> omega
      case measure => simp [intOf]
    · have hc1 := HC.out 7 (by8 F 7) rfl
      have hc2 := HC.out 15 (by8 G 7) rfl
      have N1 : Hid (F % 18446744073709551616 = F % 72057594037927936 + F / 72057594037927936 % 256 * 72057594037927936) := mod_next F 72057594037927936
      have N2 : Hid (G % 18446744073709551616 = G % 72057594037927936 + G / 72057594037927936 % 256 * 72057594037927936) := mod_next G 72057594037927936
      have hb1 : F / 72057594037927936 % 256 < 256 := Nat.mod_lt _ (by decide)
      have hb2 : G / 72057594037927936 % 256 < 256 := Nat.mod_lt _ (by decide)
      have ha1 : F % 72057594037927936 < 72057594037927936 := Nat.mod_lt _ (by decide)
      have ha2 : G % 72057594037927936 < 72057594037927936 := Nat.mod_lt _ (by decide)
      have e1 : (256 : Nat) ^ 7 = 72057594037927936 := by decide
      rw [by8, e1] at hc1 hc2
      simp only [e1]
      clear e1
      generalize F / 72057594037927936 % 256 = b1 at *
      generalize G / 72057594037927936 % 256 = b2 at *
      generalize F % 72057594037927936 = a1 at *
      generalize G % 72057594037927936 = a2 at *
      have O1 : Hid (bits .or .u64 (a1 : Int) ((b1 : Int) * 72057594037927936) = (a1 : Int) + (b1 : Int) * 72057594037927936) := show _ = _ from bits_join_low .u64 64 (by decide) wraps64 56 _ _ (by omega) (by omega) (by omega) (by omega) (by omega) (by omega)
      have O2 : Hid (bits .or .u64 (a2 : Int) ((b2 : Int) * 72057594037927936) = (a2 : Int) + (b2 : Int) * 72057594037927936) := show _ = _ from bits_join_low .u64 64 (by decide) wraps64 56 _ _ (by omega) (by omega) (by omega) (by omega) (by omega) (by omega)
      go_wp2
      go_round
      case rel =>
        refine ⟨8, by omega, by go_num, ?_, ?_⟩
        · have e1 : (256 : Nat) ^ 8 = 18446744073709551616 := by decide
          rw [e1, N1.out, O1.out]; congr 1 <;> omega
        · have e1 : (256 : Nat) ^ 8 = 18446744073709551616 := by decide
          rw [e1, N2.out, O2.out]; congr 1 <;> omega
      case measure => simp [intOf]
    · have e1 : (256 : Nat) ^ 8 = 18446744073709551616 := by decide
      simp only [e1, Nat.mod_eq_of_lt hF, Nat.mod_eq_of_lt (Nat.lt_trans hG (by decide : 9223372036854775808 < 18446744073709551616))]
      clear e1
      go_wp2
      go_ret2
      exact ⟨by rfl, HB.out⟩
end Go.Proofs.Ybulksgi
