import Derived.Test.YbulksfuDoorRead
import Derived.Lib.EndianBits
import Derived.LoopTactic
/-! zzs0930cbe: the number that k bytes spell. -/
namespace Go.Proofs.YbulksfuDoor
open Go.RowKit

theorem beFrom_snoc (b : UInt8) : ∀ (l : List UInt8) (acc : Nat), Lib.beFrom acc (l ++ [b]) = Lib.beFrom acc l * 256 + b.toNat
  | [], _ => rfl
  | x :: l, acc => by simp only [List.cons_append, Lib.beFrom, beFrom_snoc b l]
theorem beNat_snoc (l : List UInt8) (b : UInt8) : Lib.beNat (l ++ [b]) = Lib.beNat l * 256 + b.toNat := beFrom_snoc b l 0

theorem beFrom_lt : ∀ (l : List UInt8) (acc : Nat), Lib.beFrom acc l < (acc + 1) * 256 ^ l.length
  | [], acc => by simp [Lib.beFrom]
  | x :: l, acc => by
    have h := beFrom_lt l (acc * 256 + x.toNat)
    have hx := x.toNat_lt
    simp only [Lib.beFrom, List.length_cons, Nat.pow_succ]
    refine Nat.lt_of_lt_of_le h ?_
    rw [Nat.mul_comm (256 ^ l.length) 256, ← Nat.mul_assoc]
    exact Nat.mul_le_mul_right _ (by omega)
theorem beNat_lt (l : List UInt8) : Lib.beNat l < 256 ^ l.length := by simpa [Lib.beNat] using beFrom_lt l 0

theorem or8 (x y : Int) (hy₀ : 0 ≤ y) (hy : y < 256) (hx₀ : 0 ≤ x) (hx₁ : x < 72057594037927936) : bits .or .u64 (x * 256) y = x * 256 + y :=
  bits_join .u64 64 (by decide) wraps_u64 8 (x * 256) y (by omega) (by omega) (by omega) hy₀ (by omega) (by omega)

theorem take_snoc (l : List UInt8) (p i : Nat) (b : UInt8) (h : l[p + i]? = some b) : (l.drop p).take (i + 1) = (l.drop p).take i ++ [b] := by
  rw [List.take_add_one, List.getElem?_drop, h]; rfl

theorem beNat_take_lt (l : List UInt8) (i : Nat) (h : i ≤ 7) : Lib.beNat (l.take i) < 72057594037927936 := by
  have h1 := beNat_lt (l.take i)
  have h2 : 256 ^ (l.take i).length ≤ 256 ^ 7 := Nat.pow_le_pow_right (by decide) (by have := List.length_take_le i l; omega)
  have h3 : (256 : Nat) ^ 7 = 72057594037927936 := by decide
  omega

set_option maxHeartbeats 1000000 in
set_option maxRecDepth 100000 in
theorem be14 (g o n c p k : Nat) (A K : Int) (hA : A = p) (hK : K = k) (l : List UInt8) (w : World) (hl : l.length = n) (hn : n ≤ 4096) (hk : k ≤ 8) (hpk : p + k ≤ n) (h : At w g o l) :
    Calls Ybad.prog 14 #[.slice (some ⟨g, o, none⟩) n c, .int .i64 A, .int .i64 K] w fun e w' => e = .returned (.int .u64 (Lib.beNat ((l.drop p).take k) : Nat)) ∧ w' = w := by
  subst hA
  subst hK
  have HL : Hid (l.length = n) := hl
  have HA : Hid (At w g o l) := h
  clear hl h
  go_enter Ybad.func14, Ybad.ntmps14
  go_wp2
  go_loop [7, 8] (fun v i => ∃ j : Nat, j ≤ k ∧ i = .int .i64 j ∧ v = .int .u64 (Lib.beNat ((l.drop p).take j) : Nat)) (fun _ i => k - (intOf i).toNat)
  case atStart => exact ⟨0, Nat.zero_le _, rfl, by simp [Lib.beNat, Lib.beFrom]⟩
  case round =>
    obtain ⟨j, hj, rfl, rfl⟩ := hrel
    by_cases hlt : j < k
    · obtain ⟨b, hb⟩ : ∃ b, l[p + j]? = some b := ⟨_, List.getElem?_eq_getElem (by rw [HL.out]; omega)⟩
      have hcell := HA.out (p + j) b hb
      have hbl := b.toNat_lt
      have hV := beNat_take_lt (l.drop p) j (by omega)
      have HS : Hid (Lib.beNat ((l.drop p).take (j + 1)) = Lib.beNat ((l.drop p).take j) * 256 + b.toNat) := show _ = _ by rw [take_snoc l p j b hb, beNat_snoc]
      clear hb
      generalize Lib.beNat ((l.drop p).take j) = V at *
      generalize b.toNat = bN at *
      have HO : Hid (bits .or .u64 ((V : Int) * 256) bN = (V : Int) * 256 + bN) := show _ = _ from or8 _ _ (by omega) (by omega) (by omega) (by omega)
      go_wp2
      go_round
      case rel => exact ⟨j + 1, by omega, by go_num, by rw [HO.out, HS.out]; go_num⟩
      case measure => simp [intOf]; omega
    · go_wp2
      go_ret
      obtain rfl : j = k := by omega
      exact ⟨rfl, rfl⟩

end Go.Proofs.YbulksfuDoor
