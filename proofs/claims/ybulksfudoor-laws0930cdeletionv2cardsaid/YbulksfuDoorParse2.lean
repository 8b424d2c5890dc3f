import Derived.Test.YbulksfuDoorParse
import Derived.RegionTactic
import Derived.ChangeAlike
/-! ParseExpiration where the length does not fit; ParseDeletionV2 where it does. -/
namespace Go.Proofs.YbulksfuDoor
open Go.RowKit

set_option maxHeartbeats 1000000 in
set_option maxRecDepth 100000 in
theorem parse13_no (ao : Option Addr) (len c : Nat) (E : Value) (w : World) (_hlen : len ≤ 1024) (hne : len ≠ 20) (h0 : 0 < w.heap.size) (hE : w.cell? ⟨0, 0, none⟩ = some E) :
    Calls Ybad.prog 13 #[.slice ao len c] w fun e w' => e = .returned (.tuple #[.agg #[.int .u64 0, .int .u64 0, .int .u32 0], E]) ∧ Below w.heap.size w w' := by
  have hb : ((len : Int) == 20) = false := by simp; omega
  go_enter Ybad.func13, Ybad.ntmps13
  have hE1 : ∀ ob, (w.alloc ob).cell? ⟨0, 0, none⟩ = some E := fun ob => (((Below.refl w.heap.size w).alloc (Nat.le_refl _) ob).cell (p := ⟨0, 0, none⟩) h0).trans hE
  go_wp2
  go_region
  all_goals go_wp2
  all_goals exact bodyPost_ret (v := .tuple #[.agg #[.int .u64 0, .int .u64 0, .int .u32 0], E]) (by simp [results, Ybad.results13, go_sem]) rfl ⟨rfl, ((Below.refl _ _).alloc (Nat.le_refl _) _).drew⟩

theorem take20 (l : List UInt8) : (l.take 20).take 8 = l.take 8 ∧ ((l.take 20).drop 8).take 8 = (l.drop 8).take 8 ∧ ((l.take 20).drop 16).take 4 = (l.drop 16).take 4 := by
  refine ⟨?_, ?_, ?_⟩ <;> simp [List.take_take, List.drop_take]

set_option maxHeartbeats 1000000 in
set_option maxRecDepth 100000 in
theorem parse15 (g o c : Nat) (l : List UInt8) (w : World) (hc : 21 ≤ c) (hl : l.length = 21) (h : At w g o l) (hg : g < w.heap.size) :
    Calls Ybad.prog 15 #[.slice (some ⟨g, o, none⟩) 21 c] w fun e w' => e = .returned (.tuple #[.agg #[.int .u64 (Lib.beNat (l.take 8) : Nat), .int .u64 (Lib.beNat ((l.drop 8).take 8) : Nat), .int .u32 (Lib.beNat ((l.drop 16).take 4) : Nat)], .nilIface]) ∧ Below w.heap.size w w' := by
  have HL : Hid (l.length = 21) := hl
  have HA : Hid (At w g o l) := h
  clear hl h
  go_enter Ybad.func15, Ybad.ntmps15
  have P := parse13 g o c (l.take 20) (w.alloc (.cells #[.int .u64 0, .int .u64 0, .int .u32 0] 45)) (by omega) (by simp [HL.out]) (fun j b hj => (((Below.refl w.heap.size w).alloc (Nat.le_refl _) _).cell (p := ⟨g, o + j, none⟩) hg).trans (HA.out j b (by
      have hlt : j < 20 := by
        have := (List.getElem?_eq_some_iff.1 hj).1
        simp at this; omega
      rwa [List.getElem?_take_of_lt hlt] at hj))) (by simp; omega)
  rw [(take20 l).1, (take20 l).2.1, (take20 l).2.2] at P
  go_wp2_with fail
  refine P.mono ?_
  rintro e w1 ⟨rfl, n1⟩
  clear P
  have r1 : Res 3 45 w w1 := (Res.start 3 45 w _ rfl).step n1
  have z1 : w.heap.size < w1.heap.size := by have := n1.size; simp at this; omega
  clear n1
  have s0 := r1.cell 0 (by omega)
  have s1 := r1.cell 1 (by omega)
  have s2 := r1.cell 2 (by omega)
  have f0 := r1.frozen 0
  have f1 := r1.frozen 1
  have f2 := r1.frozen 2
  go_wp2
  obtain ⟨k0, k1, k2, hB⟩ := r1.three (.int .u64 (Lib.beNat (l.take 8) : Nat)) (.int .u64 (Lib.beNat ((l.drop 8).take 8) : Nat)) (.int .u32 (Lib.beNat ((l.drop 16).take 4) : Nat))
  generalize hW : ((w1.setCell ⟨w.heap.size, 0, none⟩ (.int .u64 (Lib.beNat (l.take 8) : Nat))).setCell ⟨w.heap.size, 1, none⟩ (.int .u64 (Lib.beNat ((l.drop 8).take 8) : Nat))).setCell ⟨w.heap.size, 2, none⟩ (.int .u32 (Lib.beNat ((l.drop 16).take 4) : Nat)) = W at *
  have zW : w.heap.size < W.heap.size := World.block_lt_of_cell? _ _ k0
  clear hW s0 s1 s2 f0 f1 f2 r1
  exact bodyPost_ret (v := .tuple #[.agg #[.int .u64 (Lib.beNat (l.take 8) : Nat), .int .u64 (Lib.beNat ((l.drop 8).take 8) : Nat), .int .u32 (Lib.beNat ((l.drop 16).take 4) : Nat)], .nilIface]) (by simp [results, Ybad.results15, go_sem, k0, k1, k2, zW]) rfl ⟨rfl, hB.alloc (by omega) _⟩

end Go.Proofs.YbulksfuDoor
