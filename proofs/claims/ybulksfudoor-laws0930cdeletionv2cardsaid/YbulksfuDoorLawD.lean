import Derived.Test.YbulksfuDoorLawC
/-! LawS0930CDeletionV2. -/
namespace Go.Proofs.YbulksfuDoor
open Go.RowKit

theorem at_take {w : World} {g o : Nat} {l : List UInt8} (h : At w g o l) (n : Nat) : At w g o (l.take n) := fun j b hj => h j b (by
  have hlt : j < n := by
    have := (List.getElem?_eq_some_iff.1 hj).1
    simp at this; omega
  rwa [List.getElem?_take_of_lt hlt] at hj)

theorem box_cells3 {w : World} {K : Nat} {t : TypeId} {c0 c1 c2 : Value} (h : w.heap[K]? = some (.cells #[c0, c1, c2] t (0, 0))) :
    w.cell? ⟨K, 0, none⟩ = some c0 ∧ w.cell? ⟨K, 1, none⟩ = some c1 ∧ w.cell? ⟨K, 2, none⟩ = some c2 := by
  refine ⟨?_, ?_, ?_⟩ <;> (rw [cell_of_row w K _ _ _ _ h]; rfl)

set_option maxHeartbeats 2000000 in
set_option maxRecDepth 100000 in
theorem lawD_short (ao : Option Addr) (len cap : Nat) (lb : List UInt8) (last : UInt8) (w : World) (hlen : len ≤ 1024) (hcame : Came8 w ao len lb) :
    Calls Ybad.prog 6 #[.slice ao len cap, .int .u8 last.toNat] w fun e w' => e = .returned (.bool true) ∧ Below w.heap.size w w' := by
  have F := fit12 ao len cap 21 21 rfl (by omega) lb w hlen hcame.1 hcame.2
  clear hcame
  go_enter Ybad.func6, Ybad.ntmps6
  go_wp2_with fail
  refine F.mono ?_
  clear F
  rintro e w1 ⟨l0, hl0, rfl, hold0, N1⟩
  obtain ⟨v0, hv0⟩ := hold0.cell 20 (by omega)
  have hf0 := hold0.frozen 20
  have hold1 := hold0.set 20 last
  have HL0 : Hid ((l0.set 20 last).length = 21) := by rw [List.length_set]; exact hl0
  have HH : Hid (Holds (w1.setCell ⟨w.heap.size, 20, none⟩ (.int .u8 last.toNat)) w.heap.size (l0.set 20 last)) := hold1
  generalize l0.set 20 last = l at *
  clear hl0 hold0 hold1
  have N1' : Below w.heap.size w (w1.setCell ⟨w.heap.size, 20, none⟩ (.int .u8 last.toNat)) := N1.setCell (Nat.le_refl _) _
  go_wp2_with fail
  generalize w1.setCell ⟨w.heap.size, 20, none⟩ (.int .u8 last.toNat) = W1 at *
  clear hv0 hf0 N1
  have P := parse13 w.heap.size 0 21 (l.take 20) W1 (by omega) (by simp [HL0.out]) (at_take HH.out.at 20) HH.out.lt
  rw [(take20 l).1, (take20 l).2.1, (take20 l).2.2] at P
  refine P.mono ?_
  clear P
  rintro e w2 ⟨rfl, n2⟩
  have N2 : Below w.heap.size w w2 := N1'.trans (n2.mono N1'.size)
  have z2 : w.heap.size < w2.heap.size := Nat.lt_of_lt_of_le HH.out.lt n2.size
  have H2 : Hid (Holds w2 w.heap.size l) := HH.out.below n2 HH.out.lt
  have hd := take4_lt l 16
  clear n2 HH N1'
  have Q := parse15 w.heap.size 0 21 l (w2.alloc (.cells #[.int .u64 (Lib.beNat (l.take 8) : Nat), .int .u64 (Lib.beNat ((l.drop 8).take 8) : Nat), .int .u32 (Lib.beNat ((l.drop 16).take 4) : Nat)] 40)) (by omega) HL0.out (H2.out.below ((Below.refl _ _).alloc (Nat.le_refl _) _) z2).at (by simp; omega)
  go_wp2_with fail
  refine Q.mono ?_
  clear Q
  rintro e w3 ⟨rfl, n3⟩
  have e3 : w3.heap[w2.heap.size]? = some (.cells #[.int .u64 (Lib.beNat (l.take 8) : Nat), .int .u64 (Lib.beNat ((l.drop 8).take 8) : Nat), .int .u32 (Lib.beNat ((l.drop 16).take 4) : Nat)] 40 (0, 0)) := (n3.block _ (by simp)).trans (heap_alloc_new w2 _)
  obtain ⟨k0, k1, k2⟩ := box_cells3 e3
  have z3 : w2.heap.size < w3.heap.size := World.block_lt_of_cell? _ _ k0
  have N3 : Below w.heap.size w w3 := (N2.alloc (by omega) _).trans (n3.mono (by simp; omega))
  have H3 : Hid (Holds w3 w.heap.size l) := (H2.out.below ((Below.refl _ _).alloc (Nat.le_refl _) _) z2).below n3 (by simp; omega)
  have HA' : Hid (∀ W, Below w3.heap.size w3 W → At W w.heap.size 0 l) := fun W hb => (H3.out.below hb H3.out.lt).at
  clear n3 e3 H2 H3 N2
  go_wp2_with fail
  go_quiet ((go_at_call 14; exact Calls.quiet_of_same (be14 w.heap.size 0 21 21 16 4 16 4 rfl rfl l _ HL0.out (by omega) (by omega) (by omega) (HA'.out _ (below_drewN ((Below.refl _ _).alloc (Nat.le_refl _) _) _)))))
  go_wp2
  go_ret
  exact ⟨rfl, below_drewN (N3.alloc (by omega) _) _⟩

set_option maxHeartbeats 1000000 in
theorem lawD_long (ao : Option Addr) (len cap : Nat) (x : Int) (w : World) (hlen : 1024 < len) :
    Calls Ybad.prog 6 #[.slice ao len cap, .int .u8 x] w fun e w' => e = .returned (.bool true) ∧ Below w.heap.size w w' := by
  have h : (1024 : Int) < (len : Int) := by omega
  go_enter Ybad.func6, Ybad.ntmps6
  go_wp2
  go_ret
  exact ⟨rfl, Below.refl _ _⟩

end Go.Proofs.YbulksfuDoor
