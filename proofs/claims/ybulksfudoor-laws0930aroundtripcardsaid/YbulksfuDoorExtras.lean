import Derived.Test.YbulksfuDoorApp
/-! (Mutation).AppendExtras. -/
namespace Go.Proofs.YbulksfuDoor
open Go.RowKit

/-- The bytes that a mutation's extras are. -/
def mutCells (a b c d f : Nat) : List Value := beCells 8 a ++ (beCells 8 b ++ (beCells 4 c ++ (beCells 4 d ++ (beCells 4 f ++ [.int .u8 0, .int .u8 0, .int .u8 0]))))

/-- One step: a call that writes to one row of the call's own, and makes new blocks: what lies in another block stays. -/
theorem step_kept {w w1 w2 : World} {r : Option Nat} {v : Value} {K g : Nat} {ob : Obj} (hs : w.heap.size = K) (hr : ∀ k, r = some k → k < K)
    (h1 : w.grownBy w1 r) (hb : w1.heap[K]? = some ob) (hv : ∀ k, v.ownBlock = some k → r = some k ∨ K < k) (h2 : w1.grownBy w2 v.ownBlock) (hat : v.ownBlock = some g ∨ w1.heap.size ≤ g) :
    w.grownBy w2 r ∧ w2.heap[K]? = some ob ∧ (r = some g ∨ K < g) := by
  have hK : K < w1.heap.size := by
    rcases Nat.lt_or_ge K w1.heap.size with h | h
    · exact h
    · rw [Array.getElem?_eq_none h] at hb; cases hb
  refine ⟨grown_trans h1 h2 (fun k hk => ?_), ?_, ?_⟩
  · rcases hv k hk with h | h
    · exact .inl h
    · right; omega
  · rw [h2.block K hK ?_]
    · exact hb
    · intro e
      rcases hv K e.symm with h | h
      · have := hr K h; omega
      · omega
  · rcases hat with h | h
    · exact hv g h
    · right; omega

theorem box_cells {w : World} {K : Nat} {c0 c1 c2 c3 c4 : Value} (h : w.heap[K]? = some (.cells #[c0, c1, c2, c3, c4] 25 (0, 0))) :
    w.cell? ⟨K, 0, none⟩ = some c0 ∧ w.cell? ⟨K, 1, none⟩ = some c1 ∧ w.cell? ⟨K, 2, none⟩ = some c2 ∧ w.cell? ⟨K, 3, none⟩ = some c3 ∧ w.cell? ⟨K, 4, none⟩ = some c4 := by
  refine ⟨?_, ?_, ?_, ?_, ?_⟩ <;> (rw [cell_of_row w K _ _ _ _ h]; rfl)

set_option maxHeartbeats 2000000 in
set_option maxRecDepth 100000 in
theorem extras5 (B n a b c d f : Nat) (ha : a < 18446744073709551616) (hb : b < 18446744073709551616) (hc : c < 4294967296) (hd : d < 4294967296) (hf : f < 4294967296)
    (sv : Value) (xs : List Value) (w : World) (hown : w.ownsRow B 5 1 sv n xs) (hBw : B ≤ w.heap.size) (hlim : n + 31 ≤ 140737488355328) :
    Calls Ybad.prog 7 #[.agg #[.int .u64 a, .int .u64 b, .int .u32 c, .int .u32 d, .int .u32 f], sv] w fun e w' => ∃ g cap, e = .returned (.slice (some ⟨g, 0, none⟩) (n + 31) cap) ∧
      w'.ownsRow B 5 1 (.slice (some ⟨g, 0, none⟩) (n + 31) cap) (n + 31) (xs ++ mutCells a b c d f) ∧ w.grownBy w' sv.ownBlock ∧ (sv.ownBlock = some g ∨ w.heap.size < g) := by
  obtain ⟨i0, hi, hz0, hz1, hz2⟩ := info_parts info5
  have hr : ∀ k, sv.ownBlock = some k → k < w.heap.size := fun k hk => (hown.lt k hk).2
  go_enter Ybad.func7, Ybad.ntmps7
  have B0 : Hid ((w.alloc (.cells #[.int .u64 a, .int .u64 b, .int .u32 c, .int .u32 d, .int .u32 f] 25)).heap[w.heap.size]? = some (.cells #[.int .u64 a, .int .u64 b, .int .u32 c, .int .u32 d, .int .u32 f] 25 (0, 0))) := heap_alloc_new w _
  have HR : Hid (∀ k, sv.ownBlock = some k → k < w.heap.size) := hr
  clear hr
  go_wp2_with fail
  refine (au64 B n a ha sv xs _ (hown.alloc _) (by simp; omega) (by omega)).mono ?_
  rintro e w1 ⟨g1, cap1, rfl, own1, gr1, at1⟩
  obtain ⟨G1, B1, A1⟩ := step_kept rfl HR.out (grown_alloc w _ _) B0.out (fun _ h => .inl h) gr1 at1
  have z1 : w.heap.size ≤ w1.heap.size := G1.size
  obtain ⟨-, k1, -, -, -⟩ := box_cells B1
  have own1' : Hid (w1.ownsRow B 5 1 (.slice (some ⟨g1, 0, none⟩) (n + 8) cap1) (n + 8) (xs ++ beCells 8 a)) := own1
  have G1' : Hid _ := G1
  have B1' : Hid _ := B1
  have A1' : Hid _ := A1
  clear own1 G1 B1 A1 gr1 at1 B0
  go_wp2_with fail
  refine (au64 B (n + 8) b hb _ _ _ own1'.out (by omega) (by omega)).mono ?_
  rintro e w2 ⟨g2, cap2, rfl, own2, gr2, at2⟩
  obtain ⟨G2, B2, A2⟩ := step_kept rfl HR.out G1'.out B1'.out (fun k h => by cases h; exact A1'.out) gr2 at2
  have z2 : w.heap.size ≤ w2.heap.size := G2.size
  obtain ⟨-, -, k2, -, -⟩ := box_cells B2
  have own2' : Hid (w2.ownsRow B 5 1 (.slice (some ⟨g2, 0, none⟩) (n + 8 + 8) cap2) (n + 8 + 8) (xs ++ beCells 8 a ++ beCells 8 b)) := own2
  have G2' : Hid _ := G2
  have B2' : Hid _ := B2
  have A2' : Hid _ := A2
  clear own2 G2 B2 A2 gr2 at2 k1 G1' B1' A1' own1' z1
  go_wp2_with fail
  refine (au32 B (n + 8 + 8) c hc _ _ _ own2'.out (by omega) (by omega)).mono ?_
  rintro e w3 ⟨g3, cap3, rfl, own3, gr3, at3⟩
  obtain ⟨G3, B3, A3⟩ := step_kept rfl HR.out G2'.out B2'.out (fun k h => by cases h; exact A2'.out) gr3 at3
  have z3 : w.heap.size ≤ w3.heap.size := G3.size
  obtain ⟨-, -, -, k3, -⟩ := box_cells B3
  have own3' : Hid (w3.ownsRow B 5 1 (.slice (some ⟨g3, 0, none⟩) (n + 8 + 8 + 4) cap3) (n + 8 + 8 + 4) (xs ++ beCells 8 a ++ beCells 8 b ++ beCells 4 c)) := own3
  have G3' : Hid _ := G3
  have B3' : Hid _ := B3
  have A3' : Hid _ := A3
  clear own3 G3 B3 A3 gr3 at3 k2 G2' B2' A2' own2' z2
  go_wp2_with fail
  refine (au32 B (n + 8 + 8 + 4) d hd _ _ _ own3'.out (by omega) (by omega)).mono ?_
  rintro e w4 ⟨g4, cap4, rfl, own4, gr4, at4⟩
  obtain ⟨G4, B4, A4⟩ := step_kept rfl HR.out G3'.out B3'.out (fun k h => by cases h; exact A3'.out) gr4 at4
  have z4 : w.heap.size ≤ w4.heap.size := G4.size
  obtain ⟨-, -, -, -, k4⟩ := box_cells B4
  have own4' : Hid (w4.ownsRow B 5 1 (.slice (some ⟨g4, 0, none⟩) (n + 8 + 8 + 4 + 4) cap4) (n + 8 + 8 + 4 + 4) (xs ++ beCells 8 a ++ beCells 8 b ++ beCells 4 c ++ beCells 4 d)) := own4
  have G4' : Hid _ := G4
  have B4' : Hid _ := B4
  have A4' : Hid _ := A4
  clear own4 G4 B4 A4 gr4 at4 k3 G3' B3' A3' own3' z3
  go_wp2_with fail
  refine (au32 B (n + 8 + 8 + 4 + 4) f hf _ _ _ own4'.out (by omega) (by omega)).mono ?_
  rintro e w5 ⟨g5, cap5, rfl, own5, gr5, at5⟩
  obtain ⟨G5, B5, A5⟩ := step_kept rfl HR.out G4'.out B4'.out (fun k h => by cases h; exact A4'.out) gr5 at5
  have z5 : w.heap.size ≤ w5.heap.size := G5.size
  have own5' : Hid (w5.ownsRow B 5 1 (.slice (some ⟨g5, 0, none⟩) (n + 8 + 8 + 4 + 4 + 4) cap5) (n + 8 + 8 + 4 + 4 + 4) (xs ++ beCells 8 a ++ beCells 8 b ++ beCells 4 c ++ beCells 4 d ++ beCells 4 f)) := own5
  have G5' : Hid _ := G5
  have B5' : Hid _ := B5
  have A5' : Hid _ := A5
  clear own5 G5 B5 A5 gr5 at5 k4 G4' B4' A4' own4' z4
  go_wp2_with (at_builtin; refine wpList_append_lies _ rfl _ _ 26 rfl B 5 i0 (.int .u8 0) 1 1 Ybad.underlying26 hi hz0 hz1 hz2 rfl (by decide) _ _ _ rfl (own5'.out.alloc _) _ 3 3 [Value.int .u8 0, Value.int .u8 0, Value.int .u8 0] rfl rfl ?c1 ?c2 (by decide) ?c3 ?c4 ?c5 (w5.heap.size + 1) ?c6 ?_)
  case c1 =>
    intro j u hj
    match j, hj with
    | 0, hj => simp at hj; subst hj; simp [Addr.add]
    | 1, hj => simp at hj; subst hj; simp [Addr.add]
    | 2, hj => simp at hj; subst hj; simp [Addr.add]
  case c2 => intro u hu; simp at hu; subst hu; rfl
  case c3 => unfold maxLen; omega
  case c4 => omega
  case c5 => simp; omega
  case c6 => simp
  intro g cap w6 own6 gr6 at6 _
  obtain ⟨G6, B6, A6⟩ := step_kept rfl HR.out (grown_trans G5'.out (grown_alloc w5 _ sv.ownBlock) (fun _ h => .inl h)) (by rw [Below.heap_alloc _ _ _ (by have := G5'.out.size; have hk := B5'.out; rcases Nat.lt_or_ge w.heap.size w5.heap.size with h | h; exact h; rw [Array.getElem?_eq_none h] at hk; cases hk)]; exact B5'.out) (fun k h => by cases h; exact A5'.out) gr6 (by rcases at6 with h | h; exact .inl h; right; simp; omega)
  go_wp2
  go_ret
  refine ⟨g, cap, rfl, ?_, G6, A6⟩
  exact own6

end Go.Proofs.YbulksfuDoor
