import Derived.Test.YbulksfuDoorExtras
import Derived.Laws.CopyOwn
import Derived.WalkSpells
import Derived.Lib.SliceRun
/-! (Deletion).AppendExtras; zzs0930bclone. -/
namespace Go.Proofs.YbulksfuDoor
open Go.RowKit

theorem info5' : (Ybad.prog.info? 5).map (·.size) = some 1 := by kernel_rfl
theorem addr_block (a : Addr) (j : Nat) : (a.add j).block = a.block := by unfold Addr.add; split <;> rfl

/-- The bytes that a deletion's extras are. -/
def delCells (a b : Nat) : List Value := beCells 8 a ++ (beCells 8 b ++ [.int .u8 0, .int .u8 0])

theorem box_cells2 {w : World} {K : Nat} {c0 c1 : Value} (h : w.heap[K]? = some (.cells #[c0, c1] 34 (0, 0))) : w.cell? ⟨K, 0, none⟩ = some c0 ∧ w.cell? ⟨K, 1, none⟩ = some c1 := by
  refine ⟨?_, ?_⟩ <;> (rw [cell_of_row w K _ _ _ _ h]; rfl)

set_option maxHeartbeats 2000000 in
set_option maxRecDepth 100000 in
theorem extras10 (B n a b : Nat) (ha : a < 18446744073709551616) (hb : b < 18446744073709551616)
    (sv : Value) (xs : List Value) (w : World) (hown : w.ownsRow B 5 1 sv n xs) (hBw : B ≤ w.heap.size) (hlim : n + 31 ≤ 140737488355328) :
    Calls Ybad.prog 10 #[.agg #[.int .u64 a, .int .u64 b], sv] w fun e w' => ∃ g cap, e = .returned (.slice (some ⟨g, 0, none⟩) (n + 18) cap) ∧
      w'.ownsRow B 5 1 (.slice (some ⟨g, 0, none⟩) (n + 18) cap) (n + 18) (xs ++ delCells a b) ∧ w.grownBy w' sv.ownBlock ∧ (sv.ownBlock = some g ∨ w.heap.size < g) := by
  obtain ⟨i0, hi, hz0, hz1, hz2⟩ := info_parts info5
  have HR : Hid (∀ k, sv.ownBlock = some k → k < w.heap.size) := fun k hk => (hown.lt k hk).2
  have B0 : Hid ((w.alloc (.cells #[.int .u64 a, .int .u64 b] 34)).heap[w.heap.size]? = some (.cells #[.int .u64 a, .int .u64 b] 34 (0, 0))) := heap_alloc_new w _
  go_enter Ybad.func10, Ybad.ntmps10
  go_wp2_with fail
  refine (au64 B n a ha sv xs _ (hown.alloc _) (by simp; omega) (by omega)).mono ?_
  rintro e w1 ⟨g1, cap1, rfl, own1, gr1, at1⟩
  obtain ⟨G1, B1, A1⟩ := step_kept rfl HR.out (grown_alloc w _ _) B0.out (fun _ h => .inl h) gr1 at1
  have z1 : w.heap.size ≤ w1.heap.size := G1.size
  obtain ⟨-, k1⟩ := box_cells2 B1
  have own1' : Hid (w1.ownsRow B 5 1 (.slice (some ⟨g1, 0, none⟩) (n + 8) cap1) (n + 8) (xs ++ beCells 8 a)) := own1
  have G1' : Hid _ := G1
  have B1' : Hid _ := B1
  have A1' : Hid _ := A1
  clear own1 G1 B1 A1 gr1 at1 B0
  go_wp2_with fail
  refine (au64 B (n + 8) b hb _ _ _ own1'.out (by omega) (by omega)).mono ?_
  rintro e w2 ⟨g2, cap2, rfl, own2, gr2, at2⟩
  obtain ⟨G2, B2, A2⟩ := step_kept rfl HR.out G1'.out B1'.out (fun k h => by cases h; exact A1'.out) gr2 at2
  have z2 : w.heap.size ≤ w2.heap.size := G2.size
  have own2' : Hid (w2.ownsRow B 5 1 (.slice (some ⟨g2, 0, none⟩) (n + 8 + 8) cap2) (n + 8 + 8) (xs ++ beCells 8 a ++ beCells 8 b)) := own2
  have G2' : Hid _ := G2
  have B2' : Hid _ := B2
  have A2' : Hid _ := A2
  clear own2 G2 B2 A2 gr2 at2 k1 G1' B1' A1' own1' z1
  go_wp2_with (at_builtin; refine wpList_append_lies _ rfl _ _ 26 rfl B 5 i0 (.int .u8 0) 1 1 Ybad.underlying26 hi hz0 hz1 hz2 rfl (by decide) _ _ _ rfl (own2'.out.alloc _) _ 2 2 [Value.int .u8 0, Value.int .u8 0] rfl rfl ?c1 ?c2 (by decide) ?c3 ?c4 ?c5 (w2.heap.size + 1) ?c6 ?_)
  case c1 =>
    intro j u hj
    match j, hj with
    | 0, hj => simp at hj; subst hj; simp [Addr.add]
    | 1, hj => simp at hj; subst hj; simp [Addr.add]
  case c2 => intro u hu; simp at hu; subst hu; rfl
  case c3 => unfold maxLen; omega
  case c4 => omega
  case c5 => simp; omega
  case c6 => simp
  intro g cap w6 own6 gr6 at6 _
  obtain ⟨G6, B6, A6⟩ := step_kept rfl HR.out (grown_trans G2'.out (grown_alloc w2 _ sv.ownBlock) (fun _ h => .inl h)) (by rw [Below.heap_alloc _ _ _ (by have := G2'.out.size; have hk := B2'.out; rcases Nat.lt_or_ge w.heap.size w2.heap.size with h | h; exact h; rw [Array.getElem?_eq_none h] at hk; cases hk)]; exact B2'.out) (fun k h => by cases h; exact A2'.out) gr6 (by rcases at6 with h | h; exact .inl h; right; simp; omega)
  go_wp2
  go_ret
  refine ⟨g, cap, rfl, ?_, G6, A6⟩
  exact own6

set_option maxHeartbeats 1000000 in
set_option maxRecDepth 100000 in
theorem clone9 (ao : Option Addr) (len cap : Nat) (xs : List Value) (w : World) (hlen : len ≤ 1024) (hxl : xs.length = len) (hx8 : Bytes xs) (hnone : ao = none → len = 0 ∧ cap = 0) (hcell : ∀ ad, ao = some ad → ∀ j u, xs[j]? = some u → w.cell? (ad.add j) = some u) (hlt : ∀ ad, ao = some ad → 0 < len → ad.block < w.heap.size) :
    Calls Ybad.prog 9 #[.slice ao len cap] w fun e w' => ∃ a' c', e = .returned (.slice a' len c') ∧ w'.ownsRow w.heap.size 5 1 (.slice a' len c') len xs ∧ Below w.heap.size w w' := by
  obtain ⟨i0, hi, hz0, hz1, hz2⟩ := info_parts info5
  have hnil := fun (w : World) => Lib.run_eql_slice_nil (P := Ybad.prog) w 26 5 ao len cap 0 0 Ybad.underlying26
  have HX : Hid (xs.length = len) := hxl
  have H8 : Hid (Bytes xs) := hx8
  have HC : Hid (∀ ad, ao = some ad → ∀ j u, xs[j]? = some u → w.cell? (ad.add j) = some u) := hcell
  have HL : Hid (∀ ad, ao = some ad → 0 < len → ad.block < w.heap.size) := hlt
  clear hxl hx8 hcell hlt
  cases ao with
  | none =>
    obtain ⟨rfl, rfl⟩ := hnone rfl
    go_enter Ybad.func9, Ybad.ntmps9
    go_wp2
    go_ret
    have e : xs = [] := List.eq_nil_of_length_eq_zero HX.out
    subst e
    exact ⟨none, 0, rfl, World.ownsRow_nil _ _ _ _, Below.refl _ _⟩
  | some ad =>
    clear hnone
    go_enter Ybad.func9, Ybad.ntmps9
    go_wp2_with (at_make; refine wpList_make_full _ rfl _ _ 26 rfl w.heap.size 5 i0 (.int .u8 0) 1 Ybad.underlying26 hi hz0 hz1 _ _ _ _ len rfl rfl rfl rfl (by rw [hz2]; omega) (by unfold maxLen; omega) (Nat.le_refl _) ?_)
    intro w1 own1 gr1
    have R1 : Hid (w1.heap[w.heap.size]? = some (.cells (List.replicate len (.int .u8 0)).toArray 5 (0, 0))) := by
      have := row_of_full own1
      rw [toList_madeCells_one] at this
      exact this
    have N1 : Below w.heap.size w w1 := (Below.refl _ _).grown gr1 (Nat.le_refl _) (fun k h => by cases h)
    clear own1 gr1
    go_wp2_with (refine wpList_copy_splice rfl (.tmp 9) (.tmp 10) 26 26 rfl 5 Ybad.underlying26 info5' _ _ _ _ _ _ rfl rfl w.heap.size 0 (List.replicate len (.int .u8 0)) 5 R1.out xs (by rw [HX.out]; simp) ?c1 (by simp [HX.out]) ?c2 w.heap.size w N1 (Nat.le_refl _) ?_)
    case c1 =>
      intro h0
      exact fun j v hv => (N1.cell (by rw [addr_block]; exact HL.out ad rfl (by have := HX.out; omega))).trans (HC.out ad rfl j v hv)
    case c2 => intro u hu; obtain ⟨z, rfl⟩ := H8.out u hu; rfl
    intro w2 R2 N2
    go_wp2
    go_ret
    refine ⟨_, _, rfl, ?_, N2⟩
    have h := R2.out
    have e : splice (List.replicate len (Value.int .u8 0)) 0 xs = xs := by simp [splice, HX.out]
    rw [e] at h
    exact full_of_row h (Nat.le_refl _) HX.out (by unfold maxLen; omega)

end Go.Proofs.YbulksfuDoor
