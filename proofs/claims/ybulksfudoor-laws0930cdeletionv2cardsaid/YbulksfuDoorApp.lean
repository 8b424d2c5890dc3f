import Derived.Test.YbulksfuDoorProg
import Derived.Test.YbulksfuDoorParts
import Derived.KernelRfl
/-! binary.BigEndian.AppendUint64, AppendUint32: what comes back, and where it lies. -/
namespace Go.Proofs.YbulksfuDoor
open Go.RowKit

theorem info5 : (Ybad.prog.info? 5).map (fun i => (i.zero, i.size, i.bytes)) = some (some (.int .u8 0), 1, 1) := by kernel_rfl

theorem cells8 (v : Nat) (hv : v < 18446744073709551616) : beCells 8 v = [Value.int .u8 ((v : Int) / 72057594037927936), Value.int .u8 ((v : Int) / 281474976710656 % 256), Value.int .u8 ((v : Int) / 1099511627776 % 256), Value.int .u8 ((v : Int) / 4294967296 % 256), Value.int .u8 ((v : Int) / 16777216 % 256), Value.int .u8 ((v : Int) / 65536 % 256), Value.int .u8 ((v : Int) / 256 % 256), Value.int .u8 ((v : Int) % 256)] := by
  have e0 : ((v % 256 : Nat) : Int) = (v : Int) % 256 := by omega
  have e1 : ((v / 256 % 256 : Nat) : Int) = (v : Int) / 256 % 256 := by omega
  have e2 : ((v / 256 / 256 % 256 : Nat) : Int) = (v : Int) / 65536 % 256 := by omega
  have e3 : ((v / 256 / 256 / 256 % 256 : Nat) : Int) = (v : Int) / 16777216 % 256 := by omega
  have e4 : ((v / 256 / 256 / 256 / 256 % 256 : Nat) : Int) = (v : Int) / 4294967296 % 256 := by omega
  have e5 : ((v / 256 / 256 / 256 / 256 / 256 % 256 : Nat) : Int) = (v : Int) / 1099511627776 % 256 := by omega
  have e6 : ((v / 256 / 256 / 256 / 256 / 256 / 256 % 256 : Nat) : Int) = (v : Int) / 281474976710656 % 256 := by omega
  have e7 : ((v / 256 / 256 / 256 / 256 / 256 / 256 / 256 % 256 : Nat) : Int) = (v : Int) / 72057594037927936 := by omega
  simp only [beCells, Lib.byteCells, Lib.beBytes, Lib.leBytes, List.reverse_cons, List.reverse_nil, List.nil_append, List.cons_append, List.map, Lib.toUInt8_mod, e0, e1, e2, e3, e4, e5, e6, e7]

theorem cells4 (v : Nat) (hv : v < 4294967296) : beCells 4 v = [Value.int .u8 ((v : Int) / 16777216), Value.int .u8 ((v : Int) / 65536 % 256), Value.int .u8 ((v : Int) / 256 % 256), Value.int .u8 ((v : Int) % 256)] := by
  have e0 : ((v % 256 : Nat) : Int) = (v : Int) % 256 := by omega
  have e1 : ((v / 256 % 256 : Nat) : Int) = (v : Int) / 256 % 256 := by omega
  have e2 : ((v / 256 / 256 % 256 : Nat) : Int) = (v : Int) / 65536 % 256 := by omega
  have e3 : ((v / 256 / 256 / 256 % 256 : Nat) : Int) = (v : Int) / 16777216 := by omega
  simp only [beCells, Lib.byteCells, Lib.beBytes, Lib.leBytes, List.reverse_cons, List.reverse_nil, List.nil_append, List.cons_append, List.map, Lib.toUInt8_mod, e0, e1, e2, e3]

set_option maxHeartbeats 2000000 in
set_option maxRecDepth 100000 in
theorem au64 (B n v : Nat) (hv : v < 18446744073709551616) (sv : Value) (xs : List Value) (w : World) (hown : w.ownsRow B 5 1 sv n xs) (hBw : B ≤ w.heap.size) (hlim : n + 8 ≤ 140737488355328) :
    Calls Ybad.prog 16 #[.agg #[], sv, .int .u64 v] w fun e w' => ∃ g cap, e = .returned (.slice (some ⟨g, 0, none⟩) (n + 8) cap) ∧ w'.ownsRow B 5 1 (.slice (some ⟨g, 0, none⟩) (n + 8) cap) (n + 8) (xs ++ beCells 8 v) ∧ w.grownBy w' sv.ownBlock ∧ (sv.ownBlock = some g ∨ w.heap.size ≤ g) := by
  obtain ⟨i0, hi, hz0, hz1, hz2⟩ := info_parts info5
  have hb := cells8 v hv
  have HB : Hid _ := hb
  clear hb
  go_enter Ybad.func16, Ybad.ntmps16
  go_wp2_with (at_builtin; refine wpList_append_lies _ rfl _ _ 26 rfl B 5 i0 (.int .u8 0) 1 1 Ybad.underlying26 hi hz0 hz1 hz2 rfl (by decide) _ _ _ rfl ((hown.alloc _).alloc _) _ 8 8 [Value.int .u8 ((v : Int) / 72057594037927936), Value.int .u8 ((v : Int) / 281474976710656 % 256), Value.int .u8 ((v : Int) / 1099511627776 % 256), Value.int .u8 ((v : Int) / 4294967296 % 256), Value.int .u8 ((v : Int) / 16777216 % 256), Value.int .u8 ((v : Int) / 65536 % 256), Value.int .u8 ((v : Int) / 256 % 256), Value.int .u8 ((v : Int) % 256)] rfl rfl ?c1 ?c2 (by decide) ?c3 ?c4 ?c5 (w.heap.size + 2) ?c6 ?_)
  case c1 =>
    intro j u hj
    match j, hj with
    | 0, hj => simp at hj; subst hj; simp [Addr.add]
    | 1, hj => simp at hj; subst hj; simp [Addr.add]
    | 2, hj => simp at hj; subst hj; simp [Addr.add]
    | 3, hj => simp at hj; subst hj; simp [Addr.add]
    | 4, hj => simp at hj; subst hj; simp [Addr.add]
    | 5, hj => simp at hj; subst hj; simp [Addr.add]
    | 6, hj => simp at hj; subst hj; simp [Addr.add]
    | 7, hj => simp at hj; subst hj; simp [Addr.add]
  case c2 => intro u hu; simp at hu; rcases hu with rfl | rfl | rfl | rfl | rfl | rfl | rfl | rfl <;> rfl
  case c3 => unfold maxLen; omega
  case c4 => omega
  case c5 => simp; omega
  case c6 => simp
  intro g cap w2 hown' hgrow hat _
  go_wp2
  go_ret
  refine ⟨g, cap, rfl, by rw [HB.out]; exact hown', ?_, ?_⟩
  · exact grown_trans (grown_trans (grown_alloc w _ _) (grown_alloc _ _ sv.ownBlock) (fun _ h => .inl h)) hgrow (fun _ h => .inl h)
  · rcases hat with h | h
    · exact .inl h
    · right; omega

set_option maxHeartbeats 2000000 in
set_option maxRecDepth 100000 in
theorem au32 (B n v : Nat) (hv : v < 4294967296) (sv : Value) (xs : List Value) (w : World) (hown : w.ownsRow B 5 1 sv n xs) (hBw : B ≤ w.heap.size) (hlim : n + 4 ≤ 140737488355328) :
    Calls Ybad.prog 17 #[.agg #[], sv, .int .u32 v] w fun e w' => ∃ g cap, e = .returned (.slice (some ⟨g, 0, none⟩) (n + 4) cap) ∧ w'.ownsRow B 5 1 (.slice (some ⟨g, 0, none⟩) (n + 4) cap) (n + 4) (xs ++ beCells 4 v) ∧ w.grownBy w' sv.ownBlock ∧ (sv.ownBlock = some g ∨ w.heap.size ≤ g) := by
  obtain ⟨i0, hi, hz0, hz1, hz2⟩ := info_parts info5
  have hb := cells4 v hv
  have HB : Hid _ := hb
  clear hb
  go_enter Ybad.func17, Ybad.ntmps17
  go_wp2_with (at_builtin; refine wpList_append_lies _ rfl _ _ 26 rfl B 5 i0 (.int .u8 0) 1 1 Ybad.underlying26 hi hz0 hz1 hz2 rfl (by decide) _ _ _ rfl ((hown.alloc _).alloc _) _ 4 4 [Value.int .u8 ((v : Int) / 16777216), Value.int .u8 ((v : Int) / 65536 % 256), Value.int .u8 ((v : Int) / 256 % 256), Value.int .u8 ((v : Int) % 256)] rfl rfl ?c1 ?c2 (by decide) ?c3 ?c4 ?c5 (w.heap.size + 2) ?c6 ?_)
  case c1 =>
    intro j u hj
    match j, hj with
    | 0, hj => simp at hj; subst hj; simp [Addr.add]
    | 1, hj => simp at hj; subst hj; simp [Addr.add]
    | 2, hj => simp at hj; subst hj; simp [Addr.add]
    | 3, hj => simp at hj; subst hj; simp [Addr.add]
  case c2 => intro u hu; simp at hu; rcases hu with rfl | rfl | rfl | rfl <;> rfl
  case c3 => unfold maxLen; omega
  case c4 => omega
  case c5 => simp; omega
  case c6 => simp
  intro g cap w2 hown' hgrow hat _
  go_wp2
  go_ret
  refine ⟨g, cap, rfl, by rw [HB.out]; exact hown', ?_, ?_⟩
  · exact grown_trans (grown_trans (grown_alloc w _ _) (grown_alloc _ _ sv.ownBlock) (fun _ h => .inl h)) hgrow (fun _ h => .inl h)
  · rcases hat with h | h
    · exact .inl h
    · right; omega

end Go.Proofs.YbulksfuDoor
