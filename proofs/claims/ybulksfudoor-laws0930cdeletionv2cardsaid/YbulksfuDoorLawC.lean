import Derived.Test.YbulksfuDoorBe
import Derived.Test.YbulksfuDoorFit
import Derived.Test.YbulksfuDoorParse2
import Derived.Deep.QuietTactic
import Derived.BigQuiet
import Derived.LaidEql
import Derived.WalkSmall
/-! LawS0930CDecode. -/
namespace Go.Proofs.YbulksfuDoor
open Go.RowKit

/-- What the walks are told of the slice of bytes that came in. -/
def Came8 (w : World) (ao : Option Addr) (len : Nat) (lb : List UInt8) : Prop := lb.length = len ∧ (0 < len → ∃ g o, ao = some ⟨g, o, none⟩ ∧ At w g o lb ∧ g < w.heap.size)

theorem take4_lt (l : List UInt8) (p : Nat) : Lib.beNat ((l.drop p).take 4) < 4294967296 := by
  have h1 := beNat_lt ((l.drop p).take 4)
  have h2 : 256 ^ ((l.drop p).take 4).length ≤ 256 ^ 4 := Nat.pow_le_pow_right (by decide) (List.length_take_le _ _)
  have h3 : (256 : Nat) ^ 4 = 4294967296 := by decide
  omega

set_option maxHeartbeats 2000000 in
set_option maxRecDepth 100000 in
theorem lawC_exact (ao : Option Addr) (len cap : Nat) (lb : List UInt8) (w : World) (hlen : len ≤ 1024) (hcame : Came8 w ao len lb) :
    Calls Ybad.prog 5 #[.slice ao len cap, .bool true] w fun e w' => e = .returned (.bool true) ∧ Below w.heap.size w w' := by
  have F := fit12 ao len cap 20 20 rfl (by omega) lb w hlen hcame.1 hcame.2
  clear hcame
  go_enter Ybad.func5, Ybad.ntmps5
  go_wp2_with fail
  refine F.mono ?_
  clear F
  rintro e w1 ⟨l, hl, rfl, hold, N1⟩
  have HL : Hid (l.length = 20) := hl
  have HH : Hid (Holds w1 w.heap.size l) := hold
  have P := parse13 w.heap.size 0 20 l w1 (by omega) hl hold.at hold.lt
  clear hl hold
  go_wp2_with fail
  refine P.mono ?_
  clear P
  rintro e w2 ⟨rfl, n2⟩
  have N2 : Below w.heap.size w w2 := N1.trans (n2.mono N1.size)
  have HA : ∀ W, Below w2.heap.size w2 W → At W w.heap.size 0 l := fun W hb => (HH.out.at.below n2 HH.out.lt).below hb (Nat.lt_of_lt_of_le HH.out.lt n2.size)
  have HA' : Hid _ := HA
  have z2 : w.heap.size ≤ w2.heap.size := N2.size
  have hd := take4_lt l 16
  clear HA n2 N1 HH
  go_wp2_with fail
  go_quiet ((first
    | (go_at_call_of 14 (Value.int IntKind.i64 0); exact Calls.quiet_of_same (be14 w.heap.size 0 20 20 0 8 0 8 rfl rfl l _ HL.out (by omega) (by omega) (by omega) (HA'.out _ (below_drewN ((Below.refl _ _).alloc (Nat.le_refl _) _) _))))
    | (go_at_call_of 14 (Value.int IntKind.i64 16); exact Calls.quiet_of_same (be14 w.heap.size 0 20 20 16 4 16 4 rfl rfl l _ HL.out (by omega) (by omega) (by omega) (HA'.out _ (below_drewN ((Below.refl _ _).alloc (Nat.le_refl _) _) _))))
    | (go_at_call_of 14 (Value.int IntKind.i64 8); exact Calls.quiet_of_same (be14 w.heap.size 0 20 20 8 8 8 8 rfl rfl l _ HL.out (by omega) (by omega) (by omega) (HA'.out _ (below_drewN ((Below.refl _ _).alloc (Nat.le_refl _) _) _))))))
  go_wp2
  go_ret
  exact ⟨rfl, below_drewN (N2.alloc z2 _) _⟩

set_option maxHeartbeats 2000000 in
set_option maxRecDepth 100000 in
theorem lawC_same (g o cap : Nat) (l : List UInt8) (w : World) (hc : 20 ≤ cap) (hl : l.length = 20) (h : At w g o l) (hg : g < w.heap.size) :
    Calls Ybad.prog 5 #[.slice (some ⟨g, o, none⟩) 20 cap, .bool false] w fun e w' => e = .returned (.bool true) ∧ Below w.heap.size w w' := by
  have P := parse13 g o cap l w hc hl h hg
  have HL : Hid (l.length = 20) := hl
  have HH : Hid (At w g o l) := h
  clear hl h
  go_enter Ybad.func5, Ybad.ntmps5
  go_wp2_with fail
  refine P.mono ?_
  clear P
  rintro e w2 ⟨rfl, N2⟩
  have HA' : Hid (∀ W, Below w2.heap.size w2 W → At W g o l) := fun W hb => (HH.out.below N2 hg).below hb (Nat.lt_of_lt_of_le hg N2.size)
  have z2 : w.heap.size ≤ w2.heap.size := N2.size
  have hd := take4_lt l 16
  clear HH
  go_wp2_with fail
  go_quiet ((first
    | (go_at_call_of 14 (Value.int IntKind.i64 0); exact Calls.quiet_of_same (be14 g o 20 cap 0 8 0 8 rfl rfl l _ HL.out (by omega) (by omega) (by omega) (HA'.out _ (below_drewN ((Below.refl _ _).alloc (Nat.le_refl _) _) _))))
    | (go_at_call_of 14 (Value.int IntKind.i64 16); exact Calls.quiet_of_same (be14 g o 20 cap 16 4 16 4 rfl rfl l _ HL.out (by omega) (by omega) (by omega) (HA'.out _ (below_drewN ((Below.refl _ _).alloc (Nat.le_refl _) _) _))))
    | (go_at_call_of 14 (Value.int IntKind.i64 8); exact Calls.quiet_of_same (be14 g o 20 cap 8 8 8 8 rfl rfl l _ HL.out (by omega) (by omega) (by omega) (HA'.out _ (below_drewN ((Below.refl _ _).alloc (Nat.le_refl _) _) _))))))
  go_wp2
  go_ret
  exact ⟨rfl, below_drewN (N2.alloc z2 _) _⟩

set_option maxHeartbeats 1000000 in
theorem lawC_long (ao : Option Addr) (len cap : Nat) (x : Bool) (w : World) (hlen : 1024 < len) :
    Calls Ybad.prog 5 #[.slice ao len cap, .bool x] w fun e w' => e = .returned (.bool true) ∧ Below w.heap.size w w' := by
  have h : (1024 : Int) < (len : Int) := by omega
  go_enter Ybad.func5, Ybad.ntmps5
  go_wp2
  go_ret
  exact ⟨rfl, Below.refl _ _⟩

theorem comp56 : (Ybad.prog.info? 56).map (·.comparable) = some true := by kernel_rfl
theorem size75 : (Ybad.prog.info? 75).map (·.size) = some 1 := by kernel_rfl

set_option maxHeartbeats 2000000 in
set_option maxRecDepth 100000 in
theorem lawC_no (ao : Option Addr) (len cap : Nat) (aE : Addr) (w : World) (hlen : len ≤ 1024) (hne : len ≠ 20) (h0 : 0 < w.heap.size) (hE : w.cell? ⟨0, 0, none⟩ = some (.iface 56 (.pointer (some aE)))) :
    Calls Ybad.prog 5 #[.slice ao len cap, .bool false] w fun e w' => e = .returned (.bool true) ∧ Below w.heap.size w w' := by
  have P := parse13_no ao len cap _ w hlen hne h0 hE
  obtain ⟨i1, hi1, hcomp⟩ := Option.map_eq_some_iff.1 comp56
  obtain ⟨j1, hj1, _⟩ := Option.map_eq_some_iff.1 size75
  have heq : ∀ W, (binOp .eql 29 (.iface 56 (.pointer (some aE))) (.iface 56 (.pointer (some aE)))).run Ybad.prog W = .ok (.bool true) W := fun W => run_eql_iface_ptr_same W aE Ybad.underlying29 Ybad.underlying56 hi1 hcomp hj1
  have hb : ((len : Int) == 20) = false := by simp; omega
  clear hi1 hj1 hcomp
  go_enter Ybad.func5, Ybad.ntmps5
  go_wp2_with fail
  refine P.mono ?_
  clear P
  rintro e w2 ⟨rfl, N2⟩
  have z2 : w.heap.size ≤ w2.heap.size := N2.size
  have hE2 : ∀ ob, (w2.alloc ob).cell? ⟨0, 0, none⟩ = some (.iface 56 (.pointer (some aE))) := fun ob => ((N2.alloc z2 ob).cell (p := ⟨0, 0, none⟩) h0).trans hE
  clear hE
  go_wp2
  go_ret
  exact ⟨rfl, N2.alloc z2 _⟩

end Go.Proofs.YbulksfuDoor
