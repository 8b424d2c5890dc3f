import Derived.Test.YbulksfuDoorRows
import Derived.Test.YbulksfuDoorTie
import Derived.Test.YbulksfuDoorCards
import Derived.WalkKit
import Derived.ProofKit
import Derived.OpenShut
import Derived.ShutString
import Derived.ChangeOld
import Derived.Below
import Derived.LaidMore
import Derived.Stop.LaidErr
import Derived.Stop.Joined
/-! What the listed variable gives: its cell; a start that meets the condition. -/
namespace Go.Proofs.YbulksfuDoor
open Go.ChangeShapes Go.WideShapes Go.ChangeAt Go.RowKit

theorem own : ownKnob Ybad.prog.godebug = none := by kernel_rfl
theorem laidOut : laidOutB Ybad.prog = true := by kernel_rfl
theorem gE : Ybad.prog.globalNamed "example.com/seqwire/seqwire/codec.ErrBadExtrasLength" = some 0 := by kernel_rfl
theorem gEType : (Ybad.prog.globals[0]?).map (·.type) = some 29 := by kernel_rfl
theorem kells75 : Ybad.prog.cellsOf 75 = 1 := by kernel_rfl
theorem kells9 : Ybad.prog.cellsOf 9 = 1 := by kernel_rfl
theorem star : "*" ++ "errors.errorString" = "*errors.errorString" := by decide
theorem row56 (u : TypeId) (h : Ybad.prog.typeName? 3 u = some "*errors.errorString") : u = 56 :=
  typeName_ptr_named (nm := "errors.errorString") (by rw [star]; kernel_rfl) (by kernel_rfl) (by decide) u (by rw [star]; exact h)

/-- The rows' one list. -/
def laid1 : List (String × DataW Unit) := [("example.com/seqwire/seqwire/codec.ErrBadExtrasLength", Rows.laid_example_com_seqwire_seqwire_codec_ErrBadExtrasLength)]

/-- The door's own heap meets the condition. -/
theorem door_met (os : Os) (args : Array Value) : laidMetH Ybad.prog laid1 ((World.doorLaid Ybad.prog 400 os).forCall (fun _ _ => 0) ⟨#[], args, []⟩).memory :=
  laidMetH_of_parts3 (fuel := 8) (laidMet_of_run' 8 (by kernel_rfl) (by kernel_rfl)) (by kernel_rfl) (by kernel_rfl)

/-- What the condition gives the walks: the variable holds a pointer to an errorString. -/
theorem of_laid {W : World} (h : laidMetH Ybad.prog laid1 W) : ∃ a : Addr, W.var? Ybad.prog "example.com/seqwire/seqwire/codec.ErrBadExtrasLength" = some #[.iface 56 (.pointer (some a))] ∧ W.cell? ⟨0, 0, none⟩ = some (.iface 56 (.pointer (some a))) := by
  rw [MakeChecks.laidMetH_plain _ _ _ (by kernel_rfl)] at h
  obtain ⟨a0, s0, hv0, hc0, hs0, hz0⟩ := laid_sentinel h gE gEType Ybad.underlying29 row56 Ybad.underlying56 Ybad.underlying75 rfl rfl Ybad.underlying9 kells75 kells9
  exact ⟨a0, hv0, by simpa using World.var?_cell gE hv0 0⟩

theorem var_below {W W' : World} {cs : Array Value} (h : W.var? Ybad.prog "example.com/seqwire/seqwire/codec.ErrBadExtrasLength" = some cs) (hb : Below W.heap.size W W') : W'.var? Ybad.prog "example.com/seqwire/seqwire/codec.ErrBadExtrasLength" = some cs := by
  unfold World.var? at h ⊢
  rw [gE] at h ⊢
  simp only [Option.bind_some] at h ⊢
  have hlt : 0 < W.heap.size := by
    rcases Nat.lt_or_ge 0 W.heap.size with h' | h'
    · exact h'
    · rw [Array.getElem?_eq_none h'] at h; cases h
  rw [hb.block 0 hlt]
  exact h

theorem nat_of_u64 {x : Int} (h : (Lit.int .u64 x).wf = true) : 0 ≤ x ∧ x < 18446744073709551616 := by
  have := bounds_u64 h; omega
theorem nat_of_u32 {x : Int} (h : (Lit.int .u32 x).wf = true) : 0 ≤ x ∧ x < 4294967296 := by
  have := bounds_u32 h; omega
theorem nat_of_u8 {x : Int} (h : (Lit.int .u8 x).wf = true) : 0 ≤ x ∧ x < 256 := by
  have := bounds_u8 h; omega

/-- A slice of integers that came in: nil, or a row of 'cap' cells. -/
def IsRow (k : IntKind) (w : World) (a : Option Addr) (len cap : Nat) (zs : List Int) : Prop :=
  (a = none ∧ len = 0 ∧ cap = 0 ∧ zs = []) ∨
  ∃ x, a = some x ∧ len ≤ cap ∧ cap ≤ maxLen ∧ zs.length = cap ∧ (∀ i, i < zs.length → w.cell? (x.add i) = some (.int k (zs.getD i 0))) ∧ ∀ n ∈ zs, (Lit.int k n).wf = true

end Go.Proofs.YbulksfuDoor
