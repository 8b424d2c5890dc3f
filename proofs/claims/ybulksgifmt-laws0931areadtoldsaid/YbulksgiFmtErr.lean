import Derived.Test.YbulksgiFmtProg
import Derived.WalkKit
import Derived.WalkSpells
import Derived.Stop.CallBack
import Derived.Stop.IfaceNil
import Derived.KernelRfl
/-! fmt.Errorf at the one format of this road: it returns an error that is not nil; nothing that was there has turned. -/
namespace Go.Proofs.YbulksgiFmt
open Go.RowKit Go.Extern.Stop Go.Stop Go.Extern

theorem call8 (args : Array Value) (w : World) : (callFunc 8 args).run Ybaf.prog w = ((FmtStop.errorf #[9, 44] #[33] args).run Ybaf.prog w).andThen fun v w' => .ok (.value v) w' :=
  run_callFunc_extern Ybaf.func8 (by kernel_rfl) (by kernel_rfl) (by kernel_rfl) (by kernel_rfl) args w
theorem fguard (name : String) (w : World) : (FmtStop.guard name).run Ybaf.prog w = .ok () w := by kernel_rfl
theorem fmt0 : FmtStop.printed? ⟨#[114, 101, 97, 100, 105, 110, 103, 32, 37, 100, 32, 98, 121, 116, 101, 115, 32, 97, 116, 32, 111, 102, 102, 115, 101, 116, 32, 37, 100, 58, 32, 37, 119]⟩ 3 = some [(0, 100, false), (1, 100, false), (2, 119, false)] := by kernel_rfl
theorem fmt0r (w : World) : (FmtDoors.printed ⟨#[114, 101, 97, 100, 105, 110, 103, 32, 37, 100, 32, 98, 121, 116, 101, 115, 32, 97, 116, 32, 111, 102, 102, 115, 101, 116, 32, 37, 100, 58, 32, 37, 119]⟩ 3).run Ybaf.prog w = .ok [(0, 100, false), (1, 100, false), (2, 119, false)] w := by kernel_rfl
def shape3 : List UInt8 := [5, 3, 0, 0, 0, 0, 0, 0, 0, 105, 110, 116]
theorem op3 (name : String) (x : Int) (w : World) : (FmtStop.operand name true 100 false (.iface 3 (.int .i64 x))).run Ybaf.prog w = .ok (shape3, Go.Extern.Stop.digits 8 (x % 2 ^ 64).toNat) w := by kernel_rfl
def shape2 : List UInt8 := [5, 5, 0, 0, 0, 0, 0, 0, 0, 105, 110, 116, 54, 52]
theorem op2 (name : String) (x : Int) (w : World) : (FmtStop.operand name true 100 false (.iface 2 (.int .i64 x))).run Ybaf.prog w = .ok (shape2, Go.Extern.Stop.digits 8 (x % 2 ^ 64).toNat) w := by kernel_rfl
theorem ptr47 (w : World) : (FmtStop.ptrTo "errors.errorString").run Ybaf.prog w = .ok 47 w := by kernel_rfl
theorem elem47 (w : World) : (elemOf 47).run Ybaf.prog w = .ok 49 w := by kernel_rfl
theorem isError47 (w : World) : (FmtDoors.textMethod 47 "Error").run Ybaf.prog w = .ok true w := by kernel_rfl
def plain47 : List UInt8 := 14 :: FmtStop.pack "*errors.errorString".toUTF8.data.toList
theorem opPlain47 (name : String) (a : Addr) (s : ByteArray) (w : World) (hc : w.cell? a = some (.string s)) :
    (FmtStop.operand name true 119 false (.iface 47 (.pointer (some a)))).run Ybaf.prog w = .ok (plain47, s.data.toList) w := by
  have h1 : (typeStr 47).run Ybaf.prog w = .ok "*errors.errorString" w := by kernel_rfl
  have d2 : Ybaf.t47.desc = .pointer 49 := rfl
  have d3 : Ybaf.t49.desc = .named "errors.errorString" 48 := rfl
  simp [FmtStop.operand, h1, d2, d3, run_load, hc, plain47]
theorem ptr46 (w : World) : (FmtStop.ptrTo "fmt.wrapError").run Ybaf.prog w = .ok 46 w := by kernel_rfl
theorem elem46 (w : World) : (elemOf 46).run Ybaf.prog w = .ok 67 w := by kernel_rfl
theorem isError46 (w : World) : (FmtDoors.textMethod 46 "Error").run Ybaf.prog w = .ok true w := by kernel_rfl
attribute [local go_sem] call8 fguard fmt0 fmt0r op3 op2 ptr47 elem47 isError47 ptr46 elem46 isError46

set_option maxHeartbeats 1000000 in
set_option maxRecDepth 100000 in
theorem errorf7 (F : Interp) (x y : Int) (a : Addr) (s : ByteArray) (K : Nat) (w : World) (hF : F.answers w.tape) (h0 : w.cell? ⟨K, 0, none⟩ = some (.iface 3 (.int .i64 x))) (h1 : w.cell? ⟨K, 1, none⟩ = some (.iface 2 (.int .i64 y)))
    (h2 : w.cell? ⟨K, 2, none⟩ = some (.iface 47 (.pointer (some a)))) (hs : w.cell? a = some (.string s)) :
    Calls Ybaf.prog 7 #[.string ⟨#[114, 101, 97, 100, 105, 110, 103, 32, 37, 100, 32, 98, 121, 116, 101, 115, 32, 97, 116, 32, 111, 102, 102, 115, 101, 116, 32, 37, 100, 58, 32, 37, 119]⟩, .slice (some ⟨K, 0, none⟩) 3 3] w
      fun e w' => ∃ b, e = .returned (.iface 46 (.pointer (some b))) ∧ Below w.heap.size w w' := by
  have hF' := answers_open hF
  have hop := opPlain47 "fmt.errorf" a s w hs
  go_enter Ybaf.func7, Ybaf.ntmps7
  go_wp2
  go_ret
  exact ⟨_, rfl, ((Below.refl _ _).alloc (Nat.le_refl _) _).drew⟩

end Go.Proofs.YbulksgiFmt
