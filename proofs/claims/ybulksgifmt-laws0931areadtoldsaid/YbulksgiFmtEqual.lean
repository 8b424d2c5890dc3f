import Derived.Test.YbulksgiFmtRead
import Derived.Laws.BytesArg
/-! bytes.Equal, where the two hold the same bytes. -/
namespace Go.Proofs.YbulksgiFmt
open Go.RowKit

/-- The slice's first cells hold the bytes l. -/
def Holds (w : World) (p : Option Addr) (l : List UInt8) : Prop := 0 < l.length → ∃ g o, p = some ⟨g, o, none⟩ ∧ At w g o l

theorem conv (w : World) (p : Option Addr) (n c : Nat) (l : List UInt8) (hl : l.length = n) (h : Holds w p l) : (convert 22 9 (.slice p n c)).run Ybaf.prog w = .ok (.string ⟨l.toArray⟩) w := by
  cases p with
  | none =>
    have hn : l = [] := by
      rcases Nat.eq_zero_or_pos l.length with h0 | h0
      · exact List.eq_nil_of_length_eq_zero h0
      · obtain ⟨_, _, e, _⟩ := h h0; cases e
    subst hn
    exact run_convert_bytes_nil w 22 5 Ybaf.underlying22 Ybaf.underlying5 n c 9 Ybaf.underlying9
  | some a =>
    have hx : (loadCells a n).run Ybaf.prog w = .ok ((l.map fun b => (b.toNat : Int)).map (Value.int .u8)).toArray w := by
      have := run_loadCells_list (P := Ybaf.prog) w a ((l.map fun b => (b.toNat : Int)).map (Value.int .u8)) (fun j v hj => by
        have hjl : j < l.length := by simpa using (List.getElem?_eq_some_iff.1 hj).1
        obtain ⟨g, o, e, hat⟩ := h (by omega)
        cases e
        have hplain : (⟨g, o, none⟩ : Addr).add j = ⟨g, o + j, none⟩ := by unfold Addr.add; split <;> simp_all
        rw [hplain, hat j l[j] (List.getElem?_eq_getElem hjl)]
        simpa [List.getElem?_eq_getElem hjl] using hj)
      simpa [hl] using this
    rw [run_convert_bytes_string w 22 9 5 _ n c Ybaf.underlying22 Ybaf.underlying5 Ybaf.underlying9, run_bytesToString w _ n c _ hx, foldl_push_bytes]
    have e1 : (l.map fun b => (b.toNat : Int)).map (fun n => UInt8.ofNat n.toNat) = l := by
      rw [List.map_map]
      conv => rhs; rw [← List.map_id l]
      apply List.map_congr_left
      intro b _
      simp
    rw [e1]
    simp [ByteArray.empty, ByteArray.emptyWithCapacity]
    rfl

set_option maxHeartbeats 1000000 in
theorem eq5 (p1 p2 : Option Addr) (n c1 c2 : Nat) (l : List UInt8) (w : World) (hl : l.length = n) (h1 : Holds w p1 l) (h2 : Holds w p2 l) :
    Calls Ybaf.prog 5 #[.slice p1 n c1, .slice p2 n c2] w fun e w' => e = .returned (.bool true) ∧ w' = w := by
  have k1 := conv w p1 n c1 l hl h1
  have k2 := conv w p2 n c2 l hl h2
  clear hl h1 h2
  go_enter Ybaf.func5, Ybaf.ntmps5
  go_wp2
  go_ret
  exact ⟨rfl, rfl⟩

end Go.Proofs.YbulksgiFmt
