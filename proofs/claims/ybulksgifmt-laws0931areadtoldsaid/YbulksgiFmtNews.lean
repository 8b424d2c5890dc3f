import Derived.Test.YbulksgiFmtStart
import Derived.LaidEqlPtr
/-! Small lemmas of the law's walks. -/
namespace Go.Proofs.YbulksgiFmt
open Go.RowKit Go.Stop

theorem bytes_one (l : List UInt8) : ∀ u ∈ Lib.byteCells l, u.oneCell' = true := by
  intro u hu
  obtain ⟨b, _, rfl⟩ := List.mem_map.1 hu
  rfl
theorem at_news {w : World} {g o : Nat} {l : List UInt8} (h : At w g o l) : ∀ j u, (Lib.byteCells l)[j]? = some u → w.cell? ((⟨g, o, none⟩ : Addr).add j) = some u := by
  intro j u hu
  have hplain : (⟨g, o, none⟩ : Addr).add j = ⟨g, o + j, none⟩ := by unfold Addr.add; split <;> simp_all
  rw [hplain]
  simp only [Lib.byteCells, List.getElem?_map, Option.map_eq_some_iff] at hu
  obtain ⟨b, hb, rfl⟩ := hu
  exact h j b hb
theorem at_own {w : World} {B D len dc : Nat} {l : List UInt8} (h : w.ownsRow B 5 1 (.slice (some ⟨D, 0, none⟩) len dc) len (Lib.byteCells l)) (hl : l.length = len) : At w D 0 l := by
  intro j b hj
  have hjl : j < l.length := (List.getElem?_eq_some_iff.1 hj).1
  rw [Nat.zero_add, h.cellAt j (by omega)]
  simp [Lib.byteCells, hj]
theorem At.part {w : World} {g o : Nat} {l : List UInt8} (h : At w g o l) (p n : Nat) : At w g (o + p) ((l.drop p).take n) := by
  intro j b hj
  have hjn : j < n := by
    have := (List.getElem?_eq_some_iff.1 hj).1
    simp at this; omega
  rw [List.getElem?_take_of_lt hjn, List.getElem?_drop] at hj
  have := h (p + j) b hj
  rwa [← Nat.add_assoc] at this
theorem At.keep {R G0 Bf off N bc G gc D : Nat} {dv : Value} {l b : List UInt8} {W W' : World} (h : At W D 0 l) (O : Out R G0 Bf dv off N bc b G gc W W') (h1 : D ≠ R) (h2 : D ≠ G0) (h3 : D ≠ Bf) : At W' D 0 l := by
  intro j x hj
  have := h j x hj
  exact (World.cell?_of_block (O.block D (World.block_lt_of_cell? _ _ this) h1 h2 h3)).trans this

theorem run_neq_ptr_same {P : Program} (w : World) {tp te : TypeId} {j : TypeInfo} (a : Addr) (hp : P.underlying tp = some (.pointer te)) (hte : P.info? te = some j) :
    (binOp .neq tp (.pointer (some a)) (.pointer (some a))).run P w = .ok (.bool false) w := by
  have h : ∀ d : Nat, (Op.equalIn (d + 1) tp (.pointer (some a)) (.pointer (some a))).run P w = .ok true w := fun d => by
    simp [Op.equalIn, run_underlying hp, sizeOf, typeInfo, hte, run_sameAddr_same]
  simp only [binOp]
  simp [Op.equal, Op.maxDepth, h 9999]

end Go.Proofs.YbulksgiFmt
