import Derived.WalkKit
import Derived.Lib.Endian
import Derived.Lib.EndianMore
import Derived.Lib.Walk
import Derived.Lib.UnsafeStr
import Derived.Deep.AppendLies
/-! Plain lemmas: bytes of a number, the greatest first; worlds that grow. Nothing of the dump. -/
namespace Go.Proofs.YbulksgiFmt
open Go.RowKit

/-- Two steps, each of which writes to one row of the call's own alone. -/
theorem grown_trans {w w1 w2 : World} {r : Option Nat} {r1 : Option Nat} (h : w.grownBy w1 r) (k : w1.grownBy w2 r1) (hr : ∀ g, r1 = some g → r = some g ∨ w.heap.size ≤ g) : w.grownBy w2 r :=
  ⟨k.os.trans h.os, k.tape.trans h.tape, k.output.trans h.output, Nat.le_trans h.size k.size, fun b hb hne => by
    refine (k.block b (Nat.lt_of_lt_of_le hb h.size) ?_).trans (h.block b hb hne)
    intro e
    rcases hr b e.symm with e2 | e2
    · exact hne e2.symm
    · omega⟩

theorem grown_alloc (w : World) (o : Obj) (r : Option Nat) : w.grownBy (w.alloc o) r :=
  ⟨rfl, rfl, rfl, by simp, fun b hb _ => Below.heap_alloc _ _ _ hb⟩

theorem leBytes_get : ∀ (k v j : Nat), j < k → (Lib.leBytes k v)[j]? = some (v / 256 ^ j % 256).toUInt8
  | 0, _, _, h => by omega
  | k + 1, v, 0, _ => by simp [Lib.leBytes]
  | k + 1, v, j + 1, h => by
    simp only [Lib.leBytes, List.getElem?_cons_succ]
    rw [leBytes_get k (v / 256) j (by omega), Nat.div_div_eq_div_mul, Nat.pow_succ, Nat.mul_comm]

theorem beBytes_get (k v j : Nat) (h : j < k) : (Lib.beBytes k v)[j]? = some (v / 256 ^ (k - 1 - j) % 256).toUInt8 := by
  unfold Lib.beBytes
  rw [List.getElem?_reverse (by rw [Lib.leBytes_length]; exact h), Lib.leBytes_length, leBytes_get _ _ _ (by omega)]

/-- v's k bytes as cells, the greatest first. -/
def beCells (k v : Nat) : List Value := Lib.byteCells (Lib.beBytes k v)

theorem beCells_length (k v : Nat) : (beCells k v).length = k := by simp [beCells, Lib.byteCells, Lib.beBytes_length]

theorem beCells_get (k v j : Nat) (h : j < k) : (beCells k v)[j]? = some (.int .u8 ((v / 256 ^ (k - 1 - j) % 256 : Nat) : Int)) := by
  simp only [beCells, Lib.byteCells, List.getElem?_map, beBytes_get k v j h, Option.map_some, Lib.toUInt8_mod]

theorem beCells_take (k v j : Nat) (h : j < k) : (beCells k v).take (j + 1) = (beCells k v).take j ++ [.int .u8 ((v / 256 ^ (k - 1 - j) % 256 : Nat) : Int)] := by
  rw [List.take_add_one, beCells_get k v j h]; rfl

/-- A slice that owns its whole row: the row, and back. -/
theorem row_of_full {w : World} {B g n : Nat} {e : TypeId} {xs : List Value} (h : w.ownsRow B e 1 (.slice (some ⟨g, 0, none⟩) n n) n xs) : w.heap[g]? = some (.cells xs.toArray e (0, 0)) := by
  rcases h.2 with ⟨h', _⟩ | ⟨g', cap', cur, h', _, hg, _, _, hs, htake⟩
  · simp at h'
  · simp only [Value.slice.injEq, Option.some.injEq, Addr.mk.injEq, and_true, true_and] at h'
    obtain ⟨rfl, rfl⟩ := h'
    rw [List.take_of_length_le (by simp; omega)] at htake
    rw [hg, ← htake]

theorem full_of_row {w : World} {B g n : Nat} {e : TypeId} {xs : List Value} (h : w.heap[g]? = some (.cells xs.toArray e (0, 0))) (hB : B ≤ g) (hl : xs.length = n) (hm : n ≤ maxLen) : w.ownsRow B e 1 (.slice (some ⟨g, 0, none⟩) n n) n xs :=
  ⟨by omega, .inr ⟨g, n, xs.toArray, rfl, hB, h, Nat.le_refl _, hm, by simp; omega, List.take_of_length_le (by simp; omega)⟩⟩

/-- A row of bytes. -/
def Bytes (l : List Value) : Prop := ∀ v ∈ l, ∃ z : Int, v = .int .u8 z

theorem Bytes.append {a b : List Value} (ha : Bytes a) (hb : Bytes b) : Bytes (a ++ b) := fun v hv => (List.mem_append.1 hv).elim (ha v) (hb v)
theorem Bytes.be (k v : Nat) : Bytes (beCells k v) := fun u hu => by
  obtain ⟨b, _, rfl⟩ := List.mem_map.1 hu
  exact ⟨_, rfl⟩
theorem Bytes.ints (zs : List Int) : Bytes (zs.map (Value.int .u8)) := fun u hu => by
  obtain ⟨b, _, rfl⟩ := List.mem_map.1 hu
  exact ⟨_, rfl⟩
theorem Bytes.at {l : List Value} (h : Bytes l) {j : Nat} (hj : j < l.length) : ∃ z : Int, l[j]? = some (.int .u8 z) := by
  obtain ⟨z, hz⟩ := h l[j] (List.getElem_mem hj)
  exact ⟨z, by rw [List.getElem?_eq_getElem hj, hz]⟩

end Go.Proofs.YbulksgiFmt
