import Derived.Test.YbulksgiFmtFull
import Derived.Deep.RegionHeld3
/-! (*blteData).bytes. -/
namespace Go.Proofs.YbulksgiFmt
open Go.RowKit Go.Stop

/-- What comes back out of the head. -/
def HeadIs (hp : Option Addr) (A N : Nat) (e : Ending) : Prop := ∃ gp gc, e = .returned (.tuple #[.slice gp N gc, .nilIface]) ∧ (0 < N → gp = hp.map (·.add A))

set_option maxHeartbeats 1000000 in
set_option maxRecDepth 100000 in
/-- Out of the head. -/
theorem bytes4_head (Bd Bf A N hl hc : Nat) (hp : Option Addr) (w : World) (hA : A ≤ 255) (hN : N ≤ 255) (hfit : A + N ≤ hl) (hlc : hl ≤ hc) (hl2 : hl ≤ 1024) (h3 : w.cell? ⟨Bd, 3, none⟩ = some (.slice hp hl hc)) :
    Calls Ybaf.prog 4 #[.pointer (some ⟨Bd, 0, none⟩), .int .i64 A, .int .i64 N, .pointer (some ⟨Bf, 0, none⟩)] w fun e w' => HeadIs hp A N e ∧ w' = w := by
  have hs : (A : Int) + (N : Int) ≤ (hl : Int) := by omega
  go_enter Ybaf.func4, Ybaf.ntmps4
  go_wp2
  · go_ret2
    exact ⟨⟨_, _, rfl, fun h => by omega⟩, rfl⟩
  · go_ret2
    exact ⟨⟨_, _, rfl, fun _ => rfl⟩, rfl⟩

/-- What bytes has left behind where it had to read. -/
structure Out (R G0 Bf : Nat) (dv : Value) (off N bc : Nat) (l : List UInt8) (G gc : Nat) (w w' : World) : Prop where
  os : w'.os = w.os
  tape : w'.tape = w.tape
  output : w'.output = w.output
  size : w.heap.size ≤ w'.heap.size
  block : ∀ k, k < w.heap.size → k ≠ R → k ≠ G0 → k ≠ Bf → w'.heap[k]? = w.heap[k]?
  buf : w'.cell? ⟨Bf, 0, none⟩ = some (.slice (some ⟨G, 0, none⟩) N gc)
  room : N ≤ gc
  same : N ≤ bc → G = G0
  calls : w'.cell? ⟨R, 1, none⟩ = some (.int .i64 1)
  offs : ∃ h hc, w'.cell? ⟨R, 2, none⟩ = some (.slice (some ⟨h, 0, none⟩) 1 hc) ∧ w'.cell? ⟨h, 0, none⟩ = some (.int .i64 off)
  bytes : At w' G 0 l

/-- What the walks are told of the world in which bytes is called. -/
structure Start (Bd Bf R G0 hl hc o dn dc bc : Nat) (hp dp : Option Addr) (l : List UInt8) (aE aU : Addr) (sU : ByteArray) (w : World) : Prop where
  b0 : w.cell? ⟨Bd, 0, none⟩ = some (.iface 23 (.pointer (some ⟨R, 0, none⟩)))
  b1 : w.cell? ⟨Bd, 1, none⟩ = some (.int .i64 o)
  b3 : w.cell? ⟨Bd, 3, none⟩ = some (.slice hp hl hc)
  bf : w.heap[Bf]? = some (.cells #[.slice (some ⟨G0, 0, none⟩) 0 bc] 22 (0, 0))
  rd : w.heap[R]? = some (.cells #[.slice dp dn dc, .int .i64 0, .slice none 0 0] 26 (0, 0))
  row : ∃ cur : List Value, cur.length = bc ∧ w.heap[G0]? = some (.cells cur.toArray 5 (0, 0))
  len : l.length = dn
  data : 0 < dn → ∃ D, dp = some ⟨D, 0, none⟩ ∧ dn ≤ dc ∧ D ≠ R ∧ D ≠ G0 ∧ D ≠ Bf ∧ At w D 0 l
  e : w.cell? ⟨0, 0, none⟩ = some (.iface 47 (.pointer (some aE)))
  u : w.cell? ⟨1, 0, none⟩ = some (.iface 47 (.pointer (some aU)))
  s : w.cell? aU = some (.string sU)
  sb : aU.block ≠ R ∧ aU.block ≠ G0 ∧ aU.block ≠ Bf
  apart : R ≠ G0 ∧ R ≠ Bf ∧ G0 ≠ Bf ∧ Bd ≠ R ∧ Bd ≠ G0 ∧ Bd ≠ Bf ∧ 1 < R ∧ 1 < G0 ∧ 1 < Bf ∧ 1 < Bd

/-- The world in which readFull is called, the buffer being G. -/
structure Mid (Bd Bf R G0 o dn dc bc : Nat) (dp : Option Addr) (l : List UInt8) (aE aU : Addr) (sU : ByteArray) (N G gc : Nat) (w W : World) : Prop where
  os : W.os = w.os
  tape : W.tape = w.tape
  output : W.output = w.output
  size : w.heap.size ≤ W.heap.size
  block : ∀ k, k < w.heap.size → k ≠ Bf → W.heap[k]? = w.heap[k]?
  b0 : W.cell? ⟨Bd, 0, none⟩ = some (.iface 23 (.pointer (some ⟨R, 0, none⟩)))
  b1 : W.cell? ⟨Bd, 1, none⟩ = some (.int .i64 o)
  bf : W.cell? ⟨Bf, 0, none⟩ = some (.slice (some ⟨G, 0, none⟩) N gc)
  rd : W.heap[R]? = some (.cells #[.slice dp dn dc, .int .i64 0, .slice none 0 0] 26 (0, 0))
  row : ∃ cur : List Value, cur.length = gc ∧ W.heap[G]? = some (.cells cur.toArray 5 (0, 0))
  data : Data W R G dp dn dc l
  e : W.cell? ⟨0, 0, none⟩ = some (.iface 47 (.pointer (some aE)))
  u : W.cell? ⟨1, 0, none⟩ = some (.iface 47 (.pointer (some aU)))
  s : W.cell? aU = some (.string sU)
  sb : aU.block ≠ R ∧ aU.block ≠ G
  room : N ≤ gc
  same : N ≤ bc → G = G0
  was : G = G0 ∨ w.heap.size ≤ G
  apart : R ≠ G ∧ R ≠ Bf ∧ G ≠ Bf ∧ Bd ≠ R ∧ Bd ≠ G ∧ 1 < R ∧ 1 < G

theorem Mid.hs {Bd Bf R G0 o dn dc bc : Nat} {dp : Option Addr} {l : List UInt8} {aE aU : Addr} {sU : ByteArray} {N G gc : Nat} {w W : World} (h : Mid Bd Bf R G0 o dn dc bc dp l aE aU sU N G gc w W) : ∀ X, But R G W X → X.cell? aU = some (.string sU) := fun _ hb =>
  (World.cell?_of_block (hb.block aU.block (World.block_lt_of_cell? _ _ h.s) h.sb.1 h.sb.2)).trans h.s

/-- Behind readFull. -/
theorem Mid.out {Bd Bf R G0 o dn dc bc : Nat} {dp : Option Addr} {l : List UInt8} {aE aU : Addr} {sU : ByteArray} {N G gc off n : Nat} {w W W' : World} (h : Mid Bd Bf R G0 o dn dc bc dp l aE aU sU N G gc w W) (d : Did R G (.slice dp dn dc) off n ((l.drop off).take N) W W') :
    Out R G0 Bf (.slice dp dn dc) off N bc ((l.drop off).take N) G gc w W' := by
  obtain ⟨a1, a2, a3, a4, a5, a6, a7⟩ := h.apart
  obtain ⟨hh, hc, r1, r2, r3, r4⟩ := d.rd
  refine ⟨d.but.os.trans h.os, d.but.tape.trans h.tape, d.but.output.trans h.output, Nat.le_trans h.size d.but.size, ?_, d.but.cell h.bf (Ne.symm a2) (Ne.symm a3), h.room, h.same, ?_, ⟨hh, hc, ?_, r2⟩, d.bytes⟩
  · intro k hk h1 h2 h3
    refine (d.but.block k (Nat.lt_of_lt_of_le hk h.size) h1 ?_).trans (h.block k hk h3)
    rcases h.was with e | e <;> omega
  · rw [cell_of_row W' R _ _ _ _ r1]; rfl
  · rw [cell_of_row W' R _ _ _ _ r1]; rfl

theorem mid_same {Bd Bf R G0 hl hc o dn dc bc N : Nat} {hp dp : Option Addr} {l : List UInt8} {aE aU : Addr} {sU : ByteArray} {w : World} (h : Start Bd Bf R G0 hl hc o dn dc bc hp dp l aE aU sU w) (hN : N ≤ bc) :
    Mid Bd Bf R G0 o dn dc bc dp l aE aU sU N G0 bc w (w.setCell ⟨Bf, 0, none⟩ (.slice (some ⟨G0, 0, none⟩) N bc)) := by
  obtain ⟨a1, a2, a3, a4, a5, a6, a7, a8, a9, a10⟩ := h.apart
  have ot : ∀ k, k ≠ Bf → (w.setCell ⟨Bf, 0, none⟩ (.slice (some ⟨G0, 0, none⟩) N bc)).heap[k]? = w.heap[k]? := fun k hk => Below.heap_setCell _ _ _ _ hk
  have oc : ∀ b o' v, w.cell? ⟨b, o', none⟩ = some v → b ≠ Bf → (w.setCell ⟨Bf, 0, none⟩ (.slice (some ⟨G0, 0, none⟩) N bc)).cell? ⟨b, o', none⟩ = some v := fun b o' v hv hb => (World.cell?_of_block (ot b hb)).trans hv
  obtain ⟨cur, c1, c2⟩ := h.row
  refine ⟨rfl, rfl, rfl, by simp, fun k _ hk => ot k hk, oc _ _ _ h.b0 a6, oc _ _ _ h.b1 a6, ?_, (ot R a2).trans h.rd, ⟨cur, c1, (ot G0 a3).trans c2⟩, ⟨h.len, fun h0 => ?_⟩, oc _ _ _ h.e (by omega), oc _ _ _ h.u (by omega), (World.cell?_of_block (ot _ h.sb.2.2)).trans h.s, ⟨h.sb.1, h.sb.2.1⟩, hN, fun _ => rfl, .inl rfl, ⟨a1, a2, a3, a4, a5, a7, a8⟩⟩
  · rw [cell_of_row _ Bf _ _ _ _ (heap_set h.bf _)]; rfl
  · obtain ⟨D, d1, d2, d3, d4, d5, d6⟩ := h.data h0
    exact ⟨D, d1, d2, d3, d4, fun j b hj => oc _ _ _ (d6 j b hj) d5⟩

theorem mid_made {Bd Bf R G0 hl hc o dn dc bc N : Nat} {hp dp : Option Addr} {l : List UInt8} {aE aU : Addr} {sU : ByteArray} {w w1 : World} {xs : List Value} (h : Start Bd Bf R G0 hl hc o dn dc bc hp dp l aE aU sU w) (hN : bc < N) (gr : w.grownBy w1 none)
    (own : w1.ownsRow w.heap.size 5 1 (.slice (some ⟨w.heap.size, 0, none⟩) N N) N xs) :
    Mid Bd Bf R G0 o dn dc bc dp l aE aU sU N w.heap.size N w (w1.setCell ⟨Bf, 0, none⟩ (.slice (some ⟨w.heap.size, 0, none⟩) N N)) := by
  obtain ⟨a1, a2, a3, a4, a5, a6, a7, a8, a9, a10⟩ := h.apart
  have ol : ∀ k, k < w.heap.size → w1.heap[k]? = w.heap[k]? := fun k hk => gr.block k hk (by simp)
  have ot : ∀ k, k ≠ Bf → (w1.setCell ⟨Bf, 0, none⟩ (.slice (some ⟨w.heap.size, 0, none⟩) N N)).heap[k]? = w1.heap[k]? := fun k hk => Below.heap_setCell _ _ _ _ hk
  have oc : ∀ b o' v, w.cell? ⟨b, o', none⟩ = some v → b ≠ Bf → (w1.setCell ⟨Bf, 0, none⟩ (.slice (some ⟨w.heap.size, 0, none⟩) N N)).cell? ⟨b, o', none⟩ = some v := fun b o' v hv hb => (World.cell?_of_block ((ot b hb).trans (ol b (World.block_lt_of_cell? _ _ hv)))).trans hv
  have lR := heap_lt h.rd
  have lB := heap_lt h.bf
  have lD := World.block_lt_of_cell? _ _ h.b0
  have lU := World.block_lt_of_cell? _ _ h.s
  simp only at lD
  have rw1 := row_of_full own
  refine ⟨gr.os, gr.tape, gr.output, by simpa using gr.size, fun k hk hb => (ot k hb).trans (ol k hk), oc _ _ _ h.b0 a6, oc _ _ _ h.b1 a6, ?_, (ot R a2).trans ((ol R lR).trans h.rd), ⟨xs, by simpa using own.1, (ot _ (by omega)).trans rw1⟩, ⟨h.len, fun h0 => ?_⟩, oc _ _ _ h.e (by omega), oc _ _ _ h.u (by omega), (World.cell?_of_block ((ot _ h.sb.2.2).trans (ol _ lU))).trans h.s, ⟨h.sb.1, by omega⟩, Nat.le_refl _, fun h' => by omega, .inr (Nat.le_refl _), ⟨by omega, a2, by omega, a4, by omega, a7, by omega⟩⟩
  · rw [cell_of_row _ Bf _ _ _ _ (heap_set ((ol Bf lB).trans h.bf) _)]; rfl
  · obtain ⟨D, d1, d2, d3, d4, d5, d6⟩ := h.data h0
    obtain ⟨b0, hb0⟩ : ∃ b, l[0]? = some b := ⟨_, List.getElem?_eq_getElem (by rw [h.len]; omega)⟩
    have lD' := World.block_lt_of_cell? _ _ (d6 0 b0 hb0)
    simp only at lD'
    exact ⟨D, d1, d2, d3, by omega, fun j b hj => oc _ _ _ (d6 j b hj) d5⟩

end Go.Proofs.YbulksgiFmt
