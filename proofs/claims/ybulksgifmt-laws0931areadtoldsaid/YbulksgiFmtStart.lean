import Derived.Test.YbulksgiFmtBytes2
import Derived.Test.YbulksgiFmtEqual
/-! From the law's own blocks to what bytes is told; and back. -/
namespace Go.Proofs.YbulksgiFmt
open Go.RowKit Go.Stop

/-- What the law is told of the two variables of package io. -/
structure Vars (aE aU : Addr) (sU : ByteArray) (w : World) : Prop where
  e : w.cell? ⟨0, 0, none⟩ = some (.iface 47 (.pointer (some aE)))
  u : w.cell? ⟨1, 0, none⟩ = some (.iface 47 (.pointer (some aU)))
  s : w.cell? aU = some (.string sU)

theorem Vars.below {aE aU : Addr} {sU : ByteArray} {w w' : World} (h : Vars aE aU sU w) (hb : Below w.heap.size w w') : Vars aE aU sU w' :=
  ⟨(hb.cell (World.block_lt_of_cell? _ _ h.e)).trans h.e, (hb.cell (World.block_lt_of_cell? _ _ h.u)).trans h.u, (hb.cell (World.block_lt_of_cell? _ _ h.s)).trans h.s⟩

/-- The data as the law has copied it. -/
def Mine (wb : World) (dp : Option Addr) (len dc : Nat) (l : List UInt8) : Prop := l.length = len ∧ (0 < len → ∃ D, dp = some ⟨D, 0, none⟩ ∧ len ≤ dc ∧ D < wb.heap.size ∧ At wb D 0 l)

theorem start_of {hl hc o len dc bc : Nat} {hp dp : Option Addr} {l : List UInt8} {aE aU : Addr} {sU : ByteArray} {sz : Value} {wb w4 : World} {base : Nat} (V : Vars aE aU sU wb) (hm : Mine wb dp len dc l)
    (gr : ((wb.alloc (.cells #[.slice dp len dc, .int .i64 0, .slice none 0 0] 26)).alloc (.cells #[.iface 23 (.pointer (some ⟨wb.heap.size, 0, none⟩)), .int .i64 o, sz, .slice hp hl hc] 31)).grownBy w4 none)
    (own : w4.ownsRow base 5 1 (.slice (some ⟨wb.heap.size + 2, 0, none⟩) 0 bc) 0 []) :
    Start (wb.heap.size + 1) w4.heap.size wb.heap.size (wb.heap.size + 2) hl hc o len dc bc hp dp l aE aU sU (w4.alloc (.cells #[.slice (some ⟨wb.heap.size + 2, 0, none⟩) 0 bc] 22)) := by
  have l0 := World.block_lt_of_cell? _ _ V.u
  simp only at l0
  have lU := World.block_lt_of_cell? _ _ V.s
  have hz := gr.size
  simp only [World.size_alloc] at hz
  have lG := (own.lt (wb.heap.size + 2) rfl).2
  have B1 : Below (wb.heap.size) wb (w4.alloc (.cells #[.slice (some ⟨wb.heap.size + 2, 0, none⟩) 0 bc] 22)) :=
    ((((Below.refl _ _).alloc (Nat.le_refl _) _).alloc (by simp) _).grown gr (by simp; omega) (fun k h => by cases h)).alloc (by omega) _
  have hR : (w4.alloc (.cells #[.slice (some ⟨wb.heap.size + 2, 0, none⟩) 0 bc] 22)).heap[wb.heap.size]? = some (.cells #[.slice dp len dc, .int .i64 0, .slice none 0 0] 26 (0, 0)) := by
    rw [Below.heap_alloc _ _ _ (by omega), gr.block _ (by simp; omega) (by simp), Below.heap_alloc _ _ _ (by simp)]
    exact heap_alloc_new wb _
  have hBd : (w4.alloc (.cells #[.slice (some ⟨wb.heap.size + 2, 0, none⟩) 0 bc] 22)).heap[wb.heap.size + 1]? = some (.cells #[.iface 23 (.pointer (some ⟨wb.heap.size, 0, none⟩)), .int .i64 o, sz, .slice hp hl hc] 31 (0, 0)) := by
    rw [Below.heap_alloc _ _ _ (by omega), gr.block _ (by simp) (by simp)]
    have := heap_alloc_new (wb.alloc (.cells #[.slice dp len dc, .int .i64 0, .slice none 0 0] 26)) (.cells #[.iface 23 (.pointer (some ⟨wb.heap.size, 0, none⟩)), .int .i64 o, sz, .slice hp hl hc] 31)
    simpa using this
  have V' := V.below B1
  refine ⟨?_, ?_, ?_, heap_alloc_new w4 _, hR, ?_, hm.1, ?_, V'.e, V'.u, V'.s, ⟨by omega, by omega, by omega⟩, ⟨by omega, by omega, by omega, by omega, by omega, by omega, by omega, by omega, by omega, by omega⟩⟩
  · rw [cell_of_row _ _ _ _ _ _ hBd]; rfl
  · rw [cell_of_row _ _ _ _ _ _ hBd]; rfl
  · rw [cell_of_row _ _ _ _ _ _ hBd]; rfl
  · rcases own.2 with ⟨h', _⟩ | ⟨g', cap', cur, h', _, hg, _, _, hs, _⟩
    · cases h'
    · simp only [Value.slice.injEq, Option.some.injEq, Addr.mk.injEq, and_true, true_and] at h'
      obtain ⟨rfl, rfl⟩ := h'
      exact ⟨cur.toList, by simpa using hs, by rw [Below.heap_alloc _ _ _ lG, hg]⟩
  · intro h0
    obtain ⟨D, d1, d2, d3, d4⟩ := hm.2 h0
    exact ⟨D, d1, d2, by omega, by omega, by omega, fun j b hj => (B1.cell (p := ⟨D, 0 + j, none⟩) d3).trans (d4 j b hj)⟩

/-- Behind bytes: of what was there before the law's own blocks nothing has turned. -/
theorem out_below {R G0 Bf off N bc G gc B : Nat} {dv : Value} {l : List UInt8} {w W W' : World} (hb : Below B w W) (h : Out R G0 Bf dv off N bc l G gc W W') (h1 : B ≤ R) (h2 : B ≤ G0) (h3 : B ≤ Bf) (hB : B ≤ W.heap.size) : Below B w W' :=
  ⟨h.os.trans hb.os, h.tape.trans hb.tape, h.output.trans hb.output, Nat.le_trans hb.size h.size, fun k hk => (h.block k (by omega) (by omega) (by omega) (by omega)).trans (hb.block k hk)⟩

theorem bytes4_full (Bd Bf R G0 A N hl hc o dn dc bc : Nat) (hp dp : Option Addr) (l : List UInt8) (aE aU : Addr) (sU : ByteArray) (w : World) (hA : A ≤ 255) (hN : N ≤ 255) (ho : o ≤ dn) (hdn : dn ≤ 1024) (hno : hl < A + N) (hl2 : hl ≤ 1024) (hbc : bc ≤ 255)
    (hfull : N = 0 ∨ o + A + N ≤ dn) (S : Start Bd Bf R G0 hl hc o dn dc bc hp dp l aE aU sU w) :
    Calls Ybaf.prog 4 #[.pointer (some ⟨Bd, 0, none⟩), .int .i64 A, .int .i64 N, .pointer (some ⟨Bf, 0, none⟩)] w fun e w' => Out' R G0 Bf (.slice dp dn dc) (o + A) N bc ((l.drop (o + A)).take N) w w' (fun G gc => Whole N G gc e) := by
  by_cases h : N ≤ bc
  · exact bytes4_same_full Bd Bf R G0 A N hl hc o dn dc bc hp dp l aE aU sU w hA hN ho hdn hno hl2 hbc h hfull S
  · exact bytes4_made_full Bd Bf R G0 A N hl hc o dn dc bc hp dp l aE aU sU w hA hN ho hdn hno hl2 hbc (by omega) hfull S

theorem bytes4_err (F : Interp) (Bd Bf R G0 A N hl hc o dn dc bc : Nat) (hp dp : Option Addr) (l : List UInt8) (aE aU : Addr) (sU : ByteArray) (w : World) (hA : A ≤ 255) (hN : N ≤ 255) (ho : o ≤ dn) (hdn : dn ≤ 1024) (hno : hl < A + N) (hl2 : hl ≤ 1024) (hbc : bc ≤ 255)
    (hN0 : 0 < N) (herr : dn < o + A + N) (hF : F.answers w.tape) (S : Start Bd Bf R G0 hl hc o dn dc bc hp dp l aE aU sU w) :
    Calls Ybaf.prog 4 #[.pointer (some ⟨Bd, 0, none⟩), .int .i64 A, .int .i64 N, .pointer (some ⟨Bf, 0, none⟩)] w fun e w' => Out' R G0 Bf (.slice dp dn dc) (o + A) N bc ((l.drop (o + A)).take N) w w' (fun _ _ => Fell e) := by
  by_cases h : N ≤ bc
  · exact bytes4_same_err F Bd Bf R G0 A N hl hc o dn dc bc hp dp l aE aU sU w hA hN ho hdn hno hl2 hbc h hN0 herr hF S
  · exact bytes4_made_err F Bd Bf R G0 A N hl hc o dn dc bc hp dp l aE aU sU w hA hN ho hdn hno hl2 hbc (by omega) hN0 herr hF S

end Go.Proofs.YbulksgiFmt
