import Derived.Test.YbulksgiFmtErr
import Derived.Test.YbulksgiFmtParts
import Derived.Laws.CopyOwn
import Derived.Deep.QuietTactic
import Derived.BigQuiet
import Derived.RegionTactic
import Derived.ChangeAlike
import Derived.WalkSmall
/-! The reader's ReadAt. -/
namespace Go.Proofs.YbulksgiFmt
open Go.RowKit

theorem info5 : (Ybaf.prog.info? 5).map (fun i => (i.zero, i.size, i.bytes)) = some (some (.int .u8 0), 1, 1) := by kernel_rfl
theorem info5' : (Ybaf.prog.info? 5).map (·.size) = some 1 := by kernel_rfl
theorem info2 : (Ybaf.prog.info? 2).map (fun i => (i.zero, i.size, i.bytes)) = some (some (.int .i64 0), 1, 8) := by kernel_rfl
theorem addr_block (a : Addr) (j : Nat) : (a.add j).block = a.block := by unfold Addr.add; split <;> rfl

/-- The bytes l lie in block g from offset o on. -/
def At (w : World) (g o : Nat) (l : List UInt8) : Prop := ∀ j b, l[j]? = some b → w.cell? ⟨g, o + j, none⟩ = some (.int .u8 b.toNat)

/-- What a step has left of the world: but for the blocks R and G nothing that was there has turned. -/
structure But (R G : Nat) (w w' : World) : Prop where
  os : w'.os = w.os
  tape : w'.tape = w.tape
  output : w'.output = w.output
  size : w.heap.size ≤ w'.heap.size
  block : ∀ k, k < w.heap.size → k ≠ R → k ≠ G → w'.heap[k]? = w.heap[k]?

theorem But.refl (R G : Nat) (w : World) : But R G w w := ⟨rfl, rfl, rfl, Nat.le_refl _, fun _ _ _ _ => rfl⟩
theorem But.trans {R G : Nat} {a b c : World} (h : But R G a b) (k : But R G b c) : But R G a c :=
  ⟨k.os.trans h.os, k.tape.trans h.tape, k.output.trans h.output, Nat.le_trans h.size k.size, fun i hi h1 h2 => (k.block i (Nat.lt_of_lt_of_le hi h.size) h1 h2).trans (h.block i hi h1 h2)⟩
theorem But.of_below {R G : Nat} {a b : World} (h : Below a.heap.size a b) : But R G a b := ⟨h.os, h.tape, h.output, h.size, fun i hi _ _ => h.block i hi⟩
theorem But.setR {R G : Nat} (w : World) (j : Nat) (v : Value) : But R G w (w.setCell ⟨R, j, none⟩ v) := ⟨rfl, rfl, rfl, by simp [World.setCell], fun i _ h1 _ => Below.heap_setCell _ _ _ _ h1⟩
theorem But.setG {R G : Nat} (w : World) (j : Nat) (v : Value) : But R G w (w.setCell ⟨G, j, none⟩ v) := ⟨rfl, rfl, rfl, by simp [World.setCell], fun i _ _ h1 => Below.heap_setCell _ _ _ _ h1⟩
theorem But.grown {R G : Nat} {a b : World} {r : Option Nat} (h : a.grownBy b r) (hr : ∀ k, r = some k → k = R ∨ k = G) : But R G a b :=
  ⟨h.os, h.tape, h.output, h.size, fun i hi h1 h2 => h.block i hi (fun e => by rcases hr i e.symm with e' | e' <;> contradiction)⟩
theorem But.cell {R G : Nat} {w w' : World} (h : But R G w w') {b o : Nat} {v : Value} (hc : w.cell? ⟨b, o, none⟩ = some v) (h1 : b ≠ R) (h2 : b ≠ G) : w'.cell? ⟨b, o, none⟩ = some v :=
  (World.cell?_of_block (h.block b (World.block_lt_of_cell? _ _ hc) h1 h2)).trans hc
theorem heap_set {w1 : World} {K j : Nat} {t : TypeId} {cs : Array Value} (h : w1.heap[K]? = some (.cells cs t (0, 0))) (v : Value) : (w1.setCell ⟨K, j, none⟩ v).heap[K]? = some (.cells (cs.setIfInBounds j v) t (0, 0)) := by
  simp [World.setCell, Array.getElem?_modify, h]

/-- What ReadAt has done: it was called once, at 'off'; the bytes 'l' have been copied to G's head. -/
structure Did (R G : Nat) (dv : Value) (off : Nat) (n : Nat) (l : List UInt8) (w w' : World) : Prop where
  but : But R G w w'
  rd : ∃ h hc, w'.heap[R]? = some (.cells #[dv, .int .i64 1, .slice (some ⟨h, 0, none⟩) 1 hc] 26 (0, 0)) ∧ w'.cell? ⟨h, 0, none⟩ = some (.int .i64 off) ∧ 1 ≤ hc ∧ w.heap.size ≤ h
  row : ∃ cur : List Value, cur.length = n ∧ w'.heap[G]? = some (.cells cur.toArray 5 (0, 0))
  bytes : At w' G 0 l

theorem Did.later {R G : Nat} {dv : Value} {off n : Nat} {l : List UInt8} {w w1 w2 : World} (h : Did R G dv off n l w w1) (hb : Below w1.heap.size w1 w2) : Did R G dv off n l w w2 := by
  obtain ⟨hh, hc, r1, r2, r3, r4⟩ := h.rd
  obtain ⟨cur, c1, c2⟩ := h.row
  have lt {k : Nat} {o : Obj} (h : w1.heap[k]? = some o) : k < w1.heap.size := by
    rcases Nat.lt_or_ge k w1.heap.size with h' | h'
    · exact h'
    · rw [Array.getElem?_eq_none h'] at h; cases h
  refine ⟨h.but.trans (But.of_below hb), ⟨hh, hc, (hb.block R (lt r1)).trans r1, (hb.cell (World.block_lt_of_cell? _ _ r2)).trans r2, r3, r4⟩, ⟨cur, c1, (hb.block G (lt c2)).trans c2⟩, ?_⟩
  intro j b hj
  exact (hb.cell (p := ⟨G, 0 + j, none⟩) (lt c2)).trans (h.bytes j b hj)

theorem heap_lt {w : World} {k : Nat} {o : Obj} (h : w.heap[k]? = some o) : k < w.heap.size := by
  rcases Nat.lt_or_ge k w.heap.size with h' | h'
  · exact h'
  · rw [Array.getElem?_eq_none h'] at h; cases h

/-- The count raised, the offset noted. -/
theorem did_mid {R G h hc off n : Nat} {dv : Value} {cur : List Value} {w w1 : World} (hR : w.heap[R]? = some (.cells #[dv, .int .i64 0, .slice none 0 0] 26 (0, 0))) (hn : cur.length = n) (hG : w.heap[G]? = some (.cells cur.toArray 5 (0, 0))) (hRG : R ≠ G)
    (own1 : w1.ownsRow (w.heap.size + 1) 2 1 (.slice (some ⟨h, 0, none⟩) 1 hc) 1 [.int .i64 off]) (gr1 : ((w.setCell ⟨R, 1, none⟩ (.int .i64 1)).alloc (.cells #[.int .i64 off] 2)).grownBy w1 none) :
    w1.heap[R]? = some (.cells #[dv, .int .i64 1, .slice none 0 0] 26 (0, 0)) ∧ w1.heap[G]? = some (.cells cur.toArray 5 (0, 0)) ∧ But R G w w1 ∧ Did R G dv off n [] w (w1.setCell ⟨R, 2, none⟩ (.slice (some ⟨h, 0, none⟩) 1 hc)) := by
  have e1 : (w.setCell ⟨R, 1, none⟩ (.int .i64 1)).heap[R]? = some (.cells #[dv, .int .i64 1, .slice none 0 0] 26 (0, 0)) := heap_set hR _
  have hlt := heap_lt hR
  have hgt := heap_lt hG
  have hb : But R G w w1 := (But.setR w 1 _).trans ((But.of_below ((Below.refl _ _).alloc (Nat.le_refl _) _)).trans (But.grown gr1 (fun k hk => by cases hk)))
  have r1 : w1.heap[R]? = some (.cells #[dv, .int .i64 1, .slice none 0 0] 26 (0, 0)) := (gr1.block R (by simp; omega) (by simp)).trans ((Below.heap_alloc _ _ _ (by simpa using hlt)).trans e1)
  have g1 : w1.heap[G]? = some (.cells cur.toArray 5 (0, 0)) := (gr1.block G (by simp; omega) (by simp)).trans ((Below.heap_alloc _ _ _ (by simpa using hgt)).trans ((Below.heap_setCell _ _ _ _ (Ne.symm hRG)).trans hG))
  have hh : w.heap.size + 1 ≤ h := (own1.lt h rfl).1
  have c0 := own1.cellAt 0 (by omega)
  have hcap : 1 ≤ hc := by
    rcases own1.2 with ⟨h', _⟩ | ⟨g', cap', cur', h', _, _, hle, _⟩
    · cases h'
    · simp only [Value.slice.injEq] at h'; omega
  refine ⟨r1, g1, hb, hb.trans (But.setR w1 2 _), ⟨h, hc, heap_set r1 _, ?_, hcap, by omega⟩, ⟨cur, hn, (Below.heap_setCell _ _ _ _ (Ne.symm hRG)).trans g1⟩, fun j b hj => by simp at hj⟩
  rw [World.cell?_of_block (w := w1) (Below.heap_setCell _ _ _ _ (show h ≠ R by omega))]
  exact c0

set_option maxHeartbeats 2000000 in
set_option maxRecDepth 100000 in
/-- Behind the data's end: nothing is copied; io.EOF. -/
theorem read25_out (R G : Nat) (dp : Option Addr) (dn dc off N pc n : Nat) (cur : List Value) (E : Value) (w : World) (_hoff : off ≤ 2000) (_hdn : dn ≤ 1024) (hout : dn ≤ off) (hRG : R ≠ G)
    (hR : w.heap[R]? = some (.cells #[.slice dp dn dc, .int .i64 0, .slice none 0 0] 26 (0, 0))) (hn : cur.length = n) (hG : w.heap[G]? = some (.cells cur.toArray 5 (0, 0))) (hR0 : 0 < R) (hG0 : 0 < G) (hE : w.cell? ⟨0, 0, none⟩ = some E) :
    Calls Ybaf.prog 25 #[.pointer (some ⟨R, 0, none⟩), .slice (some ⟨G, 0, none⟩) N pc, .int .i64 off] w fun e w' => e = .returned (.tuple #[.int .i64 0, E]) ∧ Did R G (.slice dp dn dc) off n [] w w' := by
  obtain ⟨i2, hi, hz0, hz1, hz2⟩ := info_parts info2
  have hRlt : R < w.heap.size := heap_lt hR
  have k1 : w.cell? ⟨R, 1, none⟩ = some (.int .i64 0) := by rw [cell_of_row w R _ _ _ _ hR]; rfl
  have k2 : w.cell? ⟨R, 2, none⟩ = some (.slice none 0 0) := by rw [cell_of_row w R _ _ _ _ hR]; rfl
  have f1 : w.frozen? ⟨R, 1, none⟩ = false := by simp [World.frozen?, hR]
  have hnew := cell_one_new (w.setCell ⟨R, 1, none⟩ (.int .i64 1)) (.int .i64 off) 2
  rw [World.size_setCell] at hnew
  have HN : Hid (∀ j u, [Value.int .i64 off][j]? = some u → ((w.setCell ⟨R, 1, none⟩ (.int .i64 1)).alloc (.cells #[.int .i64 off] 2)).cell? ((⟨w.heap.size, 0, none⟩ : Addr).add j) = some u) := hnew
  clear hnew
  have HR : Hid (w.heap[R]? = some (.cells #[.slice dp dn dc, .int .i64 0, .slice none 0 0] 26 (0, 0))) := hR
  have HG : Hid (w.heap[G]? = some (.cells cur.toArray 5 (0, 0))) := hG
  have HE : Hid (w.cell? ⟨0, 0, none⟩ = some E) := hE
  have HL : Hid (cur.length = n) := hn
  clear hR hG hE hn
  go_enter Ybaf.func25, Ybaf.ntmps25
  go_wp2_with (at_builtin; refine wpList_append_lies _ rfl _ _ 24 rfl (w.heap.size + 1) 2 i2 (.int .i64 0) 1 8 Ybaf.underlying24 hi hz0 hz1 hz2 rfl (by decide) _ _ _ rfl (World.ownsRow_nil _ _ _ _) _ 1 1 [.int .i64 off] rfl rfl HN.out (by intro u hu; simp at hu; subst hu; rfl) (by decide) (by unfold maxLen; omega) (by omega) (by simp) (w.heap.size + 1) (by simp) ?_)
  intro h hc w1 own1 gr1 at1 lt1
  obtain ⟨r1, g1, b1, D1⟩ := did_mid HR.out HL.out HG.out hRG own1 gr1
  have m0 : w1.cell? ⟨R, 0, none⟩ = some (.slice dp dn dc) := by rw [cell_of_row w1 R _ _ _ _ r1]; rfl
  have m2 : w1.cell? ⟨R, 2, none⟩ = some (.slice none 0 0) := by rw [cell_of_row w1 R _ _ _ _ r1]; rfl
  have n2 : w1.frozen? ⟨R, 2, none⟩ = false := by simp [World.frozen?, r1]
  have mE : w1.cell? ⟨0, 0, none⟩ = some E := b1.cell HE.out (by omega) (by omega)
  have D1' : Hid (Did R G (.slice dp dn dc) off n [] w (w1.setCell ⟨R, 2, none⟩ (.slice (some ⟨h, 0, none⟩) 1 hc))) := D1
  have hR1 : ¬ R = 0 := by omega
  clear own1 gr1 at1 r1 g1 b1 D1 k1 k2 f1 HN HR HG HE HL
  go_wp2
  go_quiet (fail)
  go_wp2
  go_ret2
  exact ⟨rfl, D1'.out.later (below_drewN (Below.refl _ _) _)⟩

/-- The bytes laid at the row's head. -/
theorem did_copied {R G off n M : Nat} {dv : Value} {cur C : List Value} {b : List UInt8} {w W2 : World} (D1 : Did R G dv off n [] w W2) (hRG : R ≠ G) (hG : W2.heap[G]? = some (.cells cur.toArray 5 (0, 0))) (hn : cur.length = n) (hC : C = Lib.byteCells b) (hCl : C.length = M) (hM : M ≤ cur.length) (hGw : G < w.heap.size) :
    Did R G dv off n b w (W2.setRow G (C ++ cur.drop M).toArray) := by
  obtain ⟨h, hc, r1, r2, r3, r4⟩ := D1.rd
  have hG' : (W2.setRow G (C ++ cur.drop M).toArray).heap[G]? = some (.cells (C ++ cur.drop M).toArray 5 (0, 0)) := setRow_heap W2 G _ _ 5 _ hG
  have ot : ∀ k, k ≠ G → (W2.setRow G (C ++ cur.drop M).toArray).heap[k]? = W2.heap[k]? := fun k hk => setRow_other W2 G k _ hk
  refine ⟨D1.but.trans ⟨rfl, rfl, rfl, by simp [World.setRow], fun k _ _ h2 => ot k h2⟩, ⟨h, hc, (ot R hRG).trans r1, (World.cell?_of_block (ot h (by omega))).trans r2, r3, r4⟩, ⟨_, by simp; omega, hG'⟩, ?_⟩
  intro j x hj
  rw [cell_of_row _ G _ _ _ _ hG']
  have hjl : j < C.length := by rw [hC]; simpa [Lib.byteCells] using (List.getElem?_eq_some_iff.1 hj).1
  simp only [Nat.zero_add, List.getElem?_toArray]
  rw [List.getElem?_append_left hjl, hC]
  simp [Lib.byteCells, hj]

theorem cells_take {w : World} {D : Nat} {l : List UInt8} (h : At w D 0 l) (off m : Nat) : ∀ j v, (Lib.byteCells ((l.drop off).take m))[j]? = some v → w.cell? ((⟨D, off, none⟩ : Addr).add j) = some v := by
  intro j v hv
  have hplain : (⟨D, off, none⟩ : Addr).add j = ⟨D, off + j, none⟩ := by unfold Addr.add; split <;> simp_all
  rw [hplain]
  simp only [Lib.byteCells, List.getElem?_map, Option.map_eq_some_iff] at hv
  obtain ⟨b, hb, rfl⟩ := hv
  have hj : j < m := by
    have := (List.getElem?_eq_some_iff.1 hb).1
    simp at this; omega
  rw [List.getElem?_take_of_lt hj, List.getElem?_drop] at hb
  have := h (off + j) b hb
  simpa using this

set_option maxHeartbeats 2000000 in
set_option maxRecDepth 100000 in
/-- Inside the data: the bytes are copied. -/
theorem read25_in (R G D : Nat) (dn dc off N pc n M : Nat) (l : List UInt8) (cur : List Value) (E : Value) (w : World) (hoff : off ≤ 2000) (_hdn : dn ≤ 1024) (hin : off < dn) (hM : M = min (dn - off) N) (hdc : dn ≤ dc) (hRG : R ≠ G) (hDR : D ≠ R) (hDG : D ≠ G) (hl : l.length = dn) (hN : N ≤ n) (_hN2 : N ≤ 255)
    (hR : w.heap[R]? = some (.cells #[.slice (some ⟨D, 0, none⟩) dn dc, .int .i64 0, .slice none 0 0] 26 (0, 0))) (hn : cur.length = n) (hG : w.heap[G]? = some (.cells cur.toArray 5 (0, 0))) (hR0 : 0 < R) (hG0 : 0 < G) (hE : w.cell? ⟨0, 0, none⟩ = some E) (hD : At w D 0 l) :
    Calls Ybaf.prog 25 #[.pointer (some ⟨R, 0, none⟩), .slice (some ⟨G, 0, none⟩) N pc, .int .i64 off] w fun e w' => e = .returned (.tuple #[.int .i64 M, if M < N then E else .nilIface]) ∧ Did R G (.slice (some ⟨D, 0, none⟩) dn dc) off n ((l.drop off).take N) w w' := by
  obtain ⟨i2, hi, hz0, hz1, hz2⟩ := info_parts info2
  have hRlt : R < w.heap.size := heap_lt hR
  have hGlt : G < w.heap.size := heap_lt hG
  have k1 : w.cell? ⟨R, 1, none⟩ = some (.int .i64 0) := by rw [cell_of_row w R _ _ _ _ hR]; rfl
  have k2 : w.cell? ⟨R, 2, none⟩ = some (.slice none 0 0) := by rw [cell_of_row w R _ _ _ _ hR]; rfl
  have f1 : w.frozen? ⟨R, 1, none⟩ = false := by simp [World.frozen?, hR]
  have hnew := cell_one_new (w.setCell ⟨R, 1, none⟩ (.int .i64 1)) (.int .i64 off) 2
  rw [World.size_setCell] at hnew
  have HN : Hid (∀ j u, [Value.int .i64 off][j]? = some u → ((w.setCell ⟨R, 1, none⟩ (.int .i64 1)).alloc (.cells #[.int .i64 off] 2)).cell? ((⟨w.heap.size, 0, none⟩ : Addr).add j) = some u) := hnew
  clear hnew
  have HR : Hid (w.heap[R]? = some (.cells #[.slice (some ⟨D, 0, none⟩) dn dc, .int .i64 0, .slice none 0 0] 26 (0, 0))) := hR
  have HG : Hid (w.heap[G]? = some (.cells cur.toArray 5 (0, 0))) := hG
  have HE : Hid (w.cell? ⟨0, 0, none⟩ = some E) := hE
  have HL : Hid (cur.length = n) := hn
  have HLL : Hid (l.length = dn) := hl
  have HD : Hid (At w D 0 l) := hD
  clear hR hG hE hn hl hD
  have HM : Hid (M = min (dn - off) N) := hM
  have hM' : M ≤ N := by omega
  clear hM
  have nc : ¬ dc = off := by omega
  go_enter Ybaf.func25, Ybaf.ntmps25
  go_wp2_with (at_builtin; refine wpList_append_lies _ rfl _ _ 24 rfl (w.heap.size + 1) 2 i2 (.int .i64 0) 1 8 Ybaf.underlying24 hi hz0 hz1 hz2 rfl (by decide) _ _ _ rfl (World.ownsRow_nil _ _ _ _) _ 1 1 [.int .i64 off] rfl rfl HN.out (by intro u hu; simp at hu; subst hu; rfl) (by decide) (by unfold maxLen; omega) (by omega) (by simp) (w.heap.size + 1) (by simp) ?_)
  intro h hc w1 own1 gr1 at1 lt1
  obtain ⟨r1, g1, b1, D1⟩ := did_mid HR.out HL.out HG.out hRG own1 gr1
  have m0 : w1.cell? ⟨R, 0, none⟩ = some (.slice (some ⟨D, 0, none⟩) dn dc) := by rw [cell_of_row w1 R _ _ _ _ r1]; rfl
  have m2 : w1.cell? ⟨R, 2, none⟩ = some (.slice none 0 0) := by rw [cell_of_row w1 R _ _ _ _ r1]; rfl
  have n2 : w1.frozen? ⟨R, 2, none⟩ = false := by simp [World.frozen?, r1]
  have mE : w1.cell? ⟨0, 0, none⟩ = some E := b1.cell HE.out (by omega) (by omega)
  have D1' : Hid (Did R G (.slice (some ⟨D, 0, none⟩) dn dc) off n [] w (w1.setCell ⟨R, 2, none⟩ (.slice (some ⟨h, 0, none⟩) 1 hc))) := D1
  have hR1 : ¬ R = 0 := by omega
  have A2 : Hid (At (w1.setCell ⟨R, 2, none⟩ (.slice (some ⟨h, 0, none⟩) 1 hc)) D 0 l) := fun j b hj => D1.but.cell (HD.out j b hj) hDR hDG
  have G2 : Hid ((w1.setCell ⟨R, 2, none⟩ (.slice (some ⟨h, 0, none⟩) 1 hc)).heap[G]? = some (.cells cur.toArray 5 (0, 0))) := (Below.heap_setCell _ _ _ _ (Ne.symm hRG)).trans g1
  clear own1 gr1 at1 r1 g1 b1 D1 k1 k2 f1 HN HR HG HD
  obtain ⟨C, hC⟩ : ∃ C, C = Lib.byteCells ((l.drop off).take N) := ⟨_, rfl⟩
  have HC : Hid (C = Lib.byteCells ((l.drop off).take N)) := hC
  have hCl : C.length = M := by rw [hC, HM.out]; simp [Lib.byteCells, HLL.out, Nat.min_comm]
  have HN0 : Hid (M ≤ cur.length) := show _ ≤ _ by rw [HL.out]; omega
  clear hC
  have DC := did_copied (b := (l.drop off).take N) D1'.out hRG G2.out HL.out HC.out hCl HN0.out hGlt
  have DC' : Hid (Did R G (.slice (some ⟨D, 0, none⟩) dn dc) off n ((l.drop off).take N) w ((w1.setCell ⟨R, 2, none⟩ (.slice (some ⟨h, 0, none⟩) 1 hc)).setRow G (C ++ cur.drop M).toArray)) := DC
  have mE3 : ((w1.setCell ⟨R, 2, none⟩ (.slice (some ⟨h, 0, none⟩) 1 hc)).setRow G (C ++ cur.drop M).toArray).cell? ⟨0, 0, none⟩ = some E := DC.but.cell HE.out (by omega) (by omega)
  clear DC
  go_wp2_with (refine wpList_copy_own rfl (.tmp 38) (.tmp 44) 22 22 rfl 5 Ybaf.underlying22 info5' G 0 N pc ⟨D, off, none⟩ (dn - off) (dc - off) rfl (by rfl) cur.toArray 5 G2.out C (hCl.trans HM.out) (by rw [HC.out]; exact cells_take A2.out off N) (by rw [hCl]; simpa using HN0.out) (by rw [HC.out]; intro u hu; obtain ⟨b, _, rfl⟩ := List.mem_map.1 hu; rfl) ?_)
  · go_quiet (fail)
    go_wp2
    go_ret2
    exact ⟨rfl, DC'.out.later (below_drewN (Below.refl _ _) _)⟩
  · go_ret2
    exact ⟨rfl, DC'.out⟩

end Go.Proofs.YbulksgiFmt
