import Derived.Test.YbulksgiFmtBytes
/-! (*blteData).bytes where it must read. -/
namespace Go.Proofs.YbulksgiFmt
open Go.RowKit Go.Stop

/-- What comes back. -/
def Whole (N G gc : Nat) (e : Ending) : Prop := e = .returned (.tuple #[.slice (some ⟨G, 0, none⟩) N gc, .nilIface])
def Fell (e : Ending) : Prop := ∃ b, e = .returned (.tuple #[.slice none 0 0, .iface 46 (.pointer (some b))])
def Out' (R G0 Bf : Nat) (dv : Value) (off N bc : Nat) (l : List UInt8) (w w' : World) (p : Nat → Nat → Prop) : Prop := ∃ G gc, p G gc ∧ Out R G0 Bf dv off N bc l G gc w w'

theorem wrap_small (x : Int) (h0 : 0 ≤ x) (h1 : x ≤ 1000000) : IntKind.i64.wrap x = x := by
  simp [IntKind.wrap, IntKind.bits, IntKind.signed]
  omega

theorem set_twice (w : World) (K : Nat) (v : Value) : (w.setCell ⟨K, 0, none⟩ v).setCell ⟨K, 0, none⟩ v = w.setCell ⟨K, 0, none⟩ v := by
  simp only [World.setCell]
  congr 1
  apply Array.ext_getElem?
  intro i
  simp only [Array.getElem?_modify]
  by_cases h : K = i
  · simp only [if_pos h, Option.map_map]
    cases hh : w.heap[i]? with
    | none => rfl
    | some o => cases o <;> simp
  · simp only [if_neg h]

theorem Did.of_drew {R G : Nat} {dv : Value} {off n : Nat} {l : List UInt8} {W W' : World} (h : Did R G dv off n l W.drew W') : Did R G dv off n l W W' := ⟨⟨h.but.os, h.but.tape, h.but.output, h.but.size, h.but.block⟩, h.rd, h.row, h.bytes⟩

set_option maxHeartbeats 2000000 in
set_option maxRecDepth 100000 in
theorem bytes4_same_full (Bd Bf R G0 A N hl hc o dn dc bc : Nat) (hp dp : Option Addr) (l : List UInt8) (aE aU : Addr) (sU : ByteArray) (w : World) (hA : A ≤ 255) (hN : N ≤ 255) (ho : o ≤ dn) (hdn : dn ≤ 1024) (hno : hl < A + N) (_hl2 : hl ≤ 1024) (_hbc : bc ≤ 255)
    (hroom : N ≤ bc) (hfull : N = 0 ∨ o + A + N ≤ dn) (S : Start Bd Bf R G0 hl hc o dn dc bc hp dp l aE aU sU w) :
    Calls Ybaf.prog 4 #[.pointer (some ⟨Bd, 0, none⟩), .int .i64 A, .int .i64 N, .pointer (some ⟨Bf, 0, none⟩)] w fun e w' => Out' R G0 Bf (.slice dp dn dc) (o + A) N bc ((l.drop (o + A)).take N) w w' (fun G gc => Whole N G gc e) := by
  have hs : ¬ (A : Int) + (N : Int) ≤ (hl : Int) := by omega
  have hwr : IntKind.i64.wrap ((o : Int) + (A : Int)) = (o : Int) + (A : Int) := wrap_small _ (by omega) (by omega)
  have M := mid_same S hroom
  have b3 := S.b3
  have m0 : w.cell? ⟨Bf, 0, none⟩ = some (.slice (some ⟨G0, 0, none⟩) 0 bc) := by rw [cell_of_row w Bf _ _ _ _ S.bf]; rfl
  have f0 : w.frozen? ⟨Bf, 0, none⟩ = false := by simp [World.frozen?, S.bf]
  clear S
  have M' : Hid (Mid Bd Bf R G0 o dn dc bc dp l aE aU sU N G0 bc w (w.setCell ⟨Bf, 0, none⟩ (.slice (some ⟨G0, 0, none⟩) N bc))) := M
  clear M
  go_enter Ybaf.func4, Ybaf.ntmps4
  go_wp2
  generalize w.setCell ⟨Bf, 0, none⟩ (.slice (some ⟨G0, 0, none⟩) N bc) = W at *
  have c0 := M'.out.b0
  have c1 := M'.out.b1
  have c2 := M'.out.bf
  obtain ⟨cur, l1, l2⟩ := M'.out.row
  have l2' : Hid (W.heap[G0]? = some (.cells cur.toArray 5 (0, 0))) := l2
  have l1' : Hid (cur.length = bc) := l1
  clear l1 l2 m0 f0 b3
  have C := full6 R G0 dp dn dc (o + A) N bc bc l cur _ W.drew (by omega) (by omega) (by omega) M'.out.apart.1 hroom hN M'.out.rd l1'.out l2'.out (by have := M'.out.apart; omega) (by have := M'.out.apart; omega) M'.out.e M'.out.data
  rw [show ((o + A : Nat) : Int) = (o : Int) + (A : Int) from by omega] at C
  go_region_held3 (fun w' => w'.cell? ⟨Bd, 0, none⟩ = some (.iface 23 (.pointer (some ⟨R, 0, none⟩))) ∧ w'.cell? ⟨Bd, 1, none⟩ = some (.int .i64 o) ∧ w'.cell? ⟨Bf, 0, none⟩ = some (.slice (some ⟨G0, 0, none⟩) N bc))
    (first | (refine ⟨?_, ?_, ?_⟩ <;> first | exact c0 | exact c1 | exact c2) | (obtain ⟨a1, a2, a3, a4, a5, a6, a7⟩ := M'.out.apart; exact ⟨D.but.cell c0 a4 a5, D.but.cell c1 a4 a5, D.but.cell c2 (Ne.symm a2) (Ne.symm a3)⟩))
    (first | (go_at_call 6; refine C.mono ?_; rintro e w' ⟨rfl, D⟩))
  have OUT : Hid (Out R G0 Bf (.slice dp dn dc) (o + A) N bc ((l.drop (o + A)).take N) G0 bc w w') := M'.out.out D.of_drew
  have k2 := OUT.out.buf
  clear C D M' c0 c1 c2
  go_wp2
  go_ret2
  exact ⟨G0, bc, rfl, OUT.out⟩

set_option maxHeartbeats 2000000 in
set_option maxRecDepth 100000 in
theorem bytes4_same_err (F : Interp) (Bd Bf R G0 A N hl hc o dn dc bc : Nat) (hp dp : Option Addr) (l : List UInt8) (aE aU : Addr) (sU : ByteArray) (w : World) (hA : A ≤ 255) (hN : N ≤ 255) (ho : o ≤ dn) (hdn : dn ≤ 1024) (hno : hl < A + N) (_hl2 : hl ≤ 1024) (_hbc : bc ≤ 255)
    (hroom : N ≤ bc) (hN0 : 0 < N) (herr : dn < o + A + N) (hF : F.answers w.tape) (S : Start Bd Bf R G0 hl hc o dn dc bc hp dp l aE aU sU w) :
    Calls Ybaf.prog 4 #[.pointer (some ⟨Bd, 0, none⟩), .int .i64 A, .int .i64 N, .pointer (some ⟨Bf, 0, none⟩)] w fun e w' => Out' R G0 Bf (.slice dp dn dc) (o + A) N bc ((l.drop (o + A)).take N) w w' (fun _ _ => Fell e) := by
  have hs : ¬ (A : Int) + (N : Int) ≤ (hl : Int) := by omega
  have hwr : IntKind.i64.wrap ((o : Int) + (A : Int)) = (o : Int) + (A : Int) := wrap_small _ (by omega) (by omega)
  have M := mid_same S hroom
  have b3 := S.b3
  have m0 : w.cell? ⟨Bf, 0, none⟩ = some (.slice (some ⟨G0, 0, none⟩) 0 bc) := by rw [cell_of_row w Bf _ _ _ _ S.bf]; rfl
  have f0 : w.frozen? ⟨Bf, 0, none⟩ = false := by simp [World.frozen?, S.bf]
  clear S
  have M' : Hid (Mid Bd Bf R G0 o dn dc bc dp l aE aU sU N G0 bc w (w.setCell ⟨Bf, 0, none⟩ (.slice (some ⟨G0, 0, none⟩) N bc))) := M
  clear M
  go_enter Ybaf.func4, Ybaf.ntmps4
  go_wp2
  generalize w.setCell ⟨Bf, 0, none⟩ (.slice (some ⟨G0, 0, none⟩) N bc) = W at *
  have c0 := M'.out.b0
  have c1 := M'.out.b1
  have c2 := M'.out.bf
  obtain ⟨cur, l1, l2⟩ := M'.out.row
  have l2' : Hid (W.heap[G0]? = some (.cells cur.toArray 5 (0, 0))) := l2
  have l1' : Hid (cur.length = bc) := l1
  clear l1 l2 m0 f0 b3
  have C := full6_err F R G0 dp dn dc (o + A) N bc bc l cur aE aU sU W.drew (by omega) (by omega) hN0 (by omega) M'.out.apart.1 hroom hN M'.out.rd l1'.out l2'.out (by have := M'.out.apart; omega) (by have := M'.out.apart; omega) M'.out.data (show F.answers W.tape by rw [M'.out.tape]; exact hF) M'.out.e M'.out.u (fun X hX => M'.out.hs X ⟨hX.os, hX.tape, hX.output, hX.size, hX.block⟩)
  rw [show ((o + A : Nat) : Int) = (o : Int) + (A : Int) from by omega] at C
  go_region_held3 (fun w' => w'.cell? ⟨Bd, 0, none⟩ = some (.iface 23 (.pointer (some ⟨R, 0, none⟩))) ∧ w'.cell? ⟨Bd, 1, none⟩ = some (.int .i64 o) ∧ w'.cell? ⟨Bf, 0, none⟩ = some (.slice (some ⟨G0, 0, none⟩) N bc))
    (first | (refine ⟨?_, ?_, ?_⟩ <;> first | exact c0 | exact c1 | exact c2) | (obtain ⟨a1, a2, a3, a4, a5, a6, a7⟩ := M'.out.apart; exact ⟨D.but.cell c0 a4 a5, D.but.cell c1 a4 a5, D.but.cell c2 (Ne.symm a2) (Ne.symm a3)⟩))
    (first | (go_at_call 6; refine C.mono ?_; rintro e w' ⟨b, rfl, D⟩))
  have OUT : Hid (Out R G0 Bf (.slice dp dn dc) (o + A) N bc ((l.drop (o + A)).take N) G0 bc w w') := M'.out.out D.of_drew
  have k2 := OUT.out.buf
  clear C D M' c0 c1 c2
  go_wp2
  go_ret2
  exact ⟨G0, bc, ⟨b, rfl⟩, OUT.out⟩

set_option maxHeartbeats 2000000 in
set_option maxRecDepth 100000 in
theorem bytes4_made_full (Bd Bf R G0 A N hl hc o dn dc bc : Nat) (hp dp : Option Addr) (l : List UInt8) (aE aU : Addr) (sU : ByteArray) (w : World) (hA : A ≤ 255) (hN : N ≤ 255) (ho : o ≤ dn) (hdn : dn ≤ 1024) (hno : hl < A + N) (_hl2 : hl ≤ 1024) (_hbc : bc ≤ 255)
    (hroom : bc < N) (hfull : N = 0 ∨ o + A + N ≤ dn) (S : Start Bd Bf R G0 hl hc o dn dc bc hp dp l aE aU sU w) :
    Calls Ybaf.prog 4 #[.pointer (some ⟨Bd, 0, none⟩), .int .i64 A, .int .i64 N, .pointer (some ⟨Bf, 0, none⟩)] w fun e w' => Out' R G0 Bf (.slice dp dn dc) (o + A) N bc ((l.drop (o + A)).take N) w w' (fun G gc => Whole N G gc e) := by
  have hs : ¬ (A : Int) + (N : Int) ≤ (hl : Int) := by omega
  have hwr : IntKind.i64.wrap ((o : Int) + (A : Int)) = (o : Int) + (A : Int) := wrap_small _ (by omega) (by omega)
  obtain ⟨i0, hi, hz0, hz1, hz2⟩ := info_parts info5
  have b3 := S.b3
  have m0 : w.cell? ⟨Bf, 0, none⟩ = some (.slice (some ⟨G0, 0, none⟩) 0 bc) := by rw [cell_of_row w Bf _ _ _ _ S.bf]; rfl
  have S' : Hid (Start Bd Bf R G0 hl hc o dn dc bc hp dp l aE aU sU w) := S
  clear S
  go_enter Ybaf.func4, Ybaf.ntmps4
  go_wp2_with (at_make; refine wpList_make_full _ rfl _ _ 22 rfl w.heap.size 5 i0 (.int .u8 0) 1 Ybaf.underlying22 hi hz0 hz1 _ _ _ _ N rfl rfl rfl rfl (by rw [hz2]; omega) (by unfold maxLen; omega) (Nat.le_refl _) ?_)
  intro w1 own1 gr1
  have M' : Hid (Mid Bd Bf R G0 o dn dc bc dp l aE aU sU N w.heap.size N w (w1.setCell ⟨Bf, 0, none⟩ (.slice (some ⟨w.heap.size, 0, none⟩) N N))) := mid_made S'.out hroom gr1 own1
  have m1 : w1.cell? ⟨Bf, 0, none⟩ = some (.slice (some ⟨G0, 0, none⟩) 0 bc) := gr1.cell m0 (by simp)
  have f1 : w1.frozen? ⟨Bf, 0, none⟩ = false := by
    have h1 : w1.heap[Bf]? = _ := (gr1.block Bf (heap_lt S'.out.bf) (by simp)).trans S'.out.bf
    simp [World.frozen?, h1]
  have hGB : Hid (w.heap.size ≠ Bf) := show _ ≠ _ by have := heap_lt S'.out.bf; omega
  clear own1 gr1 S' m0
  go_wp2
  rw [set_twice]
  generalize w1.setCell ⟨Bf, 0, none⟩ (.slice (some ⟨w.heap.size, 0, none⟩) N N) = W at *
  have c0 := M'.out.b0
  have c1 := M'.out.b1
  have c2 := M'.out.bf
  obtain ⟨cur, l1, l2⟩ := M'.out.row
  have l2' : Hid (W.heap[w.heap.size]? = some (.cells cur.toArray 5 (0, 0))) := l2
  have l1' : Hid (cur.length = N) := l1
  clear l1 l2 m1 f1 b3
  have C := full6 R w.heap.size dp dn dc (o + A) N N N l cur _ W.drew (by omega) (by omega) (by omega) M'.out.apart.1 (Nat.le_refl _) hN M'.out.rd l1'.out l2'.out (by have := M'.out.apart; omega) (by have := M'.out.apart; omega) M'.out.e M'.out.data
  rw [show ((o + A : Nat) : Int) = (o : Int) + (A : Int) from by omega] at C
  go_region_held3 (fun w' => w'.cell? ⟨Bd, 0, none⟩ = some (.iface 23 (.pointer (some ⟨R, 0, none⟩))) ∧ w'.cell? ⟨Bd, 1, none⟩ = some (.int .i64 o) ∧ w'.cell? ⟨Bf, 0, none⟩ = some (.slice (some ⟨w.heap.size, 0, none⟩) N N))
    (first | (refine ⟨?_, ?_, ?_⟩ <;> first | exact c0 | exact c1 | exact c2) | (obtain ⟨a1, a2, a3, a4, a5, a6, a7⟩ := M'.out.apart; exact ⟨D.but.cell c0 a4 a5, D.but.cell c1 a4 a5, D.but.cell c2 (Ne.symm a2) (Ne.symm a3)⟩))
    (first | (go_at_call 6; refine C.mono ?_; rintro e w' ⟨rfl, D⟩))
  have OUT : Hid (Out R G0 Bf (.slice dp dn dc) (o + A) N bc ((l.drop (o + A)).take N) w.heap.size N w w') := M'.out.out D.of_drew
  have k2 := OUT.out.buf
  clear C D M' c0 c1 c2
  go_wp2
  go_ret2
  exact ⟨w.heap.size, N, rfl, OUT.out⟩

set_option maxHeartbeats 2000000 in
set_option maxRecDepth 100000 in
theorem bytes4_made_err (F : Interp) (Bd Bf R G0 A N hl hc o dn dc bc : Nat) (hp dp : Option Addr) (l : List UInt8) (aE aU : Addr) (sU : ByteArray) (w : World) (hA : A ≤ 255) (hN : N ≤ 255) (ho : o ≤ dn) (hdn : dn ≤ 1024) (hno : hl < A + N) (_hl2 : hl ≤ 1024) (_hbc : bc ≤ 255)
    (hroom : bc < N) (hN0 : 0 < N) (herr : dn < o + A + N) (hF : F.answers w.tape) (S : Start Bd Bf R G0 hl hc o dn dc bc hp dp l aE aU sU w) :
    Calls Ybaf.prog 4 #[.pointer (some ⟨Bd, 0, none⟩), .int .i64 A, .int .i64 N, .pointer (some ⟨Bf, 0, none⟩)] w fun e w' => Out' R G0 Bf (.slice dp dn dc) (o + A) N bc ((l.drop (o + A)).take N) w w' (fun _ _ => Fell e) := by
  have hs : ¬ (A : Int) + (N : Int) ≤ (hl : Int) := by omega
  have hwr : IntKind.i64.wrap ((o : Int) + (A : Int)) = (o : Int) + (A : Int) := wrap_small _ (by omega) (by omega)
  obtain ⟨i0, hi, hz0, hz1, hz2⟩ := info_parts info5
  have b3 := S.b3
  have m0 : w.cell? ⟨Bf, 0, none⟩ = some (.slice (some ⟨G0, 0, none⟩) 0 bc) := by rw [cell_of_row w Bf _ _ _ _ S.bf]; rfl
  have S' : Hid (Start Bd Bf R G0 hl hc o dn dc bc hp dp l aE aU sU w) := S
  clear S
  go_enter Ybaf.func4, Ybaf.ntmps4
  go_wp2_with (at_make; refine wpList_make_full _ rfl _ _ 22 rfl w.heap.size 5 i0 (.int .u8 0) 1 Ybaf.underlying22 hi hz0 hz1 _ _ _ _ N rfl rfl rfl rfl (by rw [hz2]; omega) (by unfold maxLen; omega) (Nat.le_refl _) ?_)
  intro w1 own1 gr1
  have M' : Hid (Mid Bd Bf R G0 o dn dc bc dp l aE aU sU N w.heap.size N w (w1.setCell ⟨Bf, 0, none⟩ (.slice (some ⟨w.heap.size, 0, none⟩) N N))) := mid_made S'.out hroom gr1 own1
  have m1 : w1.cell? ⟨Bf, 0, none⟩ = some (.slice (some ⟨G0, 0, none⟩) 0 bc) := gr1.cell m0 (by simp)
  have f1 : w1.frozen? ⟨Bf, 0, none⟩ = false := by
    have h1 : w1.heap[Bf]? = _ := (gr1.block Bf (heap_lt S'.out.bf) (by simp)).trans S'.out.bf
    simp [World.frozen?, h1]
  have hGB : Hid (w.heap.size ≠ Bf) := show _ ≠ _ by have := heap_lt S'.out.bf; omega
  clear own1 gr1 S' m0
  go_wp2
  rw [set_twice]
  generalize w1.setCell ⟨Bf, 0, none⟩ (.slice (some ⟨w.heap.size, 0, none⟩) N N) = W at *
  have c0 := M'.out.b0
  have c1 := M'.out.b1
  have c2 := M'.out.bf
  obtain ⟨cur, l1, l2⟩ := M'.out.row
  have l2' : Hid (W.heap[w.heap.size]? = some (.cells cur.toArray 5 (0, 0))) := l2
  have l1' : Hid (cur.length = N) := l1
  clear l1 l2 m1 f1 b3
  have C := full6_err F R w.heap.size dp dn dc (o + A) N N N l cur aE aU sU W.drew (by omega) (by omega) hN0 (by omega) M'.out.apart.1 (Nat.le_refl _) hN M'.out.rd l1'.out l2'.out (by have := M'.out.apart; omega) (by have := M'.out.apart; omega) M'.out.data (show F.answers W.tape by rw [M'.out.tape]; exact hF) M'.out.e M'.out.u (fun X hX => M'.out.hs X ⟨hX.os, hX.tape, hX.output, hX.size, hX.block⟩)
  rw [show ((o + A : Nat) : Int) = (o : Int) + (A : Int) from by omega] at C
  go_region_held3 (fun w' => w'.cell? ⟨Bd, 0, none⟩ = some (.iface 23 (.pointer (some ⟨R, 0, none⟩))) ∧ w'.cell? ⟨Bd, 1, none⟩ = some (.int .i64 o) ∧ w'.cell? ⟨Bf, 0, none⟩ = some (.slice (some ⟨w.heap.size, 0, none⟩) N N))
    (first | (refine ⟨?_, ?_, ?_⟩ <;> first | exact c0 | exact c1 | exact c2) | (obtain ⟨a1, a2, a3, a4, a5, a6, a7⟩ := M'.out.apart; exact ⟨D.but.cell c0 a4 a5, D.but.cell c1 a4 a5, D.but.cell c2 (Ne.symm a2) (Ne.symm a3)⟩))
    (first | (go_at_call 6; refine C.mono ?_; rintro e w' ⟨b, rfl, D⟩))
  have OUT : Hid (Out R G0 Bf (.slice dp dn dc) (o + A) N bc ((l.drop (o + A)).take N) w.heap.size N w w') := M'.out.out D.of_drew
  have k2 := OUT.out.buf
  clear C D M' c0 c1 c2
  go_wp2
  go_ret2
  exact ⟨w.heap.size, N, ⟨b, rfl⟩, OUT.out⟩

end Go.Proofs.YbulksgiFmt
