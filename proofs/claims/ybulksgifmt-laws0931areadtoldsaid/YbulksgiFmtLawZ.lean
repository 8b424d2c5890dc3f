import Derived.Test.YbulksgiFmtNews
import Derived.LaidEqlPtr
import Derived.Lib.SliceRun
import Derived.WalkSmall
import Derived.Deep.QuietTactic
import Derived.BigQuiet
/-! LawS0931ARead. -/
namespace Go.Proofs.YbulksgiFmt
open Go.RowKit Go.Stop

set_option maxHeartbeats 2000000 in
set_option maxRecDepth 100000 in
theorem zero_nil_head (F : Interp) (cap off h A N bc : Nat) (aE aU : Addr) (sU : ByteArray) (w : World) (_hoff : off ≤ 255) (_hh : h ≤ 255) (hA : A ≤ 255) (hN : N ≤ 255) (hbc : bc ≤ 255) (hF : F.answers w.tape) (V : Vars aE aU sU w) (h0 : A + N = 0) :
    Calls Ybaf.prog 3 #[.slice none 0 cap, .int .u8 off, .int .u8 h, .int .u8 A, .int .u8 N, .int .u8 bc] w fun e w' => e = .returned (.bool true) ∧ Below w.heap.size w w' := by
  obtain ⟨i0, hi, hz0, hz1, hz2⟩ := info_parts info5
  have hnil := fun (W : World) => Lib.run_eql_slice_nil (P := Ybaf.prog) W 22 5 none 0 0 0 0 Ybaf.underlying22
  obtain ⟨rfl, rfl⟩ : A = 0 ∧ N = 0 := by omega
  go_enter Ybaf.func3, Ybaf.ntmps3
  go_wp2_with (at_make; refine wpList_make_own _ rfl _ _ 22 rfl (w.heap.size + 2) 5 i0 (.int .u8 0) 1 Ybaf.underlying22 hi hz0 hz1 _ _ _ bc rfl rfl rfl (by rw [hz2]; omega) (by unfold maxLen; omega) (by simp) ?_)
  intro w4 own4 gr4
  have S : Hid (Start (w.heap.size + 1) w4.heap.size w.heap.size (w.heap.size + 2) 0 0 0 0 0 bc none none [] aE aU sU (w4.alloc (.cells #[.slice (some ⟨w.heap.size + 2, 0, none⟩) 0 bc] 22))) := start_of (l := []) (hp := none) (hl := 0) (hc := 0) (o := 0) (sz := .int .i64 0) V ⟨rfl, fun h => absurd h (by omega)⟩ gr4 own4
  have z4 : w.heap.size + 2 < w4.heap.size := (own4.lt _ rfl).2
  have B4 : Below w.heap.size w (w4.alloc (.cells #[.slice (some ⟨w.heap.size + 2, 0, none⟩) 0 bc] 22)) := ((((Below.refl _ _).alloc (Nat.le_refl _) _).alloc (by simp) _).grown gr4 (by simp; omega) (fun k h => by cases h)).alloc (by omega) _
  have T4 : Hid (F.answers (w4.alloc (.cells #[.slice (some ⟨w.heap.size + 2, 0, none⟩) 0 bc] 22)).tape) := show F.answers _ by rw [B4.tape]; exact hF
  clear own4 gr4 V
  have c1 : (w4.alloc (.cells #[.slice (some ⟨w.heap.size + 2, 0, none⟩) 0 bc] 22)).cell? ⟨w.heap.size, 1, none⟩ = some (.int .i64 0) := by rw [cell_of_row _ _ _ _ _ _ S.out.rd]; rfl
  have b3 := S.out.b3
  have B4' : Hid _ := B4
  clear S T4 B4
  go_wp2_with fail
  refine (bytes4_head (w.heap.size + 1) w4.heap.size 0 0 0 0 none _ (by omega) (by omega) (by omega) (by omega) (by omega) b3).mono ?_
  rintro e w5 ⟨⟨gp, gc, rfl, -⟩, rfl⟩
  go_wp2_with (go_at_call 5; refine (eq5 _ _ 0 _ _ [] _ rfl (fun h => absurd h (by simp)) (fun h => absurd h (by simp))).mono ?_; rintro e w6 ⟨rfl, rfl⟩)
  go_ret
  exact ⟨rfl, B4'.out⟩

set_option maxHeartbeats 2000000 in
set_option maxRecDepth 100000 in
theorem zero_nil_full (F : Interp) (cap off h A N bc : Nat) (aE aU : Addr) (sU : ByteArray) (w : World) (_hoff : off ≤ 255) (_hh : h ≤ 255) (hA : A ≤ 255) (hN : N ≤ 255) (hbc : bc ≤ 255) (hF : F.answers w.tape) (V : Vars aE aU sU w) (hA0 : 0 < A) (hN0 : N = 0) :
    Calls Ybaf.prog 3 #[.slice none 0 cap, .int .u8 off, .int .u8 h, .int .u8 A, .int .u8 N, .int .u8 bc] w fun e w' => e = .returned (.bool true) ∧ Below w.heap.size w w' := by
  obtain ⟨i0, hi, hz0, hz1, hz2⟩ := info_parts info5
  have hnil := fun (W : World) => Lib.run_eql_slice_nil (P := Ybaf.prog) W 22 5 none 0 0 0 0 Ybaf.underlying22
  subst hN0
  go_enter Ybaf.func3, Ybaf.ntmps3
  go_wp2_with (at_make; refine wpList_make_own _ rfl _ _ 22 rfl (w.heap.size + 2) 5 i0 (.int .u8 0) 1 Ybaf.underlying22 hi hz0 hz1 _ _ _ bc rfl rfl rfl (by rw [hz2]; omega) (by unfold maxLen; omega) (by simp) ?_)
  intro w4 own4 gr4
  have S : Hid (Start (w.heap.size + 1) w4.heap.size w.heap.size (w.heap.size + 2) 0 0 0 0 0 bc none none [] aE aU sU (w4.alloc (.cells #[.slice (some ⟨w.heap.size + 2, 0, none⟩) 0 bc] 22))) := start_of (l := []) (hp := none) (hl := 0) (hc := 0) (o := 0) (sz := .int .i64 0) V ⟨rfl, fun h => absurd h (by omega)⟩ gr4 own4
  have z4 : w.heap.size + 2 < w4.heap.size := (own4.lt _ rfl).2
  have B4 : Below w.heap.size w (w4.alloc (.cells #[.slice (some ⟨w.heap.size + 2, 0, none⟩) 0 bc] 22)) := ((((Below.refl _ _).alloc (Nat.le_refl _) _).alloc (by simp) _).grown gr4 (by simp; omega) (fun k h => by cases h)).alloc (by omega) _
  have T4 : Hid (F.answers (w4.alloc (.cells #[.slice (some ⟨w.heap.size + 2, 0, none⟩) 0 bc] 22)).tape) := show F.answers _ by rw [B4.tape]; exact hF
  clear own4 gr4 V
  have hA1 : ¬ (A : Int) ≤ 0 := by omega
  go_wp2_with fail
  refine (bytes4_full (w.heap.size + 1) w4.heap.size w.heap.size (w.heap.size + 2) A 0 0 0 0 0 0 bc none none [] aE aU sU _ hA (by omega) (by omega) (by omega) (by omega) (by omega) hbc (.inl rfl) S.out).mono ?_
  rintro e w5 ⟨G, gc, rfl, O⟩
  have c1 := O.calls
  have c2 := O.buf
  obtain ⟨hx, hxc, c3, c4⟩ := O.offs
  have B5 : Hid (Below w.heap.size w w5) := out_below B4 O (Nat.le_refl _) (by omega) (by omega) (by simp; omega)
  clear O S T4 B4
  go_wp2
  go_ret
  exact ⟨rfl, B5.out⟩

set_option maxHeartbeats 2000000 in
set_option maxRecDepth 100000 in
theorem zero_nil_err (F : Interp) (cap off h A N bc : Nat) (aE aU : Addr) (sU : ByteArray) (w : World) (_hoff : off ≤ 255) (_hh : h ≤ 255) (hA : A ≤ 255) (hN : N ≤ 255) (hbc : bc ≤ 255) (hF : F.answers w.tape) (V : Vars aE aU sU w) (hN0 : 0 < N) :
    Calls Ybaf.prog 3 #[.slice none 0 cap, .int .u8 off, .int .u8 h, .int .u8 A, .int .u8 N, .int .u8 bc] w fun e w' => e = .returned (.bool true) ∧ Below w.heap.size w w' := by
  obtain ⟨i0, hi, hz0, hz1, hz2⟩ := info_parts info5
  have hnil := fun (W : World) => Lib.run_eql_slice_nil (P := Ybaf.prog) W 22 5 none 0 0 0 0 Ybaf.underlying22
  go_enter Ybaf.func3, Ybaf.ntmps3
  go_wp2_with (at_make; refine wpList_make_own _ rfl _ _ 22 rfl (w.heap.size + 2) 5 i0 (.int .u8 0) 1 Ybaf.underlying22 hi hz0 hz1 _ _ _ bc rfl rfl rfl (by rw [hz2]; omega) (by unfold maxLen; omega) (by simp) ?_)
  intro w4 own4 gr4
  have S : Hid (Start (w.heap.size + 1) w4.heap.size w.heap.size (w.heap.size + 2) 0 0 0 0 0 bc none none [] aE aU sU (w4.alloc (.cells #[.slice (some ⟨w.heap.size + 2, 0, none⟩) 0 bc] 22))) := start_of (l := []) (hp := none) (hl := 0) (hc := 0) (o := 0) (sz := .int .i64 0) V ⟨rfl, fun h => absurd h (by omega)⟩ gr4 own4
  have z4 : w.heap.size + 2 < w4.heap.size := (own4.lt _ rfl).2
  have B4 : Below w.heap.size w (w4.alloc (.cells #[.slice (some ⟨w.heap.size + 2, 0, none⟩) 0 bc] 22)) := ((((Below.refl _ _).alloc (Nat.le_refl _) _).alloc (by simp) _).grown gr4 (by simp; omega) (fun k h => by cases h)).alloc (by omega) _
  have T4 : Hid (F.answers (w4.alloc (.cells #[.slice (some ⟨w.heap.size + 2, 0, none⟩) 0 bc] 22)).tape) := show F.answers _ by rw [B4.tape]; exact hF
  clear own4 gr4 V
  go_wp2_with fail
  refine (bytes4_err F (w.heap.size + 1) w4.heap.size w.heap.size (w.heap.size + 2) A N 0 0 0 0 0 bc none none [] aE aU sU _ hA hN (by omega) (by omega) (by omega) (by omega) hbc hN0 (by omega) T4.out S.out).mono ?_
  rintro e w5 ⟨G, gc, ⟨b, rfl⟩, O⟩
  have c1 := O.calls
  have c2 := O.buf
  obtain ⟨hx, hxc, c3, c4⟩ := O.offs
  have B5 : Hid (Below w.heap.size w w5) := out_below B4 O (Nat.le_refl _) (by omega) (by omega) (by simp; omega)
  clear O S T4 B4
  have hN1 : ((N : Int) == 0) = false := by simp; omega
  go_wp2
  go_ret
  exact ⟨rfl, B5.out⟩

set_option maxHeartbeats 2000000 in
set_option maxRecDepth 100000 in
theorem zero_some_head (F : Interp) (ad : Addr) (cap off h A N bc : Nat) (aE aU : Addr) (sU : ByteArray) (w : World) (_hoff : off ≤ 255) (_hh : h ≤ 255) (hA : A ≤ 255) (hN : N ≤ 255) (hbc : bc ≤ 255) (hF : F.answers w.tape) (V : Vars aE aU sU w) (h0 : A + N = 0) :
    Calls Ybaf.prog 3 #[.slice (some ad) 0 cap, .int .u8 off, .int .u8 h, .int .u8 A, .int .u8 N, .int .u8 bc] w fun e w' => e = .returned (.bool true) ∧ Below w.heap.size w w' := by
  obtain ⟨i0, hi, hz0, hz1, hz2⟩ := info_parts info5
  have hnil := fun (W : World) => Lib.run_eql_slice_nil (P := Ybaf.prog) W 22 5 none 0 0 0 0 Ybaf.underlying22
  obtain ⟨rfl, rfl⟩ : A = 0 ∧ N = 0 := by omega
  go_enter Ybaf.func3, Ybaf.ntmps3
  go_wp2_with (at_make; refine wpList_make_own _ rfl _ _ 22 rfl (w.heap.size + 2) 5 i0 (.int .u8 0) 1 Ybaf.underlying22 hi hz0 hz1 _ _ _ bc rfl rfl rfl (by rw [hz2]; omega) (by unfold maxLen; omega) (by simp) ?_)
  intro w4 own4 gr4
  have S : Hid (Start (w.heap.size + 1) w4.heap.size w.heap.size (w.heap.size + 2) 0 0 0 0 0 bc none none [] aE aU sU (w4.alloc (.cells #[.slice (some ⟨w.heap.size + 2, 0, none⟩) 0 bc] 22))) := start_of (l := []) (hp := none) (hl := 0) (hc := 0) (o := 0) (sz := .int .i64 0) V ⟨rfl, fun h => absurd h (by omega)⟩ gr4 own4
  have z4 : w.heap.size + 2 < w4.heap.size := (own4.lt _ rfl).2
  have B4 : Below w.heap.size w (w4.alloc (.cells #[.slice (some ⟨w.heap.size + 2, 0, none⟩) 0 bc] 22)) := ((((Below.refl _ _).alloc (Nat.le_refl _) _).alloc (by simp) _).grown gr4 (by simp; omega) (fun k h => by cases h)).alloc (by omega) _
  have T4 : Hid (F.answers (w4.alloc (.cells #[.slice (some ⟨w.heap.size + 2, 0, none⟩) 0 bc] 22)).tape) := show F.answers _ by rw [B4.tape]; exact hF
  clear own4 gr4 V
  have c1 : (w4.alloc (.cells #[.slice (some ⟨w.heap.size + 2, 0, none⟩) 0 bc] 22)).cell? ⟨w.heap.size, 1, none⟩ = some (.int .i64 0) := by rw [cell_of_row _ _ _ _ _ _ S.out.rd]; rfl
  have b3 := S.out.b3
  have B4' : Hid _ := B4
  clear S T4 B4
  go_wp2_with fail
  refine (bytes4_head (w.heap.size + 1) w4.heap.size 0 0 0 0 none _ (by omega) (by omega) (by omega) (by omega) (by omega) b3).mono ?_
  rintro e w5 ⟨⟨gp, gc, rfl, -⟩, rfl⟩
  go_wp2_with (go_at_call 5; refine (eq5 _ _ 0 _ _ [] _ rfl (fun h => absurd h (by simp)) (fun h => absurd h (by simp))).mono ?_; rintro e w6 ⟨rfl, rfl⟩)
  go_ret
  exact ⟨rfl, B4'.out⟩

set_option maxHeartbeats 2000000 in
set_option maxRecDepth 100000 in
theorem zero_some_full (F : Interp) (ad : Addr) (cap off h A N bc : Nat) (aE aU : Addr) (sU : ByteArray) (w : World) (_hoff : off ≤ 255) (_hh : h ≤ 255) (hA : A ≤ 255) (hN : N ≤ 255) (hbc : bc ≤ 255) (hF : F.answers w.tape) (V : Vars aE aU sU w) (hA0 : 0 < A) (hN0 : N = 0) :
    Calls Ybaf.prog 3 #[.slice (some ad) 0 cap, .int .u8 off, .int .u8 h, .int .u8 A, .int .u8 N, .int .u8 bc] w fun e w' => e = .returned (.bool true) ∧ Below w.heap.size w w' := by
  obtain ⟨i0, hi, hz0, hz1, hz2⟩ := info_parts info5
  have hnil := fun (W : World) => Lib.run_eql_slice_nil (P := Ybaf.prog) W 22 5 none 0 0 0 0 Ybaf.underlying22
  subst hN0
  go_enter Ybaf.func3, Ybaf.ntmps3
  go_wp2_with (at_make; refine wpList_make_own _ rfl _ _ 22 rfl (w.heap.size + 2) 5 i0 (.int .u8 0) 1 Ybaf.underlying22 hi hz0 hz1 _ _ _ bc rfl rfl rfl (by rw [hz2]; omega) (by unfold maxLen; omega) (by simp) ?_)
  intro w4 own4 gr4
  have S : Hid (Start (w.heap.size + 1) w4.heap.size w.heap.size (w.heap.size + 2) 0 0 0 0 0 bc none none [] aE aU sU (w4.alloc (.cells #[.slice (some ⟨w.heap.size + 2, 0, none⟩) 0 bc] 22))) := start_of (l := []) (hp := none) (hl := 0) (hc := 0) (o := 0) (sz := .int .i64 0) V ⟨rfl, fun h => absurd h (by omega)⟩ gr4 own4
  have z4 : w.heap.size + 2 < w4.heap.size := (own4.lt _ rfl).2
  have B4 : Below w.heap.size w (w4.alloc (.cells #[.slice (some ⟨w.heap.size + 2, 0, none⟩) 0 bc] 22)) := ((((Below.refl _ _).alloc (Nat.le_refl _) _).alloc (by simp) _).grown gr4 (by simp; omega) (fun k h => by cases h)).alloc (by omega) _
  have T4 : Hid (F.answers (w4.alloc (.cells #[.slice (some ⟨w.heap.size + 2, 0, none⟩) 0 bc] 22)).tape) := show F.answers _ by rw [B4.tape]; exact hF
  clear own4 gr4 V
  have hA1 : ¬ (A : Int) ≤ 0 := by omega
  go_wp2_with fail
  refine (bytes4_full (w.heap.size + 1) w4.heap.size w.heap.size (w.heap.size + 2) A 0 0 0 0 0 0 bc none none [] aE aU sU _ hA (by omega) (by omega) (by omega) (by omega) (by omega) hbc (.inl rfl) S.out).mono ?_
  rintro e w5 ⟨G, gc, rfl, O⟩
  have c1 := O.calls
  have c2 := O.buf
  obtain ⟨hx, hxc, c3, c4⟩ := O.offs
  have B5 : Hid (Below w.heap.size w w5) := out_below B4 O (Nat.le_refl _) (by omega) (by omega) (by simp; omega)
  clear O S T4 B4
  go_wp2
  go_ret
  exact ⟨rfl, B5.out⟩

set_option maxHeartbeats 2000000 in
set_option maxRecDepth 100000 in
theorem zero_some_err (F : Interp) (ad : Addr) (cap off h A N bc : Nat) (aE aU : Addr) (sU : ByteArray) (w : World) (_hoff : off ≤ 255) (_hh : h ≤ 255) (hA : A ≤ 255) (hN : N ≤ 255) (hbc : bc ≤ 255) (hF : F.answers w.tape) (V : Vars aE aU sU w) (hN0 : 0 < N) :
    Calls Ybaf.prog 3 #[.slice (some ad) 0 cap, .int .u8 off, .int .u8 h, .int .u8 A, .int .u8 N, .int .u8 bc] w fun e w' => e = .returned (.bool true) ∧ Below w.heap.size w w' := by
  obtain ⟨i0, hi, hz0, hz1, hz2⟩ := info_parts info5
  have hnil := fun (W : World) => Lib.run_eql_slice_nil (P := Ybaf.prog) W 22 5 none 0 0 0 0 Ybaf.underlying22
  go_enter Ybaf.func3, Ybaf.ntmps3
  go_wp2_with (at_make; refine wpList_make_own _ rfl _ _ 22 rfl (w.heap.size + 2) 5 i0 (.int .u8 0) 1 Ybaf.underlying22 hi hz0 hz1 _ _ _ bc rfl rfl rfl (by rw [hz2]; omega) (by unfold maxLen; omega) (by simp) ?_)
  intro w4 own4 gr4
  have S : Hid (Start (w.heap.size + 1) w4.heap.size w.heap.size (w.heap.size + 2) 0 0 0 0 0 bc none none [] aE aU sU (w4.alloc (.cells #[.slice (some ⟨w.heap.size + 2, 0, none⟩) 0 bc] 22))) := start_of (l := []) (hp := none) (hl := 0) (hc := 0) (o := 0) (sz := .int .i64 0) V ⟨rfl, fun h => absurd h (by omega)⟩ gr4 own4
  have z4 : w.heap.size + 2 < w4.heap.size := (own4.lt _ rfl).2
  have B4 : Below w.heap.size w (w4.alloc (.cells #[.slice (some ⟨w.heap.size + 2, 0, none⟩) 0 bc] 22)) := ((((Below.refl _ _).alloc (Nat.le_refl _) _).alloc (by simp) _).grown gr4 (by simp; omega) (fun k h => by cases h)).alloc (by omega) _
  have T4 : Hid (F.answers (w4.alloc (.cells #[.slice (some ⟨w.heap.size + 2, 0, none⟩) 0 bc] 22)).tape) := show F.answers _ by rw [B4.tape]; exact hF
  clear own4 gr4 V
  go_wp2_with fail
  refine (bytes4_err F (w.heap.size + 1) w4.heap.size w.heap.size (w.heap.size + 2) A N 0 0 0 0 0 bc none none [] aE aU sU _ hA hN (by omega) (by omega) (by omega) (by omega) hbc hN0 (by omega) T4.out S.out).mono ?_
  rintro e w5 ⟨G, gc, ⟨b, rfl⟩, O⟩
  have c1 := O.calls
  have c2 := O.buf
  obtain ⟨hx, hxc, c3, c4⟩ := O.offs
  have B5 : Hid (Below w.heap.size w w5) := out_below B4 O (Nat.le_refl _) (by omega) (by omega) (by simp; omega)
  clear O S T4 B4
  have hN1 : ((N : Int) == 0) = false := by simp; omega
  go_wp2
  go_ret
  exact ⟨rfl, B5.out⟩

end Go.Proofs.YbulksgiFmt
