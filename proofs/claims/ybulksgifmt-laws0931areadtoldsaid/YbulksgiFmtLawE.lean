import Derived.Test.YbulksgiFmtNews
import Derived.LaidEqlPtr
import Derived.Lib.SliceRun
import Derived.WalkSmall
import Derived.Deep.QuietTactic
import Derived.BigQuiet
/-! LawS0931ARead. -/
namespace Go.Proofs.YbulksgiFmt
open Go.RowKit Go.Stop

set_option maxHeartbeats 4000000 in
set_option maxRecDepth 100000 in
theorem pos_err (F : Interp) (g s len cap off h A N bc o hl : Nat) (lb : List UInt8) (aE aU : Addr) (sU : ByteArray) (w : World) (hlen : len ≤ 1024) (hpos : 0 < len) (_hoff : off ≤ 255) (_hh : h ≤ 255) (hA : A ≤ 255) (hN : N ≤ 255) (hbc : bc ≤ 255) (hF : F.answers w.tape) (V : Vars aE aU sU w) (hlb : lb.length = len) (hat : At w g s lb)
    (ho : (off : Int) % ((len : Int) + 1) = (o : Int)) (ho2 : o ≤ len) (hhl : (h : Int) % ((len : Int) - (o : Int) + 1) = (hl : Int)) (hl2 : o + hl ≤ len) (hno : hl < A + N) (hN0 : 0 < N) (herr : len < o + A + N) :
    Calls Ybaf.prog 3 #[.slice (some ⟨g, s, none⟩) len cap, .int .u8 off, .int .u8 h, .int .u8 A, .int .u8 N, .int .u8 bc] w fun e w' => e = .returned (.bool true) ∧ Below w.heap.size w w' := by
  obtain ⟨i0, hi, hz0, hz1, hz2⟩ := info_parts info5
  have hnil := fun (W : World) => Lib.run_eql_slice_nil (P := Ybaf.prog) W 22 5 none 0 0 0 0 Ybaf.underlying22
  have HB : Hid (lb.length = len) := hlb
  have HA : Hid (At w g s lb) := hat
  clear hlb hat
  go_enter Ybaf.func3, Ybaf.ntmps3
  go_wp2_with (at_builtin; refine wpList_append_lies _ rfl _ _ 22 rfl w.heap.size 5 i0 (.int .u8 0) 1 1 Ybaf.underlying22 hi hz0 hz1 hz2 rfl (by decide) _ _ _ rfl (World.ownsRow_nil _ _ _ _) ⟨g, s, none⟩ len cap (Lib.byteCells lb) rfl (by simp [Lib.byteCells, HB.out]) (at_news HA.out) (bytes_one lb) hpos (by unfold maxLen; omega) (by omega) (Nat.le_refl _) w.heap.size rfl ?_)
  intro D dc w1 own1 gr1 at1 lt1
  have hdc : len ≤ dc := by
    rcases own1.2 with ⟨h', _⟩ | ⟨g', cap', cur', h', _, _, hle, _⟩
    · cases h'
    · simp only [Value.slice.injEq] at h'; omega
  have m1 : Hid (Mine w1 (some ⟨D, 0, none⟩) len dc lb) := ⟨HB.out, fun _ => ⟨D, rfl, hdc, lt1, at_own own1 HB.out⟩⟩
  have B1 : Below w.heap.size w w1 := (Below.refl _ _).grown gr1 (Nat.le_refl _) (fun k h => by cases h)
  have z1 : w.heap.size ≤ w1.heap.size := B1.size
  have V1 : Hid (Vars aE aU sU w1) := V.below B1
  clear own1 gr1 at1 V HA
  by_cases hdo : dc = o
  · subst hdo
    obtain rfl : hl = 0 := by omega
    go_wp2_with (at_make; refine wpList_make_own _ rfl _ _ 22 rfl (w1.heap.size + 2) 5 i0 (.int .u8 0) 1 Ybaf.underlying22 hi hz0 hz1 _ _ _ bc rfl rfl rfl (by rw [hz2]; omega) (by unfold maxLen; omega) (by simp) ?_)
    intro w4 own4 gr4
    have S : Hid (Start (w1.heap.size + 1) w4.heap.size w1.heap.size (w1.heap.size + 2) 0 0 dc len dc bc (some ⟨D, 0, none⟩) (some ⟨D, 0, none⟩) lb aE aU sU (w4.alloc (.cells #[.slice (some ⟨w1.heap.size + 2, 0, none⟩) 0 bc] 22))) := start_of V1.out m1.out gr4 own4
    have z4 : w1.heap.size + 2 < w4.heap.size := (own4.lt _ rfl).2
    have B4 : Below w.heap.size w (w4.alloc (.cells #[.slice (some ⟨w1.heap.size + 2, 0, none⟩) 0 bc] 22)) := (((B1.alloc z1 _).alloc (by simp; omega) _).grown gr4 (by simp; omega) (fun k h => by cases h)).alloc (by omega) _
    have T4 : Hid (F.answers (w4.alloc (.cells #[.slice (some ⟨w1.heap.size + 2, 0, none⟩) 0 bc] 22)).tape) := show F.answers _ by rw [B4.tape]; exact hF
    have AD : Hid (At (w4.alloc (.cells #[.slice (some ⟨w1.heap.size + 2, 0, none⟩) 0 bc] 22)) D 0 lb) := by
      obtain ⟨D', e1, -, d3, d4, d5, d6⟩ := S.out.data hpos
      cases e1; exact d6
    clear own4 gr4 V1 m1
    go_wp2_with fail
    refine (bytes4_err F (w1.heap.size + 1) w4.heap.size w1.heap.size (w1.heap.size + 2) A N 0 0 dc len dc bc (some ⟨D, 0, none⟩) (some ⟨D, 0, none⟩) lb aE aU sU _ hA hN (by omega) (by omega) (by omega) (by omega) hbc hN0 (by omega) T4.out S.out).mono ?_
    rintro e w5 ⟨G, gc, ⟨b, rfl⟩, O⟩
    have c1 := O.calls
    have c2 := O.buf
    obtain ⟨hx, hxc, c3, c4⟩ := O.offs
    rw [show ((dc + A : Nat) : Int) = (dc : Int) + (A : Int) from by omega] at c4
    have B5 : Hid (Below w.heap.size w w5) := out_below B4 O z1 (by omega) (by omega) (by simp; omega)
    clear O S T4 B4 AD
    have hN1 : ((N : Int) == 0) = false := by simp; omega
    go_wp2
    go_ret
    exact ⟨rfl, B5.out⟩
  · go_wp2_with (at_make; refine wpList_make_own _ rfl _ _ 22 rfl (w1.heap.size + 2) 5 i0 (.int .u8 0) 1 Ybaf.underlying22 hi hz0 hz1 _ _ _ bc rfl rfl rfl (by rw [hz2]; omega) (by unfold maxLen; omega) (by simp) ?_)
    intro w4 own4 gr4
    have S : Hid (Start (w1.heap.size + 1) w4.heap.size w1.heap.size (w1.heap.size + 2) hl (dc - o) o len dc bc (some ⟨D, o, none⟩) (some ⟨D, 0, none⟩) lb aE aU sU (w4.alloc (.cells #[.slice (some ⟨w1.heap.size + 2, 0, none⟩) 0 bc] 22))) := start_of V1.out m1.out gr4 own4
    have z4 : w1.heap.size + 2 < w4.heap.size := (own4.lt _ rfl).2
    have B4 : Below w.heap.size w (w4.alloc (.cells #[.slice (some ⟨w1.heap.size + 2, 0, none⟩) 0 bc] 22)) := (((B1.alloc z1 _).alloc (by simp; omega) _).grown gr4 (by simp; omega) (fun k h => by cases h)).alloc (by omega) _
    have T4 : Hid (F.answers (w4.alloc (.cells #[.slice (some ⟨w1.heap.size + 2, 0, none⟩) 0 bc] 22)).tape) := show F.answers _ by rw [B4.tape]; exact hF
    have AD : Hid (At (w4.alloc (.cells #[.slice (some ⟨w1.heap.size + 2, 0, none⟩) 0 bc] 22)) D 0 lb) := by
      obtain ⟨D', e1, -, d3, d4, d5, d6⟩ := S.out.data hpos
      cases e1; exact d6
    clear own4 gr4 V1 m1
    go_wp2_with fail
    refine (bytes4_err F (w1.heap.size + 1) w4.heap.size w1.heap.size (w1.heap.size + 2) A N hl (dc - o) o len dc bc (some ⟨D, o, none⟩) (some ⟨D, 0, none⟩) lb aE aU sU _ hA hN (by omega) (by omega) (by omega) (by omega) hbc hN0 (by omega) T4.out S.out).mono ?_
    rintro e w5 ⟨G, gc, ⟨b, rfl⟩, O⟩
    have c1 := O.calls
    have c2 := O.buf
    obtain ⟨hx, hxc, c3, c4⟩ := O.offs
    rw [show ((o + A : Nat) : Int) = (o : Int) + (A : Int) from by omega] at c4
    have B5 : Hid (Below w.heap.size w w5) := out_below B4 O z1 (by omega) (by omega) (by simp; omega)
    clear O S T4 B4 AD
    have hN1 : ((N : Int) == 0) = false := by simp; omega
    go_wp2
    go_ret
    exact ⟨rfl, B5.out⟩

end Go.Proofs.YbulksgiFmt
