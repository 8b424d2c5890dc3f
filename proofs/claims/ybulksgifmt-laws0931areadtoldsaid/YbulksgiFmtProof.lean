import Derived.Test.YbulksgiFmtRows
import Derived.Test.YbulksgiFmtTie
import Derived.Test.YbulksgiFmtCards
import Derived.Test.YbulksgiFmtLawZ
import Derived.Test.YbulksgiFmtLawE
import Derived.Test.YbulksgiFmtLawP
import Derived.Test.YbulksgiFmtLawF
import Derived.Test.YbulksgiFmtLawH
import Derived.WalkKit
import Derived.ProofKit
import Derived.OpenShut
import Derived.ShutString
import Derived.ChangeOld
import Derived.Below
import Derived.LaidMore
import Derived.LaidOnce
import Derived.SevenTiedAt
import Derived.Stop.LaidErr
import Derived.Stop.Joined
import Derived.Stop.JoinedTold
import Derived.Deep.DeepWitnessRef
/-! LawS0931ARead: the wrap. -/
namespace Go.Proofs.YbulksgiFmt.lawS0931ARead
open Go.ChangeShapes Go.WideShapes Go.ChangeAt Go.RowKit
open Go.Extern.Stop Go.Stop Go.Extern
set_option linter.unusedVariables false

theorem own : ownKnob Ybaf.prog.godebug = none := by kernel_rfl
theorem laidOut : laidOutB Ybaf.prog = true := by kernel_rfl
theorem stops : Ybaf.pinned.checked.prog.stops = ["fmt.errorf"] := by kernel_rfl
theorem stopKnobs : Ybaf.pinned.checked.prog.stopKnobs = [] := by kernel_rfl
theorem quiet (os : Os) : Stop.quiet Ybaf.pinned.checked.prog os := by
  intro k hk
  rw [stopKnobs] at hk
  cases hk
theorem gE : Ybaf.prog.globalNamed "io.EOF" = some 0 := by kernel_rfl
theorem gEType : (Ybaf.prog.globals[0]?).map (·.type) = some 33 := by kernel_rfl
theorem gU : Ybaf.prog.globalNamed "io.ErrUnexpectedEOF" = some 1 := by kernel_rfl
theorem gUType : (Ybaf.prog.globals[1]?).map (·.type) = some 33 := by kernel_rfl
theorem kells49 : Ybaf.prog.cellsOf 49 = 1 := by kernel_rfl
theorem kells9 : Ybaf.prog.cellsOf 9 = 1 := by kernel_rfl
theorem star : "*" ++ "errors.errorString" = "*errors.errorString" := by decide
theorem row47 (u : TypeId) (h : Ybaf.prog.typeName? 3 u = some "*errors.errorString") : u = 47 :=
  typeName_ptr_named (nm := "errors.errorString") (by rw [star]; kernel_rfl) (by kernel_rfl) (by decide) u (by rw [star]; exact h)

/-- The row's list. -/
def laid2 : List (String × DataW Unit) := [("io.EOF", Rows.laid_io_EOF), ("io.ErrUnexpectedEOF", Rows.laid_io_ErrUnexpectedEOF)]

/-- The door's own heap meets the condition. -/
theorem door_met (os : Os) (args : Array Value) : laidMetH Ybaf.prog laid2 ((World.doorLaid Ybaf.prog 400 os).forCall (fun _ _ => 0) ⟨#[], args, []⟩).memory :=
  laidMetH_of_parts3 (fuel := 8) (laidMet_of_run' 8 (by kernel_rfl) (by kernel_rfl)) (by kernel_rfl) (by kernel_rfl)

/-- What the condition gives the walks. -/
theorem of_laid {W : World} (h : laidMetH Ybaf.prog laid2 W) : ∃ (aE aU : Addr) (sU : ByteArray), Vars aE aU sU W := by
  rw [MakeChecks.laidMetH_plain _ _ _ (by kernel_rfl)] at h
  obtain ⟨a0, s0, hv0, hc0, hs0, hz0⟩ := laid_sentinel h gE gEType Ybaf.underlying33 row47 Ybaf.underlying47 Ybaf.underlying49 rfl rfl Ybaf.underlying9 kells49 kells9
  obtain ⟨a1, s1, hv1, hc1, hs1, hz1⟩ := laid_sentinel h.tail gU gUType Ybaf.underlying33 row47 Ybaf.underlying47 Ybaf.underlying49 rfl rfl Ybaf.underlying9 kells49 kells9
  exact ⟨a0, a1, s1, by simpa using World.var?_cell gE hv0 0, by simpa using World.var?_cell gU hv1 0, hc1⟩

theorem nat_of_u8 {x : Int} (h : (Lit.int .u8 x).wf = true) : ∃ n : Nat, x = (n : Int) ∧ n ≤ 255 := by
  have := bounds_u8 h
  exact ⟨x.toNat, by omega, by omega⟩

/-- A slice of integers that came in: nil, or a row of 'cap' cells. -/
def IsRow (k : IntKind) (w : World) (a : Option Addr) (len cap : Nat) (zs : List Int) : Prop :=
  (a = none ∧ len = 0 ∧ cap = 0 ∧ zs = []) ∨
  ∃ x, a = some x ∧ len ≤ cap ∧ cap ≤ maxLen ∧ zs.length = cap ∧ (∀ i, i < zs.length → w.cell? (x.add i) = some (.int k (zs.getD i 0))) ∧ ∀ n ∈ zs, (Lit.int k n).wf = true

/-- The bytes of a slice that came in. -/
theorem came_of (w : World) (x : Addr) (len cap : Nat) (zs : List Int) (h0 : 0 < len) (hlc : len ≤ cap) (hz : zs.length = cap) (hcell : ∀ i, i < zs.length → w.cell? (x.add i) = some (.int .u8 (zs.getD i 0))) (hwf : ∀ n ∈ zs, (Lit.int .u8 n).wf = true) :
    ∃ g s lb, x = ⟨g, s, none⟩ ∧ lb.length = len ∧ At w g s lb := by
  obtain ⟨b, off, spot⟩ := x
  have hc0 := hcell 0 (by omega)
  have hspot : spot = none := by simpa [Addr.add] using World.cell?_spot hc0
  subst hspot
  refine ⟨b, off, (zs.take len).map fun z => z.toNat.toUInt8, rfl, by simp; omega, ?_⟩
  intro j u hj
  have hjl : j < len := by
    have := (List.getElem?_eq_some_iff.1 hj).1
    simp at this; omega
  have hjz : j < zs.length := by omega
  have hc : w.cell? ⟨b, off + j, none⟩ = some (.int .u8 (zs.getD j 0)) := by
    have := hcell j hjz
    by_cases hj0 : j = 0
    · subst hj0; simpa [Addr.add] using this
    · simpa [Addr.add, hj0] using this
  rw [hc]
  simp only [List.getElem?_map, List.getElem?_take_of_lt hjl, List.getElem?_eq_getElem hjz, Option.map_some, Option.some.injEq] at hj
  subst hj
  have hb := bounds_u8 (hwf zs[j] (List.getElem_mem hjz))
  have e : zs.getD j 0 = zs[j] := by simp [List.getD, List.getElem?_eq_getElem hjz]
  have e2 : zs[j].toNat.toUInt8.toNat = zs[j].toNat := by simp; omega
  rw [e, e2]
  congr 2
  omega

set_option maxRecDepth 100000 in
/-- More than 1024 bytes: the law says true at once. -/
theorem law_long (ao : Option Addr) (len cap : Nat) (off h A N bc : Int) (w : World) (hlen : 1024 < len) :
    Calls Ybaf.prog 3 #[.slice ao len cap, .int .u8 off, .int .u8 h, .int .u8 A, .int .u8 N, .int .u8 bc] w fun e w' => e = .returned (.bool true) ∧ Below w.heap.size w w' := by
  have h : (1024 : Int) < (len : Int) := by omega
  go_enter Ybaf.func3, Ybaf.ntmps3
  go_wp2
  go_ret
  exact ⟨rfl, Below.refl _ _⟩

/-- The walk: the Go text returns true, and writes nothing that was there. -/
theorem walk (F : Interp) (a0 : Option Addr) (len cap : Nat) (z0 : List Int) (off h A N bc : Nat) (aE aU : Addr) (sU : ByteArray) (w : World) (w0 : IsRow .u8 w a0 len cap z0)
    (hoff : off ≤ 255) (hh : h ≤ 255) (hA : A ≤ 255) (hN : N ≤ 255) (hbc : bc ≤ 255) (hF : F.answers w.tape) (V : Vars aE aU sU w) :
    Calls Ybaf.prog 3 #[.slice a0 len cap, .int .u8 off, .int .u8 h, .int .u8 A, .int .u8 N, .int .u8 bc] w fun e w' => e = .returned (.bool true) ∧ Below w.heap.size w w' := by
  by_cases hl : len ≤ 1024
  · rcases w0 with ⟨rfl, rfl, rfl, rfl⟩ | ⟨y, rfl, hlc, hcm, hz, hcell, hwf⟩
    · by_cases hN0 : N = 0
      · by_cases hA0 : A = 0
        · exact zero_nil_head F 0 off h A N bc aE aU sU w hoff hh hA hN hbc hF V (by omega)
        · exact zero_nil_full F 0 off h A N bc aE aU sU w hoff hh hA hN hbc hF V (by omega) hN0
      · exact zero_nil_err F 0 off h A N bc aE aU sU w hoff hh hA hN hbc hF V (by omega)
    · rcases Nat.eq_zero_or_pos len with rfl | hpos
      · by_cases hN0 : N = 0
        · by_cases hA0 : A = 0
          · exact zero_some_head F y cap off h A N bc aE aU sU w hoff hh hA hN hbc hF V (by omega)
          · exact zero_some_full F y cap off h A N bc aE aU sU w hoff hh hA hN hbc hF V (by omega) hN0
        · exact zero_some_err F y cap off h A N bc aE aU sU w hoff hh hA hN hbc hF V (by omega)
      · obtain ⟨g, s, lb, rfl, hlb, hat⟩ := came_of w y len cap z0 hpos hlc hz hcell hwf
        have ho2 : off % (len + 1) ≤ len := by have := Nat.mod_lt off (show 0 < len + 1 by omega); omega
        have hl2 : off % (len + 1) + h % (len - off % (len + 1) + 1) ≤ len := by
          have := Nat.mod_lt h (show 0 < len - off % (len + 1) + 1 by omega); omega
        have ho : (off : Int) % ((len : Int) + 1) = ((off % (len + 1) : Nat) : Int) := by simp
        have hhl : (h : Int) % ((len : Int) - ((off % (len + 1) : Nat) : Int) + 1) = ((h % (len - off % (len + 1) + 1) : Nat) : Int) := by
          generalize off % (len + 1) = o at ho2 ⊢
          rw [Int.natCast_emod, Int.natCast_add, Int.natCast_sub ho2]; rfl
        generalize off % (len + 1) = o at *
        generalize h % (len - o + 1) = hl' at *
        by_cases h1 : A + N ≤ hl'
        · exact pos_head F g s len cap off h A N bc o hl' lb aE aU sU w hl hpos hoff hh hA hN hbc hF V hlb hat ho ho2 hhl hl2 h1
        · by_cases hN0 : N = 0
          · exact pos_full0 F g s len cap off h A N bc o hl' lb aE aU sU w hl hpos hoff hh hA hN hbc hF V hlb hat ho ho2 hhl hl2 (by omega) hN0
          · by_cases h2 : o + A + N ≤ len
            · exact pos_full F g s len cap off h A N bc o hl' lb aE aU sU w hl hpos hoff hh hA hN hbc hF V hlb hat ho ho2 hhl hl2 (by omega) (by omega) h2
            · exact pos_err F g s len cap off h A N bc o hl' lb aE aU sU w hl hpos hoff hh hA hN hbc hF V hlb hat ho ho2 hhl hl2 (by omega) (by omega) (by omega)
  · exact law_long a0 len cap _ _ _ _ _ w (by omega)

set_option maxRecDepth 100000 in
set_option maxHeartbeats 2000000 in
theorem lifted (os : Os) (started : os.Started) (H : Type) (enc : TypeId × Value → H) :
    ReturnsInTold none {} Ybaf.checked os 3 .any Input.okWide ((OpenSpec.ofChange Rows.lawS0931AReadSpec).preRow enc Ybaf.prog Ybaf.f3 [] false laid2) (fun F => ((OpenSpec.ofChange Rows.lawS0931AReadSpec).at F).post enc Ybaf.prog Ybaf.f3 false true false false) (aloneAtReturn Ybaf.prog) nothingAlways := by
  refine returnsInTold_of_row (C := Ybaf.checked) (s := OpenSpec.ofChange Rows.lawS0931AReadSpec) (by kernel_rfl) own started (by kernel_rfl) Ybaf.func3
    (OpenSpec.witness_stopped_atRef (enc := enc) (C := Ybaf.checked) false (World.doorLaid Ybaf.prog 400 os) #[.slice none 0 0, .int .u8 0, .int .u8 0, .int .u8 0, .int .u8 0, .int .u8 0] rfl (by kernel_rfl) (by kernel_rfl) (by kernel_rfl)
      (OpenSpec.preRow_of_B rfl 8 (by kernel_rfl) (by kernel_rfl) (door_met os _))) ?_
  intro F W base args ds gs before _ hF hval0 hW _ _ _ hL _
  have hval : ∀ (j : Nat) t v, Ybaf.f3.params[j]? = some t → args[j]? = some v → Value.okWide Ybaf.prog W .any base t v := hval0
  have hW' := hW
  obtain ⟨p, q, hA0, hV0, rfl, hfz, hnd⟩ := hW
  have hA : DataW.TrodAll enc Ybaf.prog W 0 (fun _ => true) true Ybaf.f3.params.toList args.toList ds p := hA0
  rw [Ybaf.params3] at hA hval
  obtain ⟨v0, vs0, d0, ds0, p0, q0, hargs, rfl, rfl, h0, r0⟩ := trodAll_cons hA
  obtain ⟨v1, vs1, d1, ds1, p1, q1, rfl, rfl, rfl, h1, r1⟩ := trodAll_cons r0
  obtain ⟨v2, vs2, d2, ds2, p2, q2, rfl, rfl, rfl, h2, r2⟩ := trodAll_cons r1
  obtain ⟨v3, vs3, d3, ds3, p3, q3, rfl, rfl, rfl, h3, r3⟩ := trodAll_cons r2
  obtain ⟨v4, vs4, d4, ds4, p4, q4, rfl, rfl, rfl, h4, r4⟩ := trodAll_cons r3
  obtain ⟨v5, vs5, d5, ds5, p5, q5, rfl, rfl, rfl, h5, r5⟩ := trodAll_cons r4
  obtain ⟨rfl, rfl, rfl⟩ := trodAll_nil r5
  obtain rfl : args = #[v0, v1, v2, v3, v4, v5] := by cases args; simp_all
  obtain ⟨rfl, rfl⟩ := trodVars_none hV0
  obtain ⟨aE, aU, sU, V⟩ := of_laid hL
  obtain ⟨a0, len0, cap0, rfl⟩ := okWide_slice Ybaf.underlying22 (hval 0 22 v0 rfl rfl)
  have k0 := h0
  have lt0 : ∀ x ∈ p0, x.block < W.heap.size := by obtain ⟨m, hm⟩ := k0; exact DataW.trod_lt m _ _ _ hm
  obtain ⟨z0, w0⟩ : ∃ zs, IsRow .u8 W a0 len0 cap0 zs := by
    obtain ⟨fuel, hf⟩ := h0
    rcases open_ints Ybaf.underlying22 Ybaf.underlying5 (by kernel_rfl) hf with ⟨hcs, _⟩ | ⟨x, l, c, zs, hcs, _, hl, hm, hz, _, hcell, hwz⟩
    · simp [Value.cells] at hcs
      obtain ⟨rfl, rfl, rfl⟩ := hcs
      exact ⟨[], .inl ⟨rfl, rfl, rfl, rfl⟩⟩
    · simp [Value.cells] at hcs
      obtain ⟨rfl, rfl, rfl⟩ := hcs
      exact ⟨zs, .inr ⟨_, rfl, hl, hm, by simpa using hz, hcell, hwz⟩⟩
  obtain ⟨x1, rfl, rfl, rfl, wx1⟩ := open_int Ybaf.underlying5 (hval 1 5 v1 rfl rfl) h1
  obtain ⟨x2, rfl, rfl, rfl, wx2⟩ := open_int Ybaf.underlying5 (hval 2 5 v2 rfl rfl) h2
  obtain ⟨x3, rfl, rfl, rfl, wx3⟩ := open_int Ybaf.underlying5 (hval 3 5 v3 rfl rfl) h3
  obtain ⟨x4, rfl, rfl, rfl, wx4⟩ := open_int Ybaf.underlying5 (hval 4 5 v4 rfl rfl) h4
  obtain ⟨x5, rfl, rfl, rfl, wx5⟩ := open_int Ybaf.underlying5 (hval 5 5 v5 rfl rfl) h5
  obtain ⟨n1, rfl, b1⟩ := nat_of_u8 wx1
  obtain ⟨n2, rfl, b2⟩ := nat_of_u8 wx2
  obtain ⟨n3, rfl, b3⟩ := nat_of_u8 wx3
  obtain ⟨n4, rfl, b4⟩ := nat_of_u8 wx4
  obtain ⟨n5, rfl, b5⟩ := nat_of_u8 wx5
  clear hA0 hV0 hval0
  refine (walk F.told a0 len0 cap0 z0 n1 n2 n3 n4 n5 aE aU sU W w0 b1 b2 b3 b4 b5 hF V).mono fun e W' ⟨he, bel⟩ => ?_
  subst he
  exact ⟨_, rfl, _, _, _, [], _, [], hW', trodAll_mk1 (shut_bool Ybaf.underlying4 _),
    (trodAll_cons_mk (Below.trod laidOut (by kernel_rfl) (of_decide_eq_true (by kernel_rfl)) k0 bel lt0) (trodAll_cons_mk (shut_int Ybaf.underlying5 wx1) (trodAll_cons_mk (shut_int Ybaf.underlying5 wx2) (trodAll_cons_mk (shut_int Ybaf.underlying5 wx3) (trodAll_cons_mk (shut_int Ybaf.underlying5 wx4) (trodAll_cons_mk (shut_int Ybaf.underlying5 wx5) trodAll_mk0)))))),
    rfl, bel.frame _, fun h => by cases h⟩

/-- The told and tied card. -/
theorem proved : Rows.LawS0931AReadToldSaid :=
  Claim7.holds_of_told_tied_any_at .later 3 Ybaf.f3 "fmt.errorf" [] [] _ _ _ _ _ (by kernel_rfl) rfl rfl rfl laidOut (by kernel_rfl) rfl ⟨rfl, rfl, rfl, rfl, rfl, rfl, rfl⟩ rfl rfl (by kernel_rfl) (by kernel_rfl) Ybaf.func3 (by kernel_rfl)
    (of_decide_eq_true (by kernel_rfl)) (by unfold Func.isWrapper; first | (rw [if_pos (by decide +kernel)]; kernel_rfl) | (rw [if_neg (by decide +kernel)]; exact ⟨rfl, rfl⟩)) stops.symm rfl stopKnobs.symm (by kernel_rfl)
    (by kernel_rfl) (by kernel_rfl) (by kernel_rfl) (by kernel_rfl) (by kernel_rfl) (by kernel_rfl) (by kernel_rfl) (by kernel_rfl) (by kernel_rfl) rfl (by kernel_rfl) rfl rfl
    rfl rfl
    rfl (by kernel_rfl) (by kernel_rfl) (by kernel_rfl) (by decide) (by kernel_rfl) lawS0931ARead_row_tie
    (OpenClaim.moreEntering_of (by kernel_rfl) (by kernel_rfl) (by kernel_rfl) (by kernel_rfl) (by kernel_rfl) (by kernel_rfl) (by kernel_rfl) (by kernel_rfl) (by kernel_rfl) (by kernel_rfl))
    ⟨_, WideRow.started_initial, quiet _⟩
    (fun os started _ H enc _ => lifted os started H enc)

#print axioms proved
end Go.Proofs.YbulksgiFmt.lawS0931ARead
