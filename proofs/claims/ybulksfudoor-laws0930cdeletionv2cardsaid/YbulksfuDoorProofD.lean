import Derived.Test.YbulksfuDoorLaid
import Derived.Test.YbulksfuDoorLawD
namespace Go.Proofs.YbulksfuDoor.lawS0930CDeletionV2
open Go.ChangeShapes Go.WideShapes Go.ChangeAt Go.RowKit
set_option linter.unusedVariables false

/-- The bytes of a slice that came in. -/
theorem came_of (w : World) (x : Addr) (len cap : Nat) (zs : List Int) (hlc : len ≤ cap) (hz : zs.length = cap) (hcell : ∀ i, i < zs.length → w.cell? (x.add i) = some (.int .u8 (zs.getD i 0))) (hwf : ∀ n ∈ zs, (Lit.int .u8 n).wf = true) :
    Came8 w (some x) len ((zs.take len).map fun z => z.toNat.toUInt8) := by
  refine ⟨by simp; omega, fun h0 => ?_⟩
  obtain ⟨b, off, spot⟩ := x
  have hc0 := hcell 0 (by omega)
  have hspot : spot = none := by simpa [Addr.add] using World.cell?_spot hc0
  subst hspot
  refine ⟨b, off, rfl, ?_, ?_⟩
  · intro j u hj
    have hjl : j < len := by
      have := (List.getElem?_eq_some_iff.1 hj).1
      simp at this; omega
    have hjz : j < zs.length := by omega
    have hc := hcell j hjz
    rw [add_plain] at hc
    rw [hc]
    simp only [List.getElem?_map, List.getElem?_take_of_lt hjl, List.getElem?_eq_getElem hjz, Option.map_some, Option.some.injEq] at hj
    subst hj
    have hb := nat_of_u8 (hwf zs[j] (List.getElem_mem hjz))
    have e : zs.getD j 0 = zs[j] := by simp [List.getD, List.getElem?_eq_getElem hjz]
    rw [e, Lib.toUInt8_toNat (by omega)]
    congr 2
    omega
  · have := World.block_lt_of_cell? _ _ hc0
    simpa [Addr.add] using this

/-- The walk: the Go text returns true, and writes nothing that was there. -/
theorem walk (a0 : Option Addr) (len0 cap0 : Nat) (z0 : List Int) (a1 : Int) (w : World) (w0 : IsRow .u8 w a0 len0 cap0 z0) (w1 : (Lit.int .u8 a1).wf = true) :
    Calls Ybad.prog 6 #[.slice a0 len0 cap0, .int .u8 a1] w fun e w' => e = .returned (.bool true) ∧ Below w.heap.size w w' := by
  by_cases hl : len0 ≤ 1024
  · obtain ⟨b, hb⟩ : ∃ b : UInt8, a1 = (b.toNat : Int) := ⟨a1.toNat.toUInt8, by
      have := nat_of_u8 w1
      rw [Lib.toUInt8_toNat (by omega)]; omega⟩
    subst hb
    rcases w0 with ⟨rfl, rfl, rfl, rfl⟩ | ⟨y, rfl, hlc, hcm, hz, hcell, hwf⟩
    · exact lawD_short none 0 0 [] b w (by omega) ⟨rfl, fun h => absurd h (by omega)⟩
    · exact lawD_short (some y) len0 cap0 _ b w hl (came_of w y len0 cap0 z0 hlc hz hcell hwf)
  · exact lawD_long a0 len0 cap0 a1 w (by omega)

set_option maxRecDepth 100000 in
theorem lifted (os : Os) (started : os.Started) (H : Type) (enc : TypeId × Value → H) :
    ReturnsInHanded {} Ybad.checked os 6 .any (fun w args => (Rows.lawS0930CDeletionV2Spec.pre enc Ybad.prog Ybad.f6 [] false w args ∧ laidMetH Ybad.prog laid1 w) ∧ sizedMet enc Ybad.prog Ybad.f6 (OpenSpec.ofChange Rows.lawS0930CDeletionV2Spec) false w args)
      (Rows.lawS0930CDeletionV2Spec.post enc Ybad.prog Ybad.f6 false true false false) := by
  refine returnsInHanded_of_change_and (C := Ybad.checked) (X := fun w _ => laidMetH Ybad.prog laid1 w) (fun _ _ _ hh h => h.of_heap hh) own started (by kernel_rfl) Ybad.func6
    (ChangeSpec.witness_shaped (enc := enc) (C := Ybad.checked) (os := os) (X := fun w _ => laidMetH Ybad.prog laid1 w) false (World.doorLaid Ybad.prog 400 os) #[.slice none 0 0, .int .u8 0] 8 rfl (World.shaped_of_RefB (by kernel_rfl) (by kernel_rfl)) (by kernel_rfl) (by kernel_rfl) (by kernel_rfl) (door_met os _)) ?_
  intro W base args ds gs before hval0 hW _ _ hL _
  have hval : ∀ (j : Nat) t v, Ybad.f6.params[j]? = some t → args[j]? = some v → Value.okWide Ybad.prog W .any base t v := hval0
  have hW' := hW
  obtain ⟨p, q, hA0, hV0, rfl, hfz, hnd⟩ := hW
  have hA : DataW.TrodAll enc Ybad.prog W 0 (fun _ => true) true Ybad.f6.params.toList args.toList ds p := hA0
  have hV : DataW.TrodVars enc Ybad.prog W (fun _ => true) ["example.com/seqwire/seqwire/codec.ErrBadExtrasLength"] gs q := hV0
  rw [Ybad.params6] at hA hval
  obtain ⟨v0, vs0, d0, ds0, p0, q0, hargs, rfl, rfl, h0, r0⟩ := trodAll_cons hA
  obtain ⟨v1, vs1, d1, ds1, p1, q1, rfl, rfl, rfl, h1, r1⟩ := trodAll_cons r0
  obtain ⟨rfl, rfl, rfl⟩ := trodAll_nil r1
  obtain rfl : args = #[v0, v1] := by cases args; simp_all
  obtain ⟨aE, hv0, hc0⟩ := of_laid hL
  obtain ⟨rfl, rfl⟩ := hV.unique (vars_read1 enc gE gEType Ybad.underlying29 hv0 trivial _)
  obtain ⟨a0, len0, cap0, rfl⟩ := okWide_slice Ybad.underlying26 (hval 0 26 v0 rfl rfl)
  have k0 := h0
  have lt0 : ∀ x ∈ p0, x.block < W.heap.size := by obtain ⟨m, hm⟩ := k0; exact DataW.trod_lt m _ _ _ hm
  obtain ⟨z0, w0⟩ : ∃ zs, IsRow .u8 W a0 len0 cap0 zs := by
    obtain ⟨fuel, hf⟩ := h0
    rcases open_ints Ybad.underlying26 Ybad.underlying5 (by kernel_rfl) hf with ⟨hcs, _⟩ | ⟨x, l, c, zs, hcs, _, hl, hm, hz, _, hcell, hwz⟩
    · simp [Value.cells] at hcs
      obtain ⟨rfl, rfl, rfl⟩ := hcs
      exact ⟨[], .inl ⟨rfl, rfl, rfl, rfl⟩⟩
    · simp [Value.cells] at hcs
      obtain ⟨rfl, rfl, rfl⟩ := hcs
      exact ⟨zs, .inr ⟨_, rfl, hl, hm, by simpa using hz, hcell, hwz⟩⟩
  obtain ⟨a1, rfl, rfl, rfl, w1⟩ := open_int Ybad.underlying5 (hval 1 5 v1 rfl rfl) h1
  clear hA0 hV0 hval0
  refine (walk a0 len0 cap0 z0 a1 W w0 w1).mono fun e W' ⟨he, bel⟩ => ?_
  subst he
  exact ⟨_, rfl, _, _, _, [], _, [.cell 0 0], hW', trodAll_mk1 (shut_bool Ybad.underlying4 _), (trodAll_cons_mk (Below.trod laidOut (by kernel_rfl) (of_decide_eq_true (by kernel_rfl)) k0 bel lt0) (trodAll_cons_mk (shut_int Ybad.underlying5 w1) trodAll_mk0)), vars_read1 enc gE gEType Ybad.underlying29 (var_below hv0 bel) trivial _, bel.frame _, fun h => by cases h⟩

theorem over : Rows.LawS0930CDeletionV2Said :=
  OpenClaim.holds_of_wide 6 Ybad.f6 rfl rfl rfl rfl rfl rfl rfl ⟨rfl, rfl, rfl, rfl, rfl⟩ rfl rfl rfl rfl rfl (by kernel_rfl) Ybad.func6 (by kernel_rfl)
    (of_decide_eq_true (by kernel_rfl)) (by unfold Func.isWrapper; first | (rw [if_pos (by decide +kernel)]; kernel_rfl) | (rw [if_neg (by decide +kernel)]; exact ⟨rfl, rfl⟩))
    (fun os started H enc _ => lifted os started H enc)

/-- The tied card. -/
theorem proved : Rows.LawS0930CDeletionV2CardSaid :=
  Claim7.holds_tied_plain_at .later [] [.called] true (true, "15e600f86e214c9d3fdc229e2413836b62082ab8a618de77be0952292431e4f4") true
    over (fun _ h => by cases h) (by kernel_rfl) (fun _ h => by cases h) lawS0930CDeletionV2_row_tie rfl ⟨rfl, rfl⟩ (by kernel_rfl) rfl
    (fun f fn hf hfn => by
      obtain rfl : f = 6 := Option.some.inj ((show Ybad.prog.funcNamed Rows.lawS0930CDeletionV2Row.func = some 6 by kernel_rfl).symm.trans hf) |>.symm
      obtain rfl : fn = Ybad.f6 := (Option.some.inj (Ybad.func6.symm.trans hfn)).symm
      exact ⟨by kernel_rfl, fun j t ht => by
        rw [Ybad.params6] at ht
        have hm : t ∈ [26, 5] := by simpa using Array.mem_of_getElem? ht
        have hall : ([26, 5].all fun u => !Ybad.prog.wantsStandIn u) = true := by kernel_rfl
        exact (show Ybad.prog.wantsStandIn t = false by simpa using List.all_eq_true.1 hall t hm)⟩)
    (by kernel_rfl)
#print axioms proved
end Go.Proofs.YbulksfuDoor.lawS0930CDeletionV2
