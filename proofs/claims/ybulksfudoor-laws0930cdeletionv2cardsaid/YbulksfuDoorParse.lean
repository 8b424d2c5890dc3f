import Derived.Test.YbulksfuDoorRes
/-! The three Parse functions, where the length fits. -/
namespace Go.Proofs.YbulksfuDoor
open Go.RowKit

set_option maxHeartbeats 4000000 in
set_option maxRecDepth 100000 in
theorem parse13 (g o c : Nat) (l : List UInt8) (w : World) (hc : 20 ≤ c) (hl : l.length = 20) (h : At w g o l) (hg : g < w.heap.size) :
    Calls Ybad.prog 13 #[.slice (some ⟨g, o, none⟩) 20 c] w fun e w' => e = .returned (.tuple #[.agg #[.int .u64 (Lib.beNat (l.take 8) : Nat), .int .u64 (Lib.beNat ((l.drop 8).take 8) : Nat), .int .u32 (Lib.beNat ((l.drop 16).take 4) : Nat)], .nilIface]) ∧ Below w.heap.size w w' := by
  have n8 : ¬ c = 8 := by omega
  have n16 : ¬ c = 16 := by omega
  have HL : Hid (l.length = 20) := hl
  have HA : Hid (At w g o l) := h
  clear hl h
  go_enter Ybad.func13, Ybad.ntmps13
  go_wp2_with fail
  have r0 : Res 3 40 w (w.alloc (.cells #[.int .u64 0, .int .u64 0, .int .u32 0] 40)) := Res.start 3 40 w _ rfl
  have s0 : ∀ w', Res 3 40 w w' → w'.cell? ⟨w.heap.size, 0, none⟩ = some (valAt w' w.heap.size 0) := fun w' h => h.cell 0 (by omega)
  have s1 : ∀ w', Res 3 40 w w' → w'.cell? ⟨w.heap.size, 1, none⟩ = some (valAt w' w.heap.size 1) := fun w' h => h.cell 1 (by omega)
  have s2 : ∀ w', Res 3 40 w w' → w'.cell? ⟨w.heap.size, 2, none⟩ = some (valAt w' w.heap.size 2) := fun w' h => h.cell 2 (by omega)
  have f0 : ∀ w', Res 3 40 w w' → w'.frozen? ⟨w.heap.size, 0, none⟩ = false := fun w' h => h.frozen 0
  have f1 : ∀ w', Res 3 40 w w' → w'.frozen? ⟨w.heap.size, 1, none⟩ = false := fun w' h => h.frozen 1
  have f2 : ∀ w', Res 3 40 w w' → w'.frozen? ⟨w.heap.size, 2, none⟩ = false := fun w' h => h.frozen 2
  go_region_held3 (fun w' => Res 3 40 w w') (first | assumption | exact Res.drew (by assumption) | exact Res.step (by assumption) (by assumption) | exact ((Res.set (by assumption) _ _).set _ _).set _ _)
    (first
      | (go_at_call_of 18 (Value.slice (some ⟨g, o, none⟩) 20 c); refine (u64 g o 20 c l _ (by omega) (by rw [HL.out]; omega) ?_).mono ?_; (exact HA.out.below (Res.out (n := 3) (t := 40) (by assumption)) hg); rintro e w' ⟨rfl, hb⟩)
      | (go_at_call_of 18 (@HAdd.hAdd Nat Nat Nat (@instHAdd Nat instAddNat) o (@OfNat.ofNat Nat (nat_lit 8) (instOfNatNat (nat_lit 8)))); refine (u64 g (o + 8) 12 (c - 8) (l.drop 8) _ (by omega) (by simp [HL.out]) ?_).mono ?_; (exact (HA.out.below (Res.out (n := 3) (t := 40) (by assumption)) hg).drop 8); rintro e w' ⟨rfl, hb⟩)
      | (go_at_call_of 19 (@HAdd.hAdd Nat Nat Nat (@instHAdd Nat instAddNat) o (@OfNat.ofNat Nat (nat_lit 16) (instOfNatNat (nat_lit 16)))); refine (u32 g (o + 16) 4 (c - 16) (l.drop 16) _ (by omega) (by simp [HL.out]) ?_).mono ?_; (exact (HA.out.below (Res.out (n := 3) (t := 40) (by assumption)) hg).drop 16); rintro e w' ⟨rfl, hb⟩))
  rename_i w1 hb1 w2 hb2 _
  have hr : Res 3 40 w w' := ((Res.step r0.drew hb1).step hb2).step hb
  obtain ⟨k0, k1, k2, hB⟩ := hr.three (.int .u64 (Lib.beNat (l.take 8) : Nat)) (.int .u64 (Lib.beNat ((l.drop 8).take 8) : Nat)) (.int .u32 (Lib.beNat ((l.drop 16).take 4) : Nat))
  generalize hW : (((w'.setCell ⟨w.heap.size, 0, none⟩ (.int .u64 (Lib.beNat (l.take 8) : Nat))).setCell ⟨w.heap.size, 1, none⟩ (.int .u64 (Lib.beNat ((l.drop 8).take 8) : Nat))).setCell ⟨w.heap.size, 2, none⟩ (.int .u32 (Lib.beNat ((l.drop 16).take 4) : Nat))) = W at *
  clear hW s0 s1 s2 f0 f1 f2
  go_wp2
  exact bodyPost_ret (v := .tuple #[.agg #[.int .u64 (Lib.beNat (l.take 8) : Nat), .int .u64 (Lib.beNat ((l.drop 8).take 8) : Nat), .int .u32 (Lib.beNat ((l.drop 16).take 4) : Nat)], .nilIface]) (by simp [results, Ybad.results13, go_sem, k0, k1, k2]) rfl ⟨rfl, hB⟩

set_option maxHeartbeats 4000000 in
set_option maxRecDepth 100000 in
theorem parse11 (g o c : Nat) (l : List UInt8) (w : World) (hc : 18 ≤ c) (hl : l.length = 18) (h : At w g o l) (hg : g < w.heap.size) :
    Calls Ybad.prog 11 #[.slice (some ⟨g, o, none⟩) 18 c] w fun e w' => e = .returned (.tuple #[.agg #[.int .u64 (Lib.beNat (l.take 8) : Nat), .int .u64 (Lib.beNat ((l.drop 8).take 8) : Nat)], .nilIface]) ∧ Below w.heap.size w w' := by
  have n8 : ¬ c = 8 := by omega
  have HL : Hid (l.length = 18) := hl
  have HA : Hid (At w g o l) := h
  clear hl h
  go_enter Ybad.func11, Ybad.ntmps11
  go_wp2_with fail
  have r0 : Res 2 34 w (w.alloc (.cells #[.int .u64 0, .int .u64 0] 34)) := Res.start 2 34 w _ rfl
  have s0 : ∀ w', Res 2 34 w w' → w'.cell? ⟨w.heap.size, 0, none⟩ = some (valAt w' w.heap.size 0) := fun w' h => h.cell 0 (by omega)
  have s1 : ∀ w', Res 2 34 w w' → w'.cell? ⟨w.heap.size, 1, none⟩ = some (valAt w' w.heap.size 1) := fun w' h => h.cell 1 (by omega)
  have f0 : ∀ w', Res 2 34 w w' → w'.frozen? ⟨w.heap.size, 0, none⟩ = false := fun w' h => h.frozen 0
  have f1 : ∀ w', Res 2 34 w w' → w'.frozen? ⟨w.heap.size, 1, none⟩ = false := fun w' h => h.frozen 1
  go_region_held3 (fun w' => Res 2 34 w w') (first | assumption | exact Res.drew (by assumption) | exact Res.step (by assumption) (by assumption) | exact (Res.set (by assumption) _ _).set _ _)
    (first
      | (go_at_call_of 18 (Value.slice (some ⟨g, o, none⟩) 18 c); refine (u64 g o 18 c l _ (by omega) (by rw [HL.out]; omega) ?_).mono ?_; (exact HA.out.below (Res.out (n := 2) (t := 34) (by assumption)) hg); rintro e w' ⟨rfl, hb⟩)
      | (go_at_call_of 18 (@HAdd.hAdd Nat Nat Nat (@instHAdd Nat instAddNat) o (@OfNat.ofNat Nat (nat_lit 8) (instOfNatNat (nat_lit 8)))); refine (u64 g (o + 8) 10 (c - 8) (l.drop 8) _ (by omega) (by simp [HL.out]) ?_).mono ?_; (exact (HA.out.below (Res.out (n := 2) (t := 34) (by assumption)) hg).drop 8); rintro e w' ⟨rfl, hb⟩))
  rename_i w1 hb1 _
  have hr : Res 2 34 w w' := (Res.step r0.drew hb1).step hb
  obtain ⟨k0, k1, hB⟩ := hr.two (.int .u64 (Lib.beNat (l.take 8) : Nat)) (.int .u64 (Lib.beNat ((l.drop 8).take 8) : Nat))
  generalize hW : ((w'.setCell ⟨w.heap.size, 0, none⟩ (.int .u64 (Lib.beNat (l.take 8) : Nat))).setCell ⟨w.heap.size, 1, none⟩ (.int .u64 (Lib.beNat ((l.drop 8).take 8) : Nat))) = W at *
  clear hW s0 s1 f0 f1
  go_wp2
  exact bodyPost_ret (v := .tuple #[.agg #[.int .u64 (Lib.beNat (l.take 8) : Nat), .int .u64 (Lib.beNat ((l.drop 8).take 8) : Nat)], .nilIface]) (by simp [results, Ybad.results11, go_sem, k0, k1]) rfl ⟨rfl, hB⟩

set_option maxHeartbeats 4000000 in
set_option maxRecDepth 100000 in
theorem parse8 (g o c : Nat) (l : List UInt8) (w : World) (hc : 31 ≤ c) (hl : l.length = 31) (h : At w g o l) (hg : g < w.heap.size) :
    Calls Ybad.prog 8 #[.slice (some ⟨g, o, none⟩) 31 c] w fun e w' => e = .returned (.tuple #[.agg #[.int .u64 (Lib.beNat (l.take 8) : Nat), .int .u64 (Lib.beNat ((l.drop 8).take 8) : Nat), .int .u32 (Lib.beNat ((l.drop 16).take 4) : Nat), .int .u32 (Lib.beNat ((l.drop 20).take 4) : Nat), .int .u32 (Lib.beNat ((l.drop 24).take 4) : Nat)], .nilIface]) ∧ Below w.heap.size w w' := by
  have n8 : ¬ c = 8 := by omega
  have n16 : ¬ c = 16 := by omega
  have n20 : ¬ c = 20 := by omega
  have n24 : ¬ c = 24 := by omega
  have HL : Hid (l.length = 31) := hl
  have HA : Hid (At w g o l) := h
  clear hl h
  go_enter Ybad.func8, Ybad.ntmps8
  go_wp2_with fail
  have r0 : Res 5 25 w (w.alloc (.cells #[.int .u64 0, .int .u64 0, .int .u32 0, .int .u32 0, .int .u32 0] 25)) := Res.start 5 25 w _ rfl
  have s0 : ∀ w', Res 5 25 w w' → w'.cell? ⟨w.heap.size, 0, none⟩ = some (valAt w' w.heap.size 0) := fun w' h => h.cell 0 (by omega)
  have s1 : ∀ w', Res 5 25 w w' → w'.cell? ⟨w.heap.size, 1, none⟩ = some (valAt w' w.heap.size 1) := fun w' h => h.cell 1 (by omega)
  have s2 : ∀ w', Res 5 25 w w' → w'.cell? ⟨w.heap.size, 2, none⟩ = some (valAt w' w.heap.size 2) := fun w' h => h.cell 2 (by omega)
  have s3 : ∀ w', Res 5 25 w w' → w'.cell? ⟨w.heap.size, 3, none⟩ = some (valAt w' w.heap.size 3) := fun w' h => h.cell 3 (by omega)
  have s4 : ∀ w', Res 5 25 w w' → w'.cell? ⟨w.heap.size, 4, none⟩ = some (valAt w' w.heap.size 4) := fun w' h => h.cell 4 (by omega)
  have f0 : ∀ w', Res 5 25 w w' → w'.frozen? ⟨w.heap.size, 0, none⟩ = false := fun w' h => h.frozen 0
  have f1 : ∀ w', Res 5 25 w w' → w'.frozen? ⟨w.heap.size, 1, none⟩ = false := fun w' h => h.frozen 1
  have f2 : ∀ w', Res 5 25 w w' → w'.frozen? ⟨w.heap.size, 2, none⟩ = false := fun w' h => h.frozen 2
  have f3 : ∀ w', Res 5 25 w w' → w'.frozen? ⟨w.heap.size, 3, none⟩ = false := fun w' h => h.frozen 3
  have f4 : ∀ w', Res 5 25 w w' → w'.frozen? ⟨w.heap.size, 4, none⟩ = false := fun w' h => h.frozen 4
  go_region_held3 (fun w' => Res 5 25 w w') (first | assumption | exact Res.drew (by assumption) | exact Res.step (by assumption) (by assumption) | exact ((((Res.set (by assumption) _ _).set _ _).set _ _).set _ _).set _ _)
    (first
      | (go_at_call_of 18 (Value.slice (some ⟨g, o, none⟩) 31 c); refine (u64 g o 31 c l _ (by omega) (by rw [HL.out]; omega) ?_).mono ?_; (exact HA.out.below (Res.out (n := 5) (t := 25) (by assumption)) hg); rintro e w' ⟨rfl, hb⟩)
      | (go_at_call_of 18 (@HAdd.hAdd Nat Nat Nat (@instHAdd Nat instAddNat) o (@OfNat.ofNat Nat (nat_lit 8) (instOfNatNat (nat_lit 8)))); refine (u64 g (o + 8) 23 (c - 8) (l.drop 8) _ (by omega) (by simp [HL.out]) ?_).mono ?_; (exact (HA.out.below (Res.out (n := 5) (t := 25) (by assumption)) hg).drop 8); rintro e w' ⟨rfl, hb⟩)
      | (go_at_call_of 19 (@HAdd.hAdd Nat Nat Nat (@instHAdd Nat instAddNat) o (@OfNat.ofNat Nat (nat_lit 16) (instOfNatNat (nat_lit 16)))); refine (u32 g (o + 16) 15 (c - 16) (l.drop 16) _ (by omega) (by simp [HL.out]) ?_).mono ?_; (exact (HA.out.below (Res.out (n := 5) (t := 25) (by assumption)) hg).drop 16); rintro e w' ⟨rfl, hb⟩)
      | (go_at_call_of 19 (@HAdd.hAdd Nat Nat Nat (@instHAdd Nat instAddNat) o (@OfNat.ofNat Nat (nat_lit 20) (instOfNatNat (nat_lit 20)))); refine (u32 g (o + 20) 11 (c - 20) (l.drop 20) _ (by omega) (by simp [HL.out]) ?_).mono ?_; (exact (HA.out.below (Res.out (n := 5) (t := 25) (by assumption)) hg).drop 20); rintro e w' ⟨rfl, hb⟩)
      | (go_at_call_of 19 (@HAdd.hAdd Nat Nat Nat (@instHAdd Nat instAddNat) o (@OfNat.ofNat Nat (nat_lit 24) (instOfNatNat (nat_lit 24)))); refine (u32 g (o + 24) 7 (c - 24) (l.drop 24) _ (by omega) (by simp [HL.out]) ?_).mono ?_; (exact (HA.out.below (Res.out (n := 5) (t := 25) (by assumption)) hg).drop 24); rintro e w' ⟨rfl, hb⟩))
  rename_i w1 hb1 w2 hb2 w3 hb3 w4 hb4 _
  have hr : Res 5 25 w w' := ((((Res.step r0.drew hb1).step hb2).step hb3).step hb4).step hb
  obtain ⟨k0, k1, k2, k3, k4, hB⟩ := hr.five (.int .u64 (Lib.beNat (l.take 8) : Nat)) (.int .u64 (Lib.beNat ((l.drop 8).take 8) : Nat)) (.int .u32 (Lib.beNat ((l.drop 16).take 4) : Nat)) (.int .u32 (Lib.beNat ((l.drop 20).take 4) : Nat)) (.int .u32 (Lib.beNat ((l.drop 24).take 4) : Nat))
  generalize hW : (((((w'.setCell ⟨w.heap.size, 0, none⟩ (.int .u64 (Lib.beNat (l.take 8) : Nat))).setCell ⟨w.heap.size, 1, none⟩ (.int .u64 (Lib.beNat ((l.drop 8).take 8) : Nat))).setCell ⟨w.heap.size, 2, none⟩ (.int .u32 (Lib.beNat ((l.drop 16).take 4) : Nat))).setCell ⟨w.heap.size, 3, none⟩ (.int .u32 (Lib.beNat ((l.drop 20).take 4) : Nat))).setCell ⟨w.heap.size, 4, none⟩ (.int .u32 (Lib.beNat ((l.drop 24).take 4) : Nat))) = W at *
  clear hW s0 s1 s2 s3 s4 f0 f1 f2 f3 f4
  go_wp2
  exact bodyPost_ret (v := .tuple #[.agg #[.int .u64 (Lib.beNat (l.take 8) : Nat), .int .u64 (Lib.beNat ((l.drop 8).take 8) : Nat), .int .u32 (Lib.beNat ((l.drop 16).take 4) : Nat), .int .u32 (Lib.beNat ((l.drop 20).take 4) : Nat), .int .u32 (Lib.beNat ((l.drop 24).take 4) : Nat)], .nilIface]) (by simp [results, Ybad.results8, go_sem, k0, k1, k2, k3, k4]) rfl ⟨rfl, hB⟩

end Go.Proofs.YbulksfuDoor
