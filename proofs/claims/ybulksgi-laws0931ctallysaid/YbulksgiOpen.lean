import Derived.Test.YbulksgiLaw
import Derived.ProofKit
import Derived.OpenShut
import Derived.Deep.Slices
import Derived.Deep.Strs
/-! The arguments, opened. -/
namespace Go.Proofs.Ybulksgi
open Go.ChangeShapes Go.WideShapes Go.ChangeAt Go.RowKit Go.Deep
variable {H : Type} {enc : TypeId × Value → H} {W : World}

theorem cells3 {a : Addr} {cs : List Value} (h : W.cells? 0 a 3 = some cs) : ∃ v0 v1 v2, cs = [v0, v1, v2] ∧ W.cell? (a.add 0) = some v0 ∧ W.cell? (a.add 1) = some v1 ∧ W.cell? (a.add 2) = some v2 := by
  unfold World.cells? at h
  rw [if_pos (Nat.zero_le _)] at h
  cases h0 : W.cell? (a.add 0) <;> cases h1 : W.cell? (a.add 1) <;> cases h2 : W.cell? (a.add 2) <;> simp [List.range, List.range.loop, h0, h1, h2] at h
  exact ⟨_, _, _, h.symm, rfl, rfl, rfl⟩

theorem kells26 : Yba.prog.cellsOf 26 = 3 := by kernel_rfl
theorem kells103 : Yba.prog.cellsOf 103 = 3 := by kernel_rfl
theorem kells3 : Yba.prog.cellsOf 3 = 1 := by kernel_rfl
theorem kells24 : Yba.prog.cellsOf 24 = 1 := by kernel_rfl
theorem kells54 : Yba.prog.cellsOf 54 = 1 := by kernel_rfl
theorem kells9 : Yba.prog.cellsOf 9 = 1 := by kernel_rfl

theorem addr_plain {a : Addr} {v : Value} (h : W.cell? (a.add 0) = some v) : a.spot = none := by
  have e : a.add 0 = a := by simp [Addr.add]
  rw [e] at h
  exact World.cell?_spot h

theorem plain_add (b o i : Nat) : (⟨b, o, none⟩ : Addr).add i = ⟨b, o + i, none⟩ := by unfold Addr.add; split <;> simp_all

/-- A worker's three cells, opened. -/
theorem open_worker {n : Nat} {a : Addr} {x : DataW H × List MemPlace} {cs : List Value} (hc : W.cells? 0 a 3 = some cs) (h : DataW.trod enc Yba.prog W 0 (fun _ => true) true n 26 cs = some x) :
    ∃ t : Int × Int × Option Addr × Nat × List Int, W.cell? (a.add 0) = some (.int .i64 t.1) ∧ W.cell? (a.add 1) = some (.int .i64 t.2.1) ∧ W.cell? (a.add 2) = some (.slice t.2.2.1 t.2.2.2.2.length t.2.2.2.1) ∧
      (0 < t.2.2.2.2.length → ∃ b o, t.2.2.1 = some ⟨b, o, none⟩ ∧ ∀ j z, t.2.2.2.2[j]? = some z → W.cell? ⟨b, o + j, none⟩ = some (.int .i64 z)) ∧ ∀ z ∈ t.2.2.2.2, -9223372036854775808 ≤ z ∧ z < 9223372036854775808 := by
  obtain ⟨v0, v1, v2, rfl, e0, e1, e2⟩ := cells3 hc
  obtain ⟨y0, y1, y2, m, _, _, h0, h1, h2⟩ := trod_struct3 Yba.underlying26 h
  simp only [kells3, kells24, List.drop_zero, List.take_succ_cons, List.take_zero, List.drop_succ_cons] at h0 h1 h2
  obtain ⟨k0, c0, _, _⟩ := DataW.trod_int Yba.underlying3 h0
  obtain ⟨k1, c1, _, _⟩ := DataW.trod_int Yba.underlying3 h1
  simp only [List.cons.injEq, and_true] at c0 c1
  subst c0; subst c1
  rcases open_ints Yba.underlying24 Yba.underlying3 kells3 h2 with ⟨hcs, _⟩ | ⟨b, l, c, zs, hcs, _, hl, hm, hz, _, hcell, hwz⟩
  · simp only [List.cons.injEq, and_true] at hcs
    subst hcs
    exact ⟨(k0, k1, none, 0, []), e0, e1, e2, fun h => absurd h (by simp), fun z hz => by cases hz⟩
  · simp only [List.cons.injEq, and_true] at hcs
    subst hcs
    simp only [if_true] at hz
    have hlz : (zs.take l).length = l := by simp; omega
    refine ⟨(k0, k1, some b, c, zs.take l), e0, e1, by simpa [hlz] using e2, fun h => ?_, fun z hzm => ?_⟩
    · have hl0 : 0 < l := by simpa [hlz] using h
      have hp : b.spot = none := addr_plain (hcell 0 (by omega))
      obtain ⟨bb, bo, bs⟩ := b
      simp only at hp
      subst hp
      refine ⟨bb, bo, rfl, fun j z hj => ?_⟩
      have hjl : j < l := by rw [← hlz]; exact (List.getElem?_eq_some_iff.1 hj).1
      have := hcell j (by omega)
      rw [plain_add] at this
      rw [this]
      simp only [List.getElem?_take_of_lt hjl] at hj
      simp [List.getD, hj]
    · have := bounds_i64 (hwz z (List.mem_of_mem_take hzm))
      omega

theorem open_ws {fuel : Nat} {v : Value} {x : DataW H × List MemPlace} (h : DataW.trod enc Yba.prog W 0 (fun _ => true) true fuel 22 [v] = some x) :
    ∃ wa n wc E U fa fc fs, v = .slice wa n wc ∧ Inp W wa n E U fa fc fs := by
  rcases open_slice Yba.underlying22 h with ⟨hc, _⟩ | ⟨a, len, cap, m, n, D, Pl, hc, _, hl, hm, hmm, _, hall⟩
  · simp only [List.cons.injEq, and_true] at hc
    subst hc
    exact ⟨none, 0, 0, fun _ => 0, fun _ => 0, fun _ => none, fun _ => 0, fun _ => [], rfl, fun h => absurd h (by omega), fun i hi => absurd hi (by omega), fun i hi => absurd hi (by omega)⟩
  · simp only [List.cons.injEq, and_true] at hc
    subst hc
    simp only [if_true] at hmm
    subst hmm
    have each : ∀ i, ∃ t : Int × Int × Option Addr × Nat × List Int, i < len → W.cell? ((a.add (i * 3)).add 0) = some (.int .i64 t.1) ∧ W.cell? ((a.add (i * 3)).add 1) = some (.int .i64 t.2.1) ∧ W.cell? ((a.add (i * 3)).add 2) = some (.slice t.2.2.1 t.2.2.2.2.length t.2.2.2.1) ∧
      (0 < t.2.2.2.2.length → ∃ b o, t.2.2.1 = some ⟨b, o, none⟩ ∧ ∀ j z, t.2.2.2.2[j]? = some z → W.cell? ⟨b, o + j, none⟩ = some (.int .i64 z)) ∧ ∀ z ∈ t.2.2.2.2, -9223372036854775808 ≤ z ∧ z < 9223372036854775808 := fun i => by
      by_cases hi : i < len
      · obtain ⟨cs', h1, h2⟩ := hall i (by omega)
        rw [kells26] at h1
        obtain ⟨t, ht⟩ := open_worker h1 h2
        exact ⟨t, fun _ => ht⟩
      · exact ⟨(0, 0, none, 0, []), fun h => absurd h hi⟩
    obtain ⟨T, hT⟩ := Classical.skolem.1 each
    refine ⟨some a, len, _, fun i => (T i).1, fun i => (T i).2.1, fun i => (T i).2.2.1, fun i => (T i).2.2.2.1, fun i => (T i).2.2.2.2, rfl, fun h0 => ?_, fun i hi h => (hT i hi).2.2.2.1 h, fun i hi => (hT i hi).2.2.2.2⟩
    have hp : a.spot = none := by
      have h1 := (hT 0 h0).1
      have e : a.add (0 * 3) = a := by simp [Addr.add]
      rw [e] at h1
      exact addr_plain h1
    obtain ⟨b, o, sp⟩ := a
    simp only at hp
    subst hp
    refine ⟨b, o, rfl, fun i hi => ?_⟩
    obtain ⟨t1, t2, t3, _⟩ := hT i hi
    simp only [plain_add, Nat.add_zero] at t1 t2 t3
    exact ⟨t1, t2, t3⟩

theorem open_ren {fuel : Nat} {v : Value} {x : DataW H × List MemPlace} (h : DataW.trod enc Yba.prog W 0 (fun _ => true) true fuel 23 [v] = some x) :
    ∃ ra rl rc, v = .slice ra rl rc ∧ Ren W ra rl ∧ rl ≤ maxLen := by
  rcases open_slice Yba.underlying23 h with ⟨hc, _⟩ | ⟨a, len, cap, m, n, D, Pl, hc, _, hl, hm, hmm, _, hall⟩
  · simp only [List.cons.injEq, and_true] at hc
    subst hc
    exact ⟨none, 0, 0, rfl, fun h => absurd h (by omega), Nat.zero_le _⟩
  · simp only [List.cons.injEq, and_true] at hc
    subst hc
    simp only [if_true] at hmm
    subst hmm
    have each : ∀ i, i < len → ∃ (d : Int) (s t : ByteArray), W.cell? ((a.add (i * 3)).add 0) = some (.int .u32 d) ∧ W.cell? ((a.add (i * 3)).add 1) = some (.string s) ∧ W.cell? ((a.add (i * 3)).add 2) = some (.string t) := fun i hi => by
      obtain ⟨cs', h1, h2⟩ := hall i (by omega)
      rw [kells103] at h1
      obtain ⟨v0, v1, v2, rfl, e0, e1, e2⟩ := cells3 h1
      obtain ⟨y0, y1, y2, m, _, _, g0, g1, g2⟩ := trod_struct3 Yba.underlying103 h2
      simp only [kells54, kells9, List.drop_zero, List.take_succ_cons, List.take_zero, List.drop_succ_cons] at g0 g1 g2
      obtain ⟨k0, c0, _, _⟩ := DataW.trod_int Yba.underlying54 g0
      obtain ⟨s1, c1, _, _⟩ := DataW.trod_string Yba.underlying9 g1
      obtain ⟨s2, c2, _, _⟩ := DataW.trod_string Yba.underlying9 g2
      simp only [List.cons.injEq, and_true] at c0 c1 c2
      subst c0; subst c1; subst c2
      exact ⟨k0, s1, s2, e0, e1, e2⟩
    refine ⟨some a, len, _, rfl, fun h0 => ?_, by omega⟩
    have hp : a.spot = none := by
      obtain ⟨_, _, _, h1, _⟩ := each 0 h0
      have e : a.add (0 * 3) = a := by simp [Addr.add]
      rw [e] at h1
      exact addr_plain h1
    obtain ⟨b, o, sp⟩ := a
    simp only at hp
    subst hp
    refine ⟨b, o, rfl, fun i hi => ?_⟩
    obtain ⟨d, s, t, t1, t2, t3⟩ := each i hi
    simp only [plain_add, Nat.add_zero] at t1 t2 t3
    exact ⟨d, s, t, t1, t2, t3⟩
end Go.Proofs.Ybulksgi
