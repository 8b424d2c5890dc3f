import Derived.Test.YbulksgiFmtRead
import Derived.LaidEql
/-! readFull. -/
namespace Go.Proofs.YbulksgiFmt
open Go.RowKit Go.Stop

/-- What the walks are told of the data behind the reader: none of it, or a row. -/
def Data (w : World) (R G : Nat) (dp : Option Addr) (dn dc : Nat) (l : List UInt8) : Prop :=
  l.length = dn ∧ (0 < dn → ∃ D, dp = some ⟨D, 0, none⟩ ∧ dn ≤ dc ∧ D ≠ R ∧ D ≠ G ∧ At w D 0 l)

theorem comp47 : (Ybaf.prog.info? 47).map (·.comparable) = some true := by kernel_rfl
theorem size49 : (Ybaf.prog.info? 49).map (·.size) = some 1 := by kernel_rfl
theorem method23 (a : Addr) (w : World) : (method 172 23 (.pointer (some a)) "ReadAt").run Ybaf.prog w = .ok (25, .pointer (some a)) w := by kernel_rfl

theorem read25 (R G : Nat) (dp : Option Addr) (dn dc off N pc n M : Nat) (l : List UInt8) (cur : List Value) (E : Value) (w : World) (hoff : off ≤ 2000) (hdn : dn ≤ 1024) (hM : M = min (dn - off) N) (hRG : R ≠ G) (hN : N ≤ n) (hN2 : N ≤ 255)
    (hR : w.heap[R]? = some (.cells #[.slice dp dn dc, .int .i64 0, .slice none 0 0] 26 (0, 0))) (hn : cur.length = n) (hG : w.heap[G]? = some (.cells cur.toArray 5 (0, 0))) (hR0 : 0 < R) (hG0 : 0 < G) (hE : w.cell? ⟨0, 0, none⟩ = some E) (hD : Data w R G dp dn dc l) :
    Calls Ybaf.prog 25 #[.pointer (some ⟨R, 0, none⟩), .slice (some ⟨G, 0, none⟩) N pc, .int .i64 off] w fun e w' => ∃ r, e = .returned (.tuple #[.int .i64 M, r]) ∧ (M < N → r = E) ∧ Did R G (.slice dp dn dc) off n ((l.drop off).take N) w w' := by
  by_cases h : off < dn
  · obtain ⟨D, rfl, hdc, h1, h2, hat⟩ := hD.2 (by omega)
    exact (read25_in R G D dn dc off N pc n M l cur E w hoff hdn h hM hdc hRG h1 h2 hD.1 hN hN2 hR hn hG hR0 hG0 hE hat).mono fun e w' ⟨he, hd⟩ => ⟨_, he, fun h => if_pos h, hd⟩
  · have hM0 : M = 0 := by omega
    have hl : (l.drop off).take N = [] := by rw [List.drop_of_length_le (by rw [hD.1]; omega)]; simp
    rw [hl, hM0]
    exact (read25_out R G dp dn dc off N pc n cur E w hoff hdn (by omega) hRG hR hn hG hR0 hG0 hE).mono fun e w' ⟨he, hd⟩ => ⟨_, he, fun _ => rfl, hd⟩

set_option maxHeartbeats 2000000 in
set_option maxRecDepth 100000 in
theorem full6 (R G : Nat) (dp : Option Addr) (dn dc off N pc n : Nat) (l : List UInt8) (cur : List Value) (E : Value) (w : World) (hoff : off ≤ 2000) (hdn : dn ≤ 1024) (hfull : N = 0 ∨ off + N ≤ dn) (hRG : R ≠ G) (hN : N ≤ n) (hN2 : N ≤ 255)
    (hR : w.heap[R]? = some (.cells #[.slice dp dn dc, .int .i64 0, .slice none 0 0] 26 (0, 0))) (hn : cur.length = n) (hG : w.heap[G]? = some (.cells cur.toArray 5 (0, 0))) (hR0 : 0 < R) (hG0 : 0 < G) (hE : w.cell? ⟨0, 0, none⟩ = some E) (hD : Data w R G dp dn dc l) :
    Calls Ybaf.prog 6 #[.iface 23 (.pointer (some ⟨R, 0, none⟩)), .slice (some ⟨G, 0, none⟩) N pc, .int .i64 off] w fun e w' => e = .returned .nilIface ∧ Did R G (.slice dp dn dc) off n ((l.drop off).take N) w w' := by
  have C := read25 R G dp dn dc off N pc n N l cur E w hoff hdn (by omega) hRG hN hN2 hR hn hG hR0 hG0 hE hD
  clear hR hG hD hE
  have hm := method23
  go_enter Ybaf.func6, Ybaf.ntmps6
  go_wp2_with fail
  refine C.mono ?_
  rintro e w1 ⟨r, rfl, -, D1⟩
  clear C
  have D1' : Hid (Did R G (.slice dp dn dc) off n ((l.drop off).take N) w w1) := D1
  clear D1
  go_wp2
  go_ret
  exact ⟨rfl, D1'.out⟩

set_option maxHeartbeats 2000000 in
set_option maxRecDepth 100000 in
theorem full6_err (F : Interp) (R G : Nat) (dp : Option Addr) (dn dc off N pc n : Nat) (l : List UInt8) (cur : List Value) (aE aU : Addr) (sU : ByteArray) (w : World) (hoff : off ≤ 2000) (hdn : dn ≤ 1024) (hN0 : 0 < N) (herr : dn < off + N) (hRG : R ≠ G) (hN : N ≤ n) (hN2 : N ≤ 255)
    (hR : w.heap[R]? = some (.cells #[.slice dp dn dc, .int .i64 0, .slice none 0 0] 26 (0, 0))) (hn : cur.length = n) (hG : w.heap[G]? = some (.cells cur.toArray 5 (0, 0))) (hR0 : 1 < R) (hG0 : 1 < G) (hD : Data w R G dp dn dc l)
    (hF : F.answers w.tape) (hE : w.cell? ⟨0, 0, none⟩ = some (.iface 47 (.pointer (some aE)))) (hU : w.cell? ⟨1, 0, none⟩ = some (.iface 47 (.pointer (some aU)))) (hs : ∀ W, But R G w W → W.cell? aU = some (.string sU)) :
    Calls Ybaf.prog 6 #[.iface 23 (.pointer (some ⟨R, 0, none⟩)), .slice (some ⟨G, 0, none⟩) N pc, .int .i64 off] w fun e w' => ∃ b, e = .returned (.iface 46 (.pointer (some b))) ∧ Did R G (.slice dp dn dc) off n ((l.drop off).take N) w w' := by
  obtain ⟨M, hM⟩ : ∃ M, M = min (dn - off) N := ⟨_, rfl⟩
  have C := read25 R G dp dn dc off N pc n M l cur _ w hoff hdn hM hRG hN hN2 hR hn hG (by omega) (by omega) hE hD
  have hMN : M < N := by omega
  have HE : Hid (w.cell? ⟨0, 0, none⟩ = some (.iface 47 (.pointer (some aE)))) := hE
  have HU : Hid (w.cell? ⟨1, 0, none⟩ = some (.iface 47 (.pointer (some aU)))) := hU
  have HS : Hid (∀ W, But R G w W → W.cell? aU = some (.string sU)) := hs
  obtain ⟨i1, hi1, hcomp⟩ := Option.map_eq_some_iff.1 comp47
  obtain ⟨j1, hj1, _⟩ := Option.map_eq_some_iff.1 size49
  have heq : ∀ W, (binOp .eql 33 (.iface 47 (.pointer (some aE))) (.iface 47 (.pointer (some aE)))).run Ybaf.prog W = .ok (.bool true) W := fun W => run_eql_iface_ptr_same W aE Ybaf.underlying33 Ybaf.underlying47 hi1 hcomp hj1
  clear hR hG hD hE hU hs hi1 hj1 hcomp hM
  have hm := method23
  have hne : ((M : Int) == (N : Int)) = false := by simp; omega
  go_enter Ybaf.func6, Ybaf.ntmps6
  go_wp2_with fail
  refine C.mono ?_
  rintro e w1 ⟨r, rfl, hr, D1⟩
  obtain rfl := hr hMN
  clear C hr
  have D1' : Hid (Did R G (.slice dp dn dc) off n ((l.drop off).take N) w w1) := D1
  have e1 : w1.cell? ⟨0, 0, none⟩ = some (.iface 47 (.pointer (some aE))) := D1.but.cell HE.out (by omega) (by omega)
  have u1 : w1.cell? ⟨1, 0, none⟩ = some (.iface 47 (.pointer (some aU))) := D1.but.cell HU.out (by omega) (by omega)
  have hF1 : Hid (F.answers w1.tape) := show F.answers w1.tape by rw [D1.but.tape]; exact hF
  clear D1
  go_wp2_with fail
  refine (errorf7 F N off aU sU w1.heap.size (w1.alloc (.cells #[.iface 3 (.int .i64 N), .iface 2 (.int .i64 off), .iface 47 (.pointer (some aU))] 20)) hF1.out (by simp) (by simp) (by simp) (HS.out _ (D1'.out.but.trans (But.of_below ((Below.refl _ _).alloc (Nat.le_refl _) _))))).mono ?_
  rintro e w2 ⟨b, rfl, n2⟩
  have D2 : Hid (Did R G (.slice dp dn dc) off n ((l.drop off).take N) w w2) := D1'.out.later (((Below.refl _ _).alloc (Nat.le_refl _) _).trans (n2.mono (by simp)))
  clear n2 D1' e1 u1
  go_wp2
  go_ret
  exact ⟨b, rfl, D2.out⟩

end Go.Proofs.YbulksgiFmt
