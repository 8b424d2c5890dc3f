import Derived.Test.YbulksgiDec
import Derived.Deep.RegionHeld3
import Derived.Deep.AppendLies
import Derived.Deep.DrawnRows
import Derived.Deep.Upon
import Derived.Lib.SliceRun
import Derived.Deep.QuietTactic
import Derived.BigQuiet
import Derived.LaidEqlPtr
/-! The plain data: problems as cells; the workers' 1,824 cells behind names. -/
namespace Go.Proofs.Ybulksgi
open Go.RowKit

/-- A file's number as 64 bits. -/
def fN (f : Int) : Nat := (f % 18446744073709551616).toNat
theorem fN_wrap (f : Int) : IntKind.u64.wrap f = (fN f : Int) := by
  simp [IntKind.wrap, IntKind.signed, IntKind.bits, fN]; omega
theorem fN_lt (f : Int) : fN f < 18446744073709551616 := by unfold fN; omega
theorem fN_back (f : Int) (h1 : -9223372036854775808 ≤ f) (h2 : f < 9223372036854775808) : IntKind.i64.wrap (fN f : Int) = f := by
  unfold fN
  simp [IntKind.wrap, IntKind.signed, IntKind.bits]
  split <;> omega

/-- A Problem's twenty cells; a fileProblem's twenty-one. -/
def pr (x : Int × Nat) : List Value := [.int .i64 0, .string ⟨#[]⟩] ++ kb (fN x.1) x.2 ++ [.int .u64 0, .string ⟨#[]⟩]
def en (x : Int × Nat) : List Value := .int .i64 x.1 :: pr x
theorem pr_length (x : Int × Nat) : (pr x).length = 20 := by simp [pr, kb_length]
theorem en_length (x : Int × Nat) : (en x).length = 21 := by simp [en, pr_length]
theorem pr_one (x : Int × Nat) : ∀ v ∈ pr x, v.oneCell' = true := by
  intro v hv
  simp only [pr, List.mem_append, List.mem_cons, List.not_mem_nil, or_false] at hv
  rcases hv with ((rfl | rfl) | hv) | (rfl | rfl)
  · rfl
  · rfl
  · exact kb_one _ _ v hv
  · rfl
  · rfl
theorem en_one (x : Int × Nat) : ∀ v ∈ en x, v.oneCell' = true := by
  intro v hv
  rcases List.mem_cons.1 hv with rfl | hv
  · rfl
  · exact pr_one x v hv

/-- The files, each with its place. -/
def tag : Nat → List Int → List (Int × Nat)
  | _, [] => []
  | s, f :: r => (f, s) :: tag (s + 1) r
theorem tag_append : ∀ (a b : List Int) (s : Nat), tag s (a ++ b) = tag s a ++ tag (s + a.length) b
  | [], b, s => by simp [tag]
  | f :: r, b, s => by simp [tag, tag_append r b (s + 1)]; congr 1; omega
theorem tag_length : ∀ (a : List Int) (s : Nat), (tag s a).length = a.length
  | [], _ => rfl
  | f :: r, s => by simp [tag, tag_length r]
theorem tag_get : ∀ (a : List Int) (s i : Nat), (tag s a)[i]? = a[i]?.map fun f => (f, s + i)
  | [], _, i => by simp [tag]
  | f :: r, s, 0 => by simp [tag]
  | f :: r, s, i + 1 => by simp [tag, tag_get r (s + 1) i]; congr 1; funext; congr 1; omega

/-- The cells of the j-th of equally long pieces. -/
theorem flat_get {α : Type} (enc : α → List Value) (k : Nat) (hk : ∀ x, (enc x).length = k) : ∀ (xs : List α) (j i : Nat), i < k → (xs.flatMap enc)[j * k + i]? = xs[j]?.bind fun x => (enc x)[i]?
  | [], j, i, _ => by simp
  | x :: r, 0, i, hi => by
    rw [List.flatMap_cons, List.getElem?_append_left (by rw [hk]; omega)]; simp
  | x :: r, j + 1, i, hi => by
    rw [List.flatMap_cons, List.getElem?_append_right (by rw [hk, Nat.succ_mul]; omega), hk, show (j + 1) * k + i - k = j * k + i by rw [Nat.succ_mul]; omega, flat_get enc k hk r j i hi]
    simp
theorem flat_length {α : Type} (enc : α → List Value) (k : Nat) (hk : ∀ x, (enc x).length = k) : ∀ (xs : List α), (xs.flatMap enc).length = xs.length * k
  | [] => by simp
  | x :: r => by rw [List.flatMap_cons, List.length_append, hk, flat_length enc k hk r, List.length_cons, Nat.succ_mul]; omega

/-! The workers. -/
theorem info86 : (Yba.prog.info? 86).map (fun i => (i.size, i.bytes)) = some (1824, 7496) := by kernel_rfl
def zc (v : Option Value) : List Value := match v with | some (.agg c) => c.toList | _ => []
theorem zero86a : (Yba.prog.info? 86).map (fun i => (zc i.zero).length) = some 1824 := by kernel_rfl
theorem zero86b : (Yba.prog.info? 86).map (fun i => ((zc i.zero).drop 1819).take 3) = some [.int .i64 0, .int .i64 0, .slice none 0 0] := by kernel_rfl
theorem zero86c : (Yba.prog.info? 86).map (fun i => (zc i.zero).all (·.oneCell')) = some true := by kernel_rfl

/-- What the walks need of extractWorker's row in the table. -/
structure Wk (i : TypeInfo) (c : Array Value) : Prop where
  info : Yba.prog.info? 86 = some i
  zero : i.zero = some (.agg c)
  size : i.size = 1824
  bytes : i.bytes = 7496
  csize : c.size = 1824
  c19 : c[1819]? = some (.int .i64 0)
  c20 : c[1820]? = some (.int .i64 0)
  c21 : c[1821]? = some (.slice none 0 0)
  one : c.all (·.oneCell') = true

theorem wk : ∃ i c, Wk i c := by
  have h1 := info86
  have ha := zero86a
  have hb := zero86b
  have hc := zero86c
  cases hq : Yba.prog.info? 86 with
  | none => rw [hq] at h1; cases h1
  | some i =>
    rw [hq] at h1 ha hb hc
    simp only [Option.map_some, Option.some.injEq, Prod.mk.injEq] at h1 ha hb hc
    have hz : ∃ c, i.zero = some (.agg c) := by
      cases hz : i.zero with
      | none => simp [hz, zc] at ha
      | some v => cases v <;> simp [hz, zc] at ha ⊢
    obtain ⟨c, hz⟩ := hz
    rw [hz] at ha hb hc
    simp only [zc] at ha hb hc
    have get : ∀ j, j < 3 → c[1819 + j]? = ((c.toList.drop 1819).take 3)[j]? := fun j hj => by
      rw [List.getElem?_take_of_lt hj, List.getElem?_drop]; simp
    refine ⟨i, c, hq, hz, h1.1, h1.2, by simpa using ha, ?_, ?_, ?_, ?_⟩
    · rw [get 0 (by omega), hb]; rfl
    · rw [get 1 (by omega), hb]; rfl
    · rw [get 2 (by omega), hb]; rfl
    · rw [Array.all_toList] at hc; exact hc

theorem Wk.zeroValue {i : TypeInfo} {c : Array Value} (h : Wk i c) (w : World) : (zeroValue 86).run Yba.prog w = .ok (.agg c) w := by
  simp [Go.zeroValue, typeInfo, h.info, h.zero]
end Go.Proofs.Ybulksgi
