/-
  Seat Qxb6609425aDoor: toTxn.
-/
import Derived.Test.Qxb6609425aDoorEnc8
import Derived.Test.Qxb6609425aDoorBytes
import Derived.Deep.DeepCutAuto
import Derived.BigRegion
import Derived.Laws.Cover3
namespace Go.Proofs.Qxb6609425aDoor
open Go.RowKit
set_option linter.unusedVariables false
set_option linter.unusedSimpArgs false

theorem run_makeA (n : Nat) (h : n ≤ 1048576) (w : World) : (Instr.makeSlice 36 (.int .i64 (n : Int)) (.int .i64 (n : Int))).run Tryd.prog w = .ok (.slice (some ⟨w.heap.size, 0, none⟩) n n) (w.alloc (.cells (aclZeros n) 64)) := by
  obtain ⟨i, hi, hz0, hz1, hz2⟩ := info_parts info64
  have := run_make (P := Tryd.prog) w 36 64 i (.agg #[.int .i32 0, .string ⟨#[]⟩, .string ⟨#[]⟩]) Tryd.underlying36 hi hz0 .i64 .i64 (n : Int) (n : Int) (by omega) (by omega) (by rw [hz2]; omega) (by omega)
  rw [hz1] at this
  simp only [Int.toNat_natCast] at this
  exact this

/-- The access list is being copied: k entries are there. -/
structure FillA (w1 wr : World) (g : Nat) (l : List Acl) (k : Nat) : Prop where
  below : Below w1.heap.size w1 wr
  row : ∃ arr : Array Value, wr.heap[g]? = some (.cells arr 64) ∧ arr.size = l.length * 3 ∧ ∀ i, i < k → arr[i * 3]? = some (.int .i32 (l.getD i default).perms) ∧ arr[i * 3 + 1]? = some (.string (l.getD i default).scheme) ∧ arr[i * 3 + 2]? = some (.string (l.getD i default).id)

theorem FillA.start (w1 : World) (l : List Acl) : FillA w1 (w1.alloc (.cells (aclZeros l.length) 64)) w1.heap.size l 0 :=
  ⟨(Below.refl _ _).alloc (Nat.le_refl _) _, aclZeros l.length, heap_new _ _, size_madeCells _ _, fun i hi => absurd hi (Nat.not_lt_zero _)⟩

theorem FillA.next {w1 wr : World} {g : Nat} {l : List Acl} {k : Nat} (I : FillA w1 wr g l k) (hg : w1.heap.size ≤ g) (hk : k < l.length) (n : Nat) :
    FillA w1 (((((wr.drewN n).setCell ⟨g, k * 3, none⟩ (.int .i32 (l.getD k default).perms)).setCell ⟨g, k * 3 + 1, none⟩ (.string (l.getD k default).scheme)).setCell ⟨g, k * 3 + 2, none⟩ (.string (l.getD k default).id))) g l (k + 1) := by
  obtain ⟨hb, arr, h1, h2, h3⟩ := I
  have h1' : (wr.drewN n).heap[g]? = some (.cells arr 64) := h1
  refine ⟨(((below_drewN hb n).setCell hg _).setCell hg _).setCell hg _, _, heap_set (heap_set (heap_set h1' _ _) _ _) _ _, by simp [h2], fun i hi => ?_⟩
  have hs : k * 3 + 2 < arr.size := by omega
  by_cases e : i = k
  · subst e
    refine ⟨?_, ?_, ?_⟩
    · rw [Array.getElem?_setIfInBounds_ne (by omega), Array.getElem?_setIfInBounds_ne (by omega), Array.getElem?_setIfInBounds_self_of_lt (by omega)]
    · rw [Array.getElem?_setIfInBounds_ne (by omega), Array.getElem?_setIfInBounds_self_of_lt (by simp; omega)]
    · rw [Array.getElem?_setIfInBounds_self_of_lt (by simp; omega)]
  · have hi' : i < k := by omega
    obtain ⟨q0, q1, q2⟩ := h3 i hi'
    refine ⟨?_, ?_, ?_⟩
    · rw [Array.getElem?_setIfInBounds_ne (by omega), Array.getElem?_setIfInBounds_ne (by omega), Array.getElem?_setIfInBounds_ne (by omega), q0]
    · rw [Array.getElem?_setIfInBounds_ne (by omega), Array.getElem?_setIfInBounds_ne (by omega), Array.getElem?_setIfInBounds_ne (by omega), q1]
    · rw [Array.getElem?_setIfInBounds_ne (by omega), Array.getElem?_setIfInBounds_ne (by omega), Array.getElem?_setIfInBounds_ne (by omega), q2]

theorem info65 : (Tryd.prog.info? 65).map (fun i => (i.zero, i.size, i.bytes)) = some (some (.agg #[.string ⟨#[]⟩, .string ⟨#[]⟩]), 2, 32) := by kernel_rfl
def askZeros (n : Nat) : Array Value := madeCells #[.string ⟨#[]⟩, .string ⟨#[]⟩] (n * 2)
theorem run_makeK (n : Nat) (h : n ≤ 1048576) (w : World) : (Instr.makeSlice 38 (.int .i64 (n : Int)) (.int .i64 (n : Int))).run Tryd.prog w = .ok (.slice (some ⟨w.heap.size, 0, none⟩) n n) (w.alloc (.cells (askZeros n) 65)) := by
  obtain ⟨i, hi, hz0, hz1, hz2⟩ := info_parts info65
  have := run_make (P := Tryd.prog) w 38 65 i (.agg #[.string ⟨#[]⟩, .string ⟨#[]⟩]) Tryd.underlying38 hi hz0 .i64 .i64 (n : Int) (n : Int) (by omega) (by omega) (by rw [hz2]; omega) (by omega)
  rw [hz1] at this
  simp only [Int.toNat_natCast] at this
  exact this

/-- The askers are being copied. -/
structure FillK (w1 wr : World) (g n : Nat) : Prop where
  below : Below w1.heap.size w1 wr
  row : ∃ arr : Array Value, wr.heap[g]? = some (.cells arr 65) ∧ arr.size = n * 2
theorem FillK.start (w1 : World) (n : Nat) : FillK w1 (w1.alloc (.cells (askZeros n) 65)) w1.heap.size n :=
  ⟨(Below.refl _ _).alloc (Nat.le_refl _) _, askZeros n, heap_new _ _, size_madeCells _ _⟩
theorem FillK.next {w1 wr : World} {g n : Nat} (I : FillK w1 wr g n) (hg : w1.heap.size ≤ g) (d o o' : Nat) (v v' : Value) : FillK w1 (((wr.drewN d).setCell ⟨g, o, none⟩ v).setCell ⟨g, o', none⟩ v') g n := by
  obtain ⟨hb, arr, h1, h2⟩ := I
  have h1' : (wr.drewN d).heap[g]? = some (.cells arr 65) := h1
  exact ⟨((below_drewN hb d).setCell hg _).setCell hg _, _, heap_set (heap_set h1' _ _) _ _, by simp [h2]⟩
theorem FillK.spot {w1 wr : World} {g n : Nat} (I : FillK w1 wr g n) (j : Nat) (hj : j < n * 2) : (∃ v, wr.cell? ⟨g, j, none⟩ = some v) ∧ wr.frozen? ⟨g, j, none⟩ = false := by
  obtain ⟨_, arr, h1, h2⟩ := I
  exact ⟨⟨arr[j]'(by omega), cell_in h1 j _ (Array.getElem?_eq_getElem (by omega))⟩, by simp [World.frozen?, h1]⟩

end Go.Proofs.Qxb6609425aDoor
