/-
  Seat Qxb6612987a: plain lemmas for FnJoinScriptLeadsAtFirstOccurrence: how often a name has come among the first i, and where first.
-/
import Derived.Test.Qxb6612987aMaps
namespace Go.Proofs.Qxb6612987a

/-- how many of the first i names are k. -/
def cnt (ss : Nat → ByteArray) (k : ByteArray) : Nat → Nat
  | 0 => 0
  | i + 1 => if ss i = k then cnt ss k i + 1 else cnt ss k i

/-- the first place, among the first i, of the name k. -/
def fst1 (ss : Nat → ByteArray) (k : ByteArray) : Nat → Option Nat
  | 0 => none
  | i + 1 => match fst1 ss k i with
    | some j => some j
    | none => if ss i = k then some i else none

theorem cnt_le (ss : Nat → ByteArray) (k : ByteArray) : ∀ i, cnt ss k i ≤ i
  | 0 => Nat.le_refl _
  | i + 1 => by
    have := cnt_le ss k i
    unfold cnt
    split <;> omega

theorem cnt_same (ss : Nat → ByteArray) (i : Nat) : cnt ss (ss i) (i + 1) = cnt ss (ss i) i + 1 := by simp [cnt]
theorem cnt_other (ss : Nat → ByteArray) {k : ByteArray} {i : Nat} (h : k ≠ ss i) : cnt ss k (i + 1) = cnt ss k i := by
  have e : ¬ ss i = k := fun e => h e.symm
  simp [cnt, e]

theorem fst1_none (ss : Nat → ByteArray) (k : ByteArray) : ∀ i, cnt ss k i = 0 → fst1 ss k i = none
  | 0, _ => rfl
  | i + 1, h => by
    by_cases e : ss i = k
    · subst e
      rw [cnt_same] at h
      omega
    · rw [cnt_other ss (fun x => e x.symm)] at h
      unfold fst1
      rw [fst1_none ss k i h]
      simp [e]

theorem fst1_some (ss : Nat → ByteArray) (k : ByteArray) : ∀ i, 0 < cnt ss k i → ∃ j, fst1 ss k i = some j ∧ j < i ∧ ss j = k
  | 0, h => by simp [cnt] at h
  | i + 1, h => by
    by_cases h0 : 0 < cnt ss k i
    · obtain ⟨j, hj, hl, hs⟩ := fst1_some ss k i h0
      refine ⟨j, ?_, by omega, hs⟩
      unfold fst1
      rw [hj]
    · have hz : cnt ss k i = 0 := by omega
      have e : ss i = k := Classical.byContradiction fun e => by
        rw [cnt_other ss (fun x => e x.symm)] at h
        omega
      refine ⟨i, ?_, by omega, e⟩
      unfold fst1
      rw [fst1_none ss k i hz]
      simp [e]

theorem fst1_keep (ss : Nat → ByteArray) (k : ByteArray) (i : Nat) (h : 0 < cnt ss k i) : fst1 ss k (i + 1) = fst1 ss k i := by
  obtain ⟨j, hj, _, _⟩ := fst1_some ss k i h
  rw [hj]
  unfold fst1
  rw [hj]
theorem fst1_other (ss : Nat → ByteArray) {k : ByteArray} {i : Nat} (h : k ≠ ss i) : fst1 ss k (i + 1) = fst1 ss k i := by
  have e : ¬ ss i = k := fun e => h e.symm
  cases hh : fst1 ss k i <;> simp [fst1, hh, e]
theorem fst1_new (ss : Nat → ByteArray) (i : Nat) (h : cnt ss (ss i) i = 0) : fst1 ss (ss i) (i + 1) = some i := by
  unfold fst1
  rw [fst1_none ss _ i h]
  simp

theorem cnt_pos (ss : Nat → ByteArray) : ∀ (n i : Nat), i < n → 0 < cnt ss (ss i) n
  | 0, _, h => by omega
  | n + 1, i, h => by
    by_cases e : i = n
    · subst e
      rw [cnt_same]
      omega
    · have := cnt_pos ss n i (by omega)
      unfold cnt
      split <;> omega

/-! ### the three maps behind i rounds -/
def firstF (ss : Nat → ByteArray) (i : Nat) : ByteArray → Option Value := fun k => (fst1 ss k i).map fun j => .int .i64 (j : Int)
def countF (ss : Nat → ByteArray) (i : Nat) : ByteArray → Option Value := fun k => if cnt ss k i = 0 then none else some (.int .i64 (cnt ss k i : Int))
def listF (ss : Nat → ByteArray) (B : ByteArray → Nat) (i : Nat) : ByteArray → Option Value := fun k => if cnt ss k i = 0 then none else some (.pointer (some ⟨B k, 0, none⟩))

theorem firstF_zero (ss : Nat → ByteArray) : firstF ss 0 = fun _ => none := rfl
theorem countF_zero (ss : Nat → ByteArray) : countF ss 0 = fun _ => none := by funext k; simp [countF, cnt]
theorem listF_zero (ss : Nat → ByteArray) (B : ByteArray → Nat) : listF ss B 0 = fun _ => none := by funext k; simp [listF, cnt]

theorem firstF_new (ss : Nat → ByteArray) (i : Nat) (h : cnt ss (ss i) i = 0) : upd (firstF ss i) (ss i) (.int .i64 (i : Int)) = firstF ss (i + 1) := by
  funext k
  by_cases e : k = ss i
  · subst e
    rw [upd_same]
    simp [firstF, fst1_new ss i h]
  · rw [upd_other _ _ e]
    simp [firstF, fst1_other ss e]
theorem firstF_old (ss : Nat → ByteArray) (i : Nat) (h : 0 < cnt ss (ss i) i) : firstF ss i = firstF ss (i + 1) := by
  funext k
  by_cases e : k = ss i
  · subst e
    simp [firstF, fst1_keep ss (ss i) i h]
  · simp [firstF, fst1_other ss e]
theorem countF_step (ss : Nat → ByteArray) (i : Nat) : upd (countF ss i) (ss i) (.int .i64 ((cnt ss (ss i) i : Int) + 1)) = countF ss (i + 1) := by
  funext k
  by_cases e : k = ss i
  · subst e
    rw [upd_same]
    simp [countF, cnt_same]
  · rw [upd_other _ _ e]
    simp [countF, cnt_other ss e]
theorem countF_get (ss : Nat → ByteArray) (i : Nat) (k : ByteArray) : (countF ss i k).getD (.int .i64 0) = .int .i64 (cnt ss k i : Int) := by
  unfold countF
  split
  · rename_i h
    simp [h]
  · rfl
theorem listF_new (ss : Nat → ByteArray) (B : ByteArray → Nat) (i b : Nat) : upd (listF ss B i) (ss i) (.pointer (some ⟨b, 0, none⟩)) = listF ss (fun k => if k = ss i then b else B k) (i + 1) := by
  funext k
  by_cases e : k = ss i
  · subst e
    rw [upd_same]
    simp [listF, cnt_same]
  · rw [upd_other _ _ e]
    simp [listF, cnt_other ss e, e]
theorem listF_old (ss : Nat → ByteArray) (B : ByteArray → Nat) (i : Nat) (h : 0 < cnt ss (ss i) i) : listF ss B i = listF ss B (i + 1) := by
  funext k
  by_cases e : k = ss i
  · subst e
    simp [listF, cnt_same]
    omega
  · simp [listF, cnt_other ss e]

end Go.Proofs.Qxb6612987a
