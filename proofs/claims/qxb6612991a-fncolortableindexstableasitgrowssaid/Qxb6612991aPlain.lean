/-
  Seat Qxb6612991a: the plain law of the colour table: linear probing over 1024 slots, at most 256 colours. No Go here.
-/
import Derived.Below
namespace Go.Proofs.Qxb6612991a

/-- how many of the first m slots are taken. -/
def nz (sl : Nat → Nat) : Nat → Nat
  | 0 => 0
  | m + 1 => nz sl m + if sl m = 0 then 0 else 1

theorem nz_free (sl : Nat → Nat) : ∀ m, nz sl m < m → ∃ f, f < m ∧ sl f = 0
  | 0, h => by omega
  | m + 1, h => by
    by_cases e : sl m = 0
    · exact ⟨m, by omega, e⟩
    · obtain ⟨f, h1, h2⟩ := nz_free sl m (by simp [nz, e] at h; omega)
      exact ⟨f, by omega, h2⟩

def put (sl : Nat → Nat) (r v : Nat) : Nat → Nat := fun s => if s = r then v else sl s

theorem put_same (sl : Nat → Nat) (r v : Nat) : put sl r v r = v := by simp [put]
theorem put_other (sl : Nat → Nat) {r s : Nat} (v : Nat) (h : s ≠ r) : put sl r v s = sl s := by simp [put, h]

theorem nz_put (sl : Nat → Nat) (r v : Nat) : ∀ m, nz (put sl r v) m ≤ nz sl m + if r < m then 1 else 0
  | 0 => by simp [nz]
  | m + 1 => by
    have ih := nz_put sl r v m
    unfold nz
    by_cases e : m = r
    · subst e
      have h1 : ¬ m < m := by omega
      have h2 : m < m + 1 := by omega
      rw [if_neg h1] at ih
      rw [if_pos h2]
      split <;> omega
    · rw [put_other sl v e]
      by_cases h : r < m
      · have h' : r < m + 1 := by omega
        simp only [h, h', if_true] at ih ⊢
        omega
      · have h' : ¬ r < m + 1 := by omega
        simp only [h, h', if_false] at ih ⊢
        omega

/-- THE TABLE: the colours in the order of their adding; sl s: 0 where slot s is free, else a colour's index and one. -/
structure Tab (hash : Int → Nat) (cols : List Int) (sl : Nat → Nat) : Prop where
  le : ∀ s, s < 1024 → sl s ≤ cols.length
  at' : ∀ i, i < cols.length → ∃ k, sl ((hash (cols.getD i 0) + k) % 1024) = i + 1 ∧ ∀ j, j < k → sl ((hash (cols.getD i 0) + j) % 1024) ≠ 0
  nodup : ∀ i j, i < cols.length → j < cols.length → cols.getD i 0 = cols.getD j 0 → i = j
  few : nz sl 1024 ≤ cols.length

theorem Tab.empty (hash : Int → Nat) : Tab hash [] (fun _ => 0) := by
  refine ⟨fun s _ => by simp, fun i h => by simp at h, fun i j h => by simp at h, ?_⟩
  have : ∀ m, nz (fun _ => 0) m = 0 := fun m => by
    induction m with
    | zero => rfl
    | succ m ih => simp [nz, ih]
  rw [this]
  simp

/-- The first k probes for p have met other colours. -/
def Probed (cols : List Int) (sl : Nat → Nat) (p : Int) (h k : Nat) : Prop :=
  ∀ j, j < k → sl ((h + j) % 1024) ≠ 0 ∧ cols.getD (sl ((h + j) % 1024) - 1) 0 ≠ p

theorem Probed.zero (cols : List Int) (sl : Nat → Nat) (p : Int) (h : Nat) : Probed cols sl p h 0 := fun j hj => by omega
theorem Probed.next {cols : List Int} {sl : Nat → Nat} {p : Int} {h k : Nat} (H : Probed cols sl p h k) (h1 : sl ((h + k) % 1024) ≠ 0) (h2 : cols.getD (sl ((h + k) % 1024) - 1) 0 ≠ p) : Probed cols sl p h (k + 1) := fun j hj => by
  by_cases e : j = k
  · subst e
    exact ⟨h1, h2⟩
  · exact H j (by omega)

/-- The search ends at slot r. -/
def Ends (cols : List Int) (sl : Nat → Nat) (p : Int) (h r : Nat) : Prop :=
  ∃ k, r = (h + k) % 1024 ∧ Probed cols sl p h k ∧ (sl r = 0 ∨ cols.getD (sl r - 1) 0 = p)

theorem Ends.lt {cols : List Int} {sl : Nat → Nat} {p : Int} {h r : Nat} (E : Ends cols sl p h r) : r < 1024 := by
  obtain ⟨k, rfl, _⟩ := E
  exact Nat.mod_lt _ (by omega)

theorem Tab.hit {hash : Int → Nat} {cols : List Int} {sl : Nat → Nat} (T : Tab hash cols sl) {i r : Nat} (hi : i < cols.length) (E : Ends cols sl (cols.getD i 0) (hash (cols.getD i 0)) r) : sl r = i + 1 := by
  have hr := E.lt
  obtain ⟨k, rfl, P, hs⟩ := E
  obtain ⟨k', h1, h2⟩ := T.at' i hi
  rcases Nat.lt_trichotomy k k' with h | h | h
  · have hz := h2 k h
    rcases hs with hs | hs
    · exact absurd hs hz
    · have := T.nodup (sl ((hash (cols.getD i 0) + k) % 1024) - 1) i (by have := T.le _ hr; omega) hi hs
      omega
  · rw [h]
    exact h1
  · have := (P k' h).2
    rw [h1] at this
    simp at this

theorem Tab.miss {hash : Int → Nat} {cols : List Int} {sl : Nat → Nat} (T : Tab hash cols sl) {p : Int} {r : Nat} (hp : ∀ i, i < cols.length → cols.getD i 0 ≠ p) (E : Ends cols sl p (hash p) r) : sl r = 0 := by
  have hr := E.lt
  obtain ⟨k, rfl, P, hs⟩ := E
  rcases hs with hs | hs
  · exact hs
  · by_cases e : sl ((hash p + k) % 1024) = 0
    · exact e
    · exact absurd hs (hp _ (by have := T.le _ hr; omega))

theorem getD_snoc_lt (cols : List Int) (p : Int) {i : Nat} (h : i < cols.length) : (cols ++ [p]).getD i 0 = cols.getD i 0 := by
  simp [List.getD_eq_getElem?_getD, List.getElem?_append_left h]
theorem getD_snoc_eq (cols : List Int) (p : Int) : (cols ++ [p]).getD cols.length 0 = p := by
  simp [List.getD_eq_getElem?_getD]

theorem Tab.place {hash : Int → Nat} {cols : List Int} {sl : Nat → Nat} (T : Tab hash cols sl) {p : Int} {r : Nat} (hp : ∀ i, i < cols.length → cols.getD i 0 ≠ p) (E : Ends cols sl p (hash p) r) :
    Tab hash (cols ++ [p]) (put sl r (cols.length + 1)) := by
  have hz := T.miss hp E
  have hr := E.lt
  obtain ⟨k, rfl, P, hs⟩ := E
  have keep : ∀ s, sl s ≠ 0 → put sl ((hash p + k) % 1024) (cols.length + 1) s = sl s := fun s h => put_other _ _ (fun e => h (by rw [e]; exact hz))
  refine ⟨fun s hs => ?_, fun i hi => ?_, fun i j hi hj e => ?_, ?_⟩
  · have := T.le s hs
    unfold put
    split <;> simp <;> omega
  · by_cases e : i = cols.length
    · subst e
      rw [getD_snoc_eq]
      exact ⟨k, put_same _ _ _, fun j hj => by rw [keep _ (P j hj).1]; exact (P j hj).1⟩
    · have hi' : i < cols.length := by simp at hi; omega
      rw [getD_snoc_lt cols p hi']
      obtain ⟨k', h1, h2⟩ := T.at' i hi'
      exact ⟨k', by rw [keep _ (by omega)]; exact h1, fun j hj => by rw [keep _ (h2 j hj)]; exact h2 j hj⟩
  · simp at hi hj
    by_cases e1 : i = cols.length
    · by_cases e2 : j = cols.length
      · omega
      · subst e1
        rw [getD_snoc_eq, getD_snoc_lt cols p (by omega)] at e
        exact absurd e.symm (hp j (by omega))
    · by_cases e2 : j = cols.length
      · subst e2
        rw [getD_snoc_eq, getD_snoc_lt cols p (by omega)] at e
        exact absurd e (hp i (by omega))
      · rw [getD_snoc_lt cols p (by omega), getD_snoc_lt cols p (by omega)] at e
        exact T.nodup i j (by omega) (by omega) e
  · have := nz_put sl ((hash p + k) % 1024) (cols.length + 1) 1024
    have := T.few
    rw [if_pos hr] at *
    simp
    omega

/-- Some slot is free. -/
theorem Tab.free {hash : Int → Nat} {cols : List Int} {sl : Nat → Nat} (T : Tab hash cols sl) (h : cols.length < 1024) : ∃ f, f < 1024 ∧ sl f = 0 := nz_free sl 1024 (by have := T.few; omega)

/-- How far it is from slot s on to slot f. -/
def dist (f s : Nat) : Nat := (f + 1024 - s) % 1024
theorem dist_next {f s : Nat} (hf : f < 1024) (hs : s < 1024) (h : s ≠ f) : dist f ((s + 1) % 1024) < dist f s := by
  unfold dist
  omega

end Go.Proofs.Qxb6612991a
