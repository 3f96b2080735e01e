/-
  Seat Qxb6612991a: the table and the slice seen, side by side: what holds of the world while both laws run.
-/
import Derived.Test.Qxb6612991aPlace
namespace Go.Proofs.Qxb6612991a
open Go.RowKit
set_option linter.unusedVariables false

/-- The table at tb and the slice vs hold the colours cols; nothing that was there before the call has turned. -/
def St (w w' : World) (tb : Nat) (vs : Value) (cols : List Int) : Prop :=
  ∃ vc sl, TabIs w' tb vc sl ∧ Own w' w.heap.size 37 vc cols ∧ Own w' w.heap.size 26 vs cols ∧ Tab hash cols sl ∧ cols.length ≤ 256 ∧ w.heap.size ≤ tb ∧ Below w.heap.size w w'

theorem St.len {w w' : World} {tb : Nat} {vs : Value} {cols : List Int} (S : St w w' tb vs cols) : cols.length ≤ 256 := by
  obtain ⟨vc, sl, h1, h2, h3, h4, h5, h6⟩ := S
  exact h5
theorem St.below {w w' : World} {tb : Nat} {vs : Value} {cols : List Int} (S : St w w' tb vs cols) : Below w.heap.size w w' := by
  obtain ⟨vc, sl, h1, h2, h3, h4, h5, h6, h7⟩ := S
  exact h7
theorem St.drewN {w w' : World} {tb : Nat} {vs : Value} {cols : List Int} (S : St w w' tb vs cols) (n : Nat) : St w (w'.drewN n) tb vs cols := by
  obtain ⟨vc, sl, h1, h2, h3, h4, h5, h6, h7⟩ := S
  exact ⟨vc, sl, h1, h2, h3, h4, h5, h6, h7.os, h7.tape, h7.output, h7.size, h7.block⟩

theorem St.start {w : World} {o : Obj} (h : TabObj o (.slice none 0 0) (fun _ => 0)) : St w (w.alloc o) w.heap.size (.slice none 0 0) [] :=
  ⟨_, _, ⟨o, (MapKept.heap_alloc w o).1, h⟩, Own.nil _ _ _, Own.nil _ _ _, Tab.empty _, by simp, Nat.le_refl _, (Below.refl _ _).alloc (Nat.le_refl _) _⟩

theorem St.agrees {w w' : World} {tb : Nat} {vs : Value} {cols : List Int} (S : St w w' tb vs cols) (p : Int) :
    Calls Try.prog 10 #[.pointer (some ⟨tb, 0, none⟩), vs, .int .u64 p] w' fun e w'' => e = .returned (.bool true) ∧ St w w'' tb vs cols := by
  have S' := S
  obtain ⟨vc, sl, h1, h2, h3, h4, h5, h6, h7⟩ := S
  refine (agrees_any h1 h2.row h3.row h4 h5 p).mono ?_
  rintro e w'' ⟨rfl, n, rfl⟩
  exact ⟨rfl, S'.drewN n⟩

theorem St.first_hit {w w' : World} {tb : Nat} {vs : Value} {cols : List Int} (S : St w w' tb vs cols) (p : Int) (i : Nat) (hi : i < cols.length) (hp : cols.getD i 0 = p) :
    Calls Try.prog 7 #[vs, .int .u64 p] w' fun e w'' => e = .returned (.int .i64 (i : Int)) ∧ w' = w'' := by
  obtain ⟨vc, sl, h1, h2, h3, h4, h5, h6, h7⟩ := S
  refine Qxb6612991a.first_hit h3.row (by omega) p i hi hp (fun j hj e => ?_)
  have := h4.nodup j i (by omega) hi (by rw [e, hp])
  omega
theorem St.first_miss {w w' : World} {tb : Nat} {vs : Value} {cols : List Int} (S : St w w' tb vs cols) (p : Int) (hp : ∀ i, i < cols.length → cols.getD i 0 ≠ p) :
    Calls Try.prog 7 #[vs, .int .u64 p] w' fun e w'' => e = .returned (.int .i64 (-1)) ∧ w' = w'' := by
  obtain ⟨vc, sl, h1, h2, h3, h4, h5, h6, h7⟩ := S
  exact Qxb6612991a.first_miss h3.row (by omega) p hp

/-- A free slot for p, found. -/
def Found (w w' : World) (tb : Nat) (vs : Value) (cols : List Int) (p : Int) (r : Nat) : Prop :=
  ∃ vc sl, TabIs w' tb vc sl ∧ Own w' w.heap.size 37 vc cols ∧ Own w' w.heap.size 26 vs cols ∧ Tab hash cols sl ∧ cols.length ≤ 256 ∧ w.heap.size ≤ tb ∧ Below w.heap.size w w' ∧ Ends cols sl p (hash p) r

theorem St.slot {w w' : World} {tb : Nat} {vs : Value} {cols : List Int} (S : St w w' tb vs cols) (p : Int) :
    Calls Try.prog 9 #[.pointer (some ⟨tb, 0, none⟩), .int .u64 p] w' fun e w'' => ∃ r : Nat, e = .returned (.int .i64 (r : Int)) ∧ Found w w'' tb vs cols p r := by
  have S' := S
  obtain ⟨vc, sl, h1, h2, h3, h4, h5, h6, h7⟩ := S
  refine (zzslot_any h1 h2.row h4 h5 p).mono ?_
  rintro e w'' ⟨r, rfl, E, n, rfl⟩
  exact ⟨r, rfl, vc, sl, h1, h2, h3, h4, h5, h6, ⟨h7.os, h7.tape, h7.output, h7.size, h7.block⟩, E⟩

/-- Placed in the table, not yet in the slice. -/
def Half (w w' : World) (tb : Nat) (vs : Value) (cols : List Int) (p : Int) : Prop :=
  ∃ vc sl, TabIs w' tb vc sl ∧ Own w' w.heap.size 37 vc (cols ++ [p]) ∧ Own w' w.heap.size 26 vs cols ∧ Tab hash (cols ++ [p]) sl ∧ cols.length < 256 ∧ w.heap.size ≤ tb ∧ Below w.heap.size w w'

theorem Found.place {w w' : World} {tb : Nat} {vs : Value} {cols : List Int} {p : Int} {r : Nat} (S : Found w w' tb vs cols p r) (hl : cols.length < 256) (hp : ∀ i, i < cols.length → cols.getD i 0 ≠ p) :
    Calls Try.prog 8 #[.pointer (some ⟨tb, 0, none⟩), .int .i64 (r : Int), .int .u64 p] w' fun e w'' => e = .returned (.tuple #[]) ∧ Half w w'' tb vs cols p := by
  obtain ⟨vc, sl, h1, h2, h3, h4, h5, h6, h7, E⟩ := S
  refine (place_any h1 h2 h7.size hl r E.lt p).mono ?_
  rintro e w'' ⟨rfl, vc', t1, t2, K⟩
  refine ⟨rfl, vc', _, t1, t2, ?_, h4.place hp E, hl, h6, ?_⟩
  · obtain ⟨hL, hR⟩ := h3
    refine ⟨hL, ?_⟩
    rcases hR with hR | ⟨g, cap, cur, e1, e2, e3, e4⟩
    · exact .inl hR
    · refine .inr ⟨g, cap, cur, e1, e2, ?_, e4⟩
      have hgl : g < w'.heap.size := (Array.getElem?_eq_some_iff.1 e3).1
      rw [K.block g hgl ?_ ?_]
      · exact e3
      · intro e
        obtain ⟨c, hc⟩ := h1.obj
        rw [e, hc] at e3
        simp at e3
      · intro e
        obtain ⟨_, c, hc⟩ := h2.obj e.symm
        rw [hc] at e3
        simp at e3
  · refine h7.trans ⟨K.os, K.tape, K.output, K.size, fun k hk => K.block k (by have := h7.size; omega) (by omega) (fun e => ?_)⟩
    have := (h2.obj e.symm).1
    omega

theorem Half.done {w w' w4 : World} {tb g cap : Nat} {vs : Value} {cols : List Int} {p : Int} {o : Obj} (S : Half w w' tb vs cols p)
    (hown : w4.ownsRow w.heap.size 26 1 (.slice (some ⟨g, 0, none⟩) (cols.length + 1) cap) (cols.length + 1) (nums cols ++ [.int .u64 p])) (hg : (w'.alloc o).grownBy w4 vs.ownBlock) :
    St w w4 tb (.slice (some ⟨g, 0, none⟩) (cols.length + 1) cap) (cols ++ [p]) := by
  obtain ⟨vc, sl, h1, h2, h3, h4, h5, h6, h7⟩ := S
  have hO : Own w4 w.heap.size 26 (.slice (some ⟨g, 0, none⟩) (cols.length + 1) cap) (cols ++ [p]) := by
    unfold Own nums
    rw [List.map_append, List.length_append]
    exact hown
  have hlt := h1.lt
  refine ⟨vc, sl, (h1.kept (w' := w'.alloc o) (Below.heap_alloc _ _ _ hlt)).kept (hg.block tb (by simp; omega) (h3.ne_tab (by decide) h1)), World.ownsRow.kept (World.ownsRow.alloc h2 o) hg (h2.ne_own h3 (by decide)), hO, h4, by simp; omega, h6, ?_⟩
  exact (h7.alloc h7.size o).grown hg (by have := h7.size; simp; omega) (fun k e => (h3.obj e).1)

end Go.Proofs.Qxb6612991a
