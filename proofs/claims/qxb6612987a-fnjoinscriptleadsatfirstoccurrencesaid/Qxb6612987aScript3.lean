/-
  Seat Qxb6612987a: FnJoinScriptLeadsAtFirstOccurrence: the ways that leave early; the empty slice; all ways together.
-/
import Derived.Test.Qxb6612987aScript2
namespace Go.Proofs.Qxb6612987a
open Go.RowKit Go.Maps Go.MuLone
set_option linter.unusedVariables false

set_option maxRecDepth 100000 in
theorem walk4_big (b0 off len cap : Nat) (ss : Nat → ByteArray) (w : World) (hl : len ≤ maxLen) (h6 : 65536 < len) (hc : ∀ i, i < len → w.cell? ⟨b0, off + i, none⟩ = some (.string (ss i))) (hs : ∀ i, (ss i).size ≤ maxLen) :
    Calls Try.prog 4 #[.slice (some ⟨b0, off, none⟩) len cap] w fun e w' => e = .returned (.bool true) ∧ Below w.heap.size w w' := by
  have hl' := hl
  unfold maxLen at hl'
  go_enter Try.func4, Try.ntmps4
  go_wp2_with fail
  refine (bytes17_any b0 off len cap ss _ hl hc hs).mono ?_
  rintro e w' ⟨⟨c, rfl⟩, rfl⟩
  cases c
  all_goals
    go_wp2_with fail
    go_ret
    exact ⟨rfl, Below.refl _ _⟩

theorem run_got0 (w : World) : (Instr.makeSlice 39 (.int .i64 0) (.int .i64 0)).run Try.prog w = .ok (.slice (some ⟨w.heap.size, 0, none⟩) 0 0) (w.alloc (.cells (madeCells #[.pointer none] 0) 24)) := run_got 0 (by omega) w

set_option maxRecDepth 100000 in
set_option maxHeartbeats 800000 in
theorem walk4_nil (a : Option Addr) (cap : Nat) (w : World) :
    Calls Try.prog 4 #[.slice a 0 cap] w fun e w' => e = .returned (.bool true) ∧ Below w.heap.size w w' := by
  have hmm := run_map38
  have hmk := run_got0
  go_enter Try.func4, Try.ntmps4
  go_wp2_with fail
  refine (bytes17_nil a cap _).mono ?_
  rintro e w' ⟨⟨c, rfl⟩, rfl⟩
  cases c
  · go_wp2_with fail
    go_ret
    exact ⟨rfl, Below.refl _ _⟩
  go_wp2_with fail
  refine (adds18_nil a cap _).mono ?_
  rintro e w' ⟨⟨c, rfl⟩, rfl⟩
  by_cases hcc : 1048576 < c
  · go_wp2_with fail
    go_ret
    exact ⟨rfl, Below.refl _ _⟩
  go_wp2_with fail
  refine (newFlights_any _).mono ?_
  rintro e w1 ⟨s, mb, rfl, S1, hg1, hs1, hm1⟩
  have HB : Hid (Below w.heap.size w (((w1.alloc (.map #[] 0)).alloc (.map #[] 0)).alloc (.cells (madeCells #[.pointer none] 0) 24))) :=
    ((Below.refl _ _).grown hg1 (Nat.le_refl _) (by simp)).grown (((World.grownBy_alloc _ _ none).trans (World.grownBy_alloc _ _ _)).trans (World.grownBy_alloc _ _ _)) hg1.size (by simp)
  clear S1 hg1 hs1 hm1
  go_wp2_with fail
  generalize ((w1.alloc (.map #[] 0)).alloc (.map #[] 0)).alloc (.cells (madeCells #[.pointer none] 0) 24) = W0 at HB ⊢
  go_loopw [7] (fun i wr => i = .int .i64 0 ∧ Hid (Below w.heap.size w wr)) (fun _ _ => 0)
  case atStart => exact ⟨rfl, HB⟩
  case round =>
    obtain ⟨rfl, HB⟩ := hrel
    go_wp2_with fail
    go_loopw [13] (fun i wr => i = .int .i64 0 ∧ Hid (Below w.heap.size w wr)) (fun _ _ => 0)
    case atStart => exact ⟨rfl, HB⟩
    case round =>
      obtain ⟨rfl, HB⟩ := hrel
      go_wp2_with fail
      go_ret
      exact ⟨rfl, HB.out⟩

/-- WHAT THE WALK IS TOLD OF A SLICE OF STRINGS THAT CAME IN. -/
def IsStrs (w : World) (a : Option Addr) (len cap : Nat) (ss : List ByteArray) : Prop :=
  (a = none ∧ len = 0 ∧ cap = 0) ∨
  ∃ x, a = some x ∧ len ≤ cap ∧ cap ≤ maxLen ∧ len ≤ ss.length ∧ (∀ i, i < ss.length → w.cell? (x.add i) = some (.string (ss.getD i ByteArray.empty))) ∧ ∀ s ∈ ss, s.size ≤ maxLen

theorem walk4 (a : Option Addr) (len cap : Nat) (ss : List ByteArray) (w : World) (H : IsStrs w a len cap ss) :
    Calls Try.prog 4 #[.slice a len cap] w fun e w' => e = .returned (.bool true) ∧ Below w.heap.size w w' := by
  rcases H with ⟨rfl, rfl, rfl⟩ | ⟨x, rfl, hl, hm, hz, hcell, hsz⟩
  · exact walk4_nil none 0 w
  by_cases h0 : len = 0
  · subst h0
    exact walk4_nil (some x) cap w
  have hc0 := hcell 0 (by omega)
  obtain ⟨b0, off, sp⟩ := x
  have hsp : sp = none := by
    cases sp with
    | none => rfl
    | some v =>
      exfalso
      simp only [World.cell?, Addr.add] at hc0
      split at hc0 <;> simp at hc0
  subst hsp
  have hb0 : b0 < w.heap.size := World.block_lt_of_cell? _ _ hc0
  have hc : ∀ i, i < len → w.cell? ⟨b0, off + i, none⟩ = some (.string (ss.getD i ByteArray.empty)) := fun i hi => by
    have := hcell i (by omega)
    rw [Addr.add_lit] at this
    exact this
  have hs : ∀ i, (ss.getD i ByteArray.empty).size ≤ maxLen := fun i => by
    by_cases hi : i < ss.length
    · rw [List.getD_eq_getElem?_getD, List.getElem?_eq_getElem hi]
      exact hsz _ (List.getElem_mem hi)
    · rw [List.getD_eq_getElem?_getD, List.getElem?_eq_none (by omega)]
      unfold maxLen
      simp
  by_cases h6 : 65536 < len
  · exact walk4_big b0 off len cap (fun i => ss.getD i ByteArray.empty) w (by omega) h6 hc hs
  · exact walk4_main b0 off len cap (fun i => ss.getD i ByteArray.empty) w (by omega) hc hs hb0

end Go.Proofs.Qxb6612987a
