/-
  Seat Qxb6612991aDoorRR: samplesOf: its contract.
-/
import Derived.Test.Qxb6612991aDoorRRRows
import Derived.WalkKit
import Derived.WalkSpells
import Derived.WalkLawsBesides
namespace Go.Proofs.Qxb6612991aDoorRR
open Go.RowKit
set_option linter.unusedVariables false

/-- ch samples a pixel of colour type ct at depth d: the pairs that PNG allows. -/
def Valid (ct d ch : Int) : Prop :=
  (ct = 0 ∧ ch = 1 ∧ (d = 1 ∨ d = 2 ∨ d = 4 ∨ d = 8 ∨ d = 16)) ∨ (ct = 2 ∧ ch = 3 ∧ (d = 8 ∨ d = 16)) ∨ (ct = 3 ∧ ch = 1 ∧ (d = 1 ∨ d = 2 ∨ d = 4 ∨ d = 8)) ∨ (ct = 4 ∧ ch = 2 ∧ (d = 8 ∨ d = 16)) ∨ (ct = 6 ∧ ch = 4 ∧ (d = 8 ∨ d = 16))

def Sampled (ct d : Int) (e : Ending) : Prop := e = .returned (.int .i64 0) ∨ ∃ ch, e = .returned (.int .i64 ch) ∧ Valid ct d ch

set_option maxRecDepth 100000 in
set_option maxHeartbeats 1600000 in
theorem samples_0 (d : Int) (w : World) : Calls Tryd.prog 6 #[.int .u8 0, .int .i64 d] w fun e w' => Sampled 0 d e ∧ w = w' := by
  by_cases h1 : d = 1
  · subst h1
    go_enter Tryd.func6, Tryd.ntmps6
    go_wp2
    go_ret
    exact ⟨.inr ⟨1, rfl, by unfold Valid; omega⟩, rfl⟩
  by_cases h2 : d = 2
  · subst h2
    go_enter Tryd.func6, Tryd.ntmps6
    go_wp2
    go_ret
    exact ⟨.inr ⟨1, rfl, by unfold Valid; omega⟩, rfl⟩
  by_cases h4 : d = 4
  · subst h4
    go_enter Tryd.func6, Tryd.ntmps6
    go_wp2
    go_ret
    exact ⟨.inr ⟨1, rfl, by unfold Valid; omega⟩, rfl⟩
  by_cases h8 : d = 8
  · subst h8
    go_enter Tryd.func6, Tryd.ntmps6
    go_wp2
    go_ret
    exact ⟨.inr ⟨1, rfl, by unfold Valid; omega⟩, rfl⟩
  by_cases h16 : d = 16
  · subst h16
    go_enter Tryd.func6, Tryd.ntmps6
    go_wp2
    go_ret
    exact ⟨.inr ⟨1, rfl, by unfold Valid; omega⟩, rfl⟩
  have b1 : (d == 1) = false := beq_eq_false_iff_ne.2 h1
  have b2 : (d == 2) = false := beq_eq_false_iff_ne.2 h2
  have b4 : (d == 4) = false := beq_eq_false_iff_ne.2 h4
  have b8 : (d == 8) = false := beq_eq_false_iff_ne.2 h8
  have b16 : (d == 16) = false := beq_eq_false_iff_ne.2 h16
  clear h1 h2 h4 h8 h16
  go_enter Tryd.func6, Tryd.ntmps6
  go_wp2
  go_ret
  exact ⟨.inl rfl, rfl⟩

set_option maxRecDepth 100000 in
set_option maxHeartbeats 1600000 in
theorem samples_2 (d : Int) (w : World) : Calls Tryd.prog 6 #[.int .u8 2, .int .i64 d] w fun e w' => Sampled 2 d e ∧ w = w' := by
  by_cases h8 : d = 8
  · subst h8
    go_enter Tryd.func6, Tryd.ntmps6
    go_wp2
    go_ret
    exact ⟨.inr ⟨3, rfl, by unfold Valid; omega⟩, rfl⟩
  by_cases h16 : d = 16
  · subst h16
    go_enter Tryd.func6, Tryd.ntmps6
    go_wp2
    go_ret
    exact ⟨.inr ⟨3, rfl, by unfold Valid; omega⟩, rfl⟩
  have b8 : (d == 8) = false := beq_eq_false_iff_ne.2 h8
  have b16 : (d == 16) = false := beq_eq_false_iff_ne.2 h16
  clear h8 h16
  go_enter Tryd.func6, Tryd.ntmps6
  go_wp2
  go_ret
  exact ⟨.inl rfl, rfl⟩

set_option maxRecDepth 100000 in
set_option maxHeartbeats 1600000 in
theorem samples_3 (d : Int) (w : World) : Calls Tryd.prog 6 #[.int .u8 3, .int .i64 d] w fun e w' => Sampled 3 d e ∧ w = w' := by
  by_cases h1 : d = 1
  · subst h1
    go_enter Tryd.func6, Tryd.ntmps6
    go_wp2
    go_ret
    exact ⟨.inr ⟨1, rfl, by unfold Valid; omega⟩, rfl⟩
  by_cases h2 : d = 2
  · subst h2
    go_enter Tryd.func6, Tryd.ntmps6
    go_wp2
    go_ret
    exact ⟨.inr ⟨1, rfl, by unfold Valid; omega⟩, rfl⟩
  by_cases h4 : d = 4
  · subst h4
    go_enter Tryd.func6, Tryd.ntmps6
    go_wp2
    go_ret
    exact ⟨.inr ⟨1, rfl, by unfold Valid; omega⟩, rfl⟩
  by_cases h8 : d = 8
  · subst h8
    go_enter Tryd.func6, Tryd.ntmps6
    go_wp2
    go_ret
    exact ⟨.inr ⟨1, rfl, by unfold Valid; omega⟩, rfl⟩
  have b1 : (d == 1) = false := beq_eq_false_iff_ne.2 h1
  have b2 : (d == 2) = false := beq_eq_false_iff_ne.2 h2
  have b4 : (d == 4) = false := beq_eq_false_iff_ne.2 h4
  have b8 : (d == 8) = false := beq_eq_false_iff_ne.2 h8
  clear h1 h2 h4 h8
  go_enter Tryd.func6, Tryd.ntmps6
  go_wp2
  go_ret
  exact ⟨.inl rfl, rfl⟩

set_option maxRecDepth 100000 in
set_option maxHeartbeats 1600000 in
theorem samples_4 (d : Int) (w : World) : Calls Tryd.prog 6 #[.int .u8 4, .int .i64 d] w fun e w' => Sampled 4 d e ∧ w = w' := by
  by_cases h8 : d = 8
  · subst h8
    go_enter Tryd.func6, Tryd.ntmps6
    go_wp2
    go_ret
    exact ⟨.inr ⟨2, rfl, by unfold Valid; omega⟩, rfl⟩
  by_cases h16 : d = 16
  · subst h16
    go_enter Tryd.func6, Tryd.ntmps6
    go_wp2
    go_ret
    exact ⟨.inr ⟨2, rfl, by unfold Valid; omega⟩, rfl⟩
  have b8 : (d == 8) = false := beq_eq_false_iff_ne.2 h8
  have b16 : (d == 16) = false := beq_eq_false_iff_ne.2 h16
  clear h8 h16
  go_enter Tryd.func6, Tryd.ntmps6
  go_wp2
  go_ret
  exact ⟨.inl rfl, rfl⟩

set_option maxRecDepth 100000 in
set_option maxHeartbeats 1600000 in
theorem samples_6 (d : Int) (w : World) : Calls Tryd.prog 6 #[.int .u8 6, .int .i64 d] w fun e w' => Sampled 6 d e ∧ w = w' := by
  by_cases h8 : d = 8
  · subst h8
    go_enter Tryd.func6, Tryd.ntmps6
    go_wp2
    go_ret
    exact ⟨.inr ⟨4, rfl, by unfold Valid; omega⟩, rfl⟩
  by_cases h16 : d = 16
  · subst h16
    go_enter Tryd.func6, Tryd.ntmps6
    go_wp2
    go_ret
    exact ⟨.inr ⟨4, rfl, by unfold Valid; omega⟩, rfl⟩
  have b8 : (d == 8) = false := beq_eq_false_iff_ne.2 h8
  have b16 : (d == 16) = false := beq_eq_false_iff_ne.2 h16
  clear h8 h16
  go_enter Tryd.func6, Tryd.ntmps6
  go_wp2
  go_ret
  exact ⟨.inl rfl, rfl⟩

set_option maxRecDepth 100000 in
set_option maxHeartbeats 1600000 in
theorem samples_no (ct d : Int) (w : World) (h0 : ct ≠ 0) (h2 : ct ≠ 2) (h3 : ct ≠ 3) (h4 : ct ≠ 4) (h6 : ct ≠ 6) : Calls Tryd.prog 6 #[.int .u8 ct, .int .i64 d] w fun e w' => Sampled ct d e ∧ w = w' := by
  have b0 : (ct == 0) = false := beq_eq_false_iff_ne.2 h0
  have b2 : (ct == 2) = false := beq_eq_false_iff_ne.2 h2
  have b3 : (ct == 3) = false := beq_eq_false_iff_ne.2 h3
  have b4 : (ct == 4) = false := beq_eq_false_iff_ne.2 h4
  have b6 : (ct == 6) = false := beq_eq_false_iff_ne.2 h6
  clear h0 h2 h3 h4 h6
  go_enter Tryd.func6, Tryd.ntmps6
  go_wp2
  go_ret
  exact ⟨.inl rfl, rfl⟩

theorem samples_any (ct d : Int) (w : World) : Calls Tryd.prog 6 #[.int .u8 ct, .int .i64 d] w fun e w' => Sampled ct d e ∧ w = w' := by
  by_cases h0 : ct = 0
  · subst h0
    exact samples_0 d w
  by_cases h2 : ct = 2
  · subst h2
    exact samples_2 d w
  by_cases h3 : ct = 3
  · subst h3
    exact samples_3 d w
  by_cases h4 : ct = 4
  · subst h4
    exact samples_4 d w
  by_cases h6 : ct = 6
  · subst h6
    exact samples_6 d w
  exact samples_no ct d w h0 h2 h3 h4 h6

end Go.Proofs.Qxb6612991aDoorRR
