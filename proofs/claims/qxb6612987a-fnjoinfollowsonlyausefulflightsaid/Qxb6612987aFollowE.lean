/-
  Seat Qxb6612987a: the law FnJoinFollowsOnlyAUsefulFlight: the ways that leave early; all ways together.
-/
import Derived.Test.Qxb6612987aFollowB
import Derived.Test.Qxb6612987aFollowC
import Derived.Test.Qxb6612987aFollowD
namespace Go.Proofs.Qxb6612987a
open Go.RowKit Go.Maps Go.MuLone
set_option linter.unusedVariables false

set_option maxRecDepth 100000 in
theorem walk3_big (nm q : ByteArray) (st en br : Bool) (h : Int) (w : World) (hn : nm.size ≤ maxLen) (hq : q.size ≤ maxLen) (h1 : 1048576 < nm.size + q.size) :
    Calls Try.prog 3 #[.string nm, .string q, .bool st, .bool en, .bool br, .int .i64 h] w fun e w' => e = .returned (.bool true) ∧ Below w.heap.size w w' := by
  go_enter Try.func3, Try.ntmps3
  go_wp2_with (go_at_call 6; refine (bytes6_no _ _ _ _ _ _ _ h1 hn hq).mono ?_; rintro e w' ⟨rfl, rfl⟩)
  go_ret
  exact ⟨rfl, Below.refl _ _⟩

set_option maxRecDepth 100000 in
theorem walk3_neg (nm q : ByteArray) (st en br : Bool) (h : Int) (w : World) (h1 : nm.size + q.size ≤ 1048576) (h2 : h < 0) :
    Calls Try.prog 3 #[.string nm, .string q, .bool st, .bool en, .bool br, .int .i64 h] w fun e w' => e = .returned (.bool true) ∧ Below w.heap.size w w' := by
  go_enter Try.func3, Try.ntmps3
  go_wp2_with (go_at_call 6; refine (bytes6_ok _ _ _ _ _ _ _ h1).mono ?_; rintro e w' ⟨rfl, rfl⟩)
  go_ret
  exact ⟨rfl, Below.refl _ _⟩

set_option maxRecDepth 100000 in
theorem walk3_far (nm q : ByteArray) (st en br : Bool) (h : Int) (w : World) (h1 : nm.size + q.size ≤ 1048576) (h2 : 9223372036854775805 < h) :
    Calls Try.prog 3 #[.string nm, .string q, .bool st, .bool en, .bool br, .int .i64 h] w fun e w' => e = .returned (.bool true) ∧ Below w.heap.size w w' := by
  go_enter Try.func3, Try.ntmps3
  go_wp2_with (go_at_call 6; refine (bytes6_ok _ _ _ _ _ _ _ h1).mono ?_; rintro e w' ⟨rfl, rfl⟩)
  go_ret
  exact ⟨rfl, Below.refl _ _⟩

set_option maxRecDepth 100000 in
theorem walk3_br_s (nm q : ByteArray) (en : Bool) (h : Int) (w : World) (h1 : nm.size + q.size ≤ 1048576) (h2 : 0 ≤ h) (h3 : h ≤ 9223372036854775805) :
    Calls Try.prog 3 #[.string nm, .string q, .bool false, .bool en, .bool true, .int .i64 h] w fun e w' => e = .returned (.bool true) ∧ Below w.heap.size w w' := by
  go_enter Try.func3, Try.ntmps3
  go_wp2_with (go_at_call 6; refine (bytes6_ok _ _ _ _ _ _ _ h1).mono ?_; rintro e w' ⟨rfl, rfl⟩)
  go_ret
  exact ⟨rfl, Below.refl _ _⟩

set_option maxRecDepth 100000 in
theorem walk3_br_e (nm q : ByteArray) (h : Int) (w : World) (h1 : nm.size + q.size ≤ 1048576) (h2 : 0 ≤ h) (h3 : h ≤ 9223372036854775805) :
    Calls Try.prog 3 #[.string nm, .string q, .bool true, .bool false, .bool true, .int .i64 h] w fun e w' => e = .returned (.bool true) ∧ Below w.heap.size w w' := by
  go_enter Try.func3, Try.ntmps3
  go_wp2_with (go_at_call 6; refine (bytes6_ok _ _ _ _ _ _ _ h1).mono ?_; rintro e w' ⟨rfl, rfl⟩)
  go_ret
  exact ⟨rfl, Below.refl _ _⟩

theorem walk3 (nm q : ByteArray) (st en br : Bool) (h : Int) (w : World) (hn : nm.size ≤ maxLen) (hq : q.size ≤ maxLen) :
    Calls Try.prog 3 #[.string nm, .string q, .bool st, .bool en, .bool br, .int .i64 h] w fun e w' => e = .returned (.bool true) ∧ Below w.heap.size w w' := by
  by_cases h1 : 1048576 < nm.size + q.size
  · exact walk3_big nm q st en br h w hn hq h1
  have h1' : nm.size + q.size ≤ 1048576 := by omega
  by_cases h2 : h < 0
  · exact walk3_neg nm q st en br h w h1' h2
  by_cases h3 : 9223372036854775805 < h
  · exact walk3_far nm q st en br h w h1' h3
  have h2' : 0 ≤ h := by omega
  have h3' : h ≤ 9223372036854775805 := by omega
  cases br with
  | true =>
    cases st with
    | false => exact walk3_br_s nm q en h w h1' h2' h3'
    | true =>
      cases en with
      | false => exact walk3_br_e nm q h w h1' h2' h3'
      | true =>
        by_cases hqn : q = nm
        · subst hqn
          exact walk3_le_samebr q h w h1' h2' h3'
        · exact walk3_le_otherbr nm q h w h1' h2' h3' hqn
  | false =>
    by_cases hqn : q = nm
    · subst hqn
      cases en with
      | false => exact walk3_fo_f q st h w h1' h2' h3'
      | true =>
        cases st with
        | false => exact walk3_le_same q h w h1' h2' h3'
        | true => exact walk3_fo_t q h w h1' h2' h3'
    · cases st with
      | true =>
        cases en with
        | true => exact walk3_le_other_tt nm q h w h1' h2' h3' hqn
        | false => exact walk3_le_other_tf nm q h w h1' h2' h3' hqn
      | false =>
        cases en with
        | true => exact walk3_le_other_ft nm q h w h1' h2' h3' hqn
        | false => exact walk3_le_other_ff nm q h w h1' h2' h3' hqn

end Go.Proofs.Qxb6612987a
