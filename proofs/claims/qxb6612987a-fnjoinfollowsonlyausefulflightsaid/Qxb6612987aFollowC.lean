/-
  Seat Qxb6612987a: the law FnJoinFollowsOnlyAUsefulFlight: more walks.
-/
import Derived.Test.Qxb6612987aFollowA
namespace Go.Proofs.Qxb6612987a
open Go.RowKit Go.Maps Go.MuLone
set_option linter.unusedVariables false

set_option maxRecDepth 100000 in
set_option maxHeartbeats 1600000 in
theorem walk3_le_other_tt (nm q : ByteArray) (h : Int) (w : World) (h1 : nm.size + q.size ≤ 1048576) (h2 : 0 ≤ h) (h3 : h ≤ 9223372036854775805) (hqn : q ≠ nm) :
    Calls Try.prog 3 #[.string nm, .string q, .bool true, .bool true, .bool false, .int .i64 h] w fun e w' => e = .returned (.bool true) ∧ Below w.heap.size w w' := by
  have hnl : nm.size ≤ maxLen := by unfold maxLen; omega
  have hql : q.size ≤ maxLen := by unfold maxLen; omega
  have qn : (q.toList == nm.toList) = false := by
    rw [beq_eq_false_iff_ne]
    intro e
    rw [ByteArray.toList_eq, ByteArray.toList_eq] at e
    exact hqn (bytes_inj e)
  have HQN : Hid (q ≠ nm) := hqn
  clear hqn
  go_enter Try.func3, Try.ntmps3
  go_wp2_with (go_at_call 6; refine (bytes6_ok _ _ _ _ _ _ _ h1).mono ?_; rintro e w' ⟨rfl, rfl⟩)
  refine (holding_any _ nm hnl _ _ h).mono ?_
  rintro e w1 ⟨s, mb, b, rfl, L1⟩
  go_wp2_with fail
  refine (leads L1 q hql (Or.inl HQN.out)).mono ?_
  rintro e w2 ⟨b1, rfl, L2⟩
  go_wp2_with fail
  refine (follows_led L2 hql).mono ?_
  rintro e w3 ⟨rfl, L3⟩
  have HU1 : Hid (((upd (upd (fun _ => none) nm (.pointer (some ⟨b, 0, none⟩))) q (.pointer (some ⟨b1, 0, none⟩))) q).getD (.pointer none) = .pointer (some ⟨b1, 0, none⟩)) := by simp [Hid, upd]
  have HU2 : Hid (((upd (upd (fun _ => none) nm (.pointer (some ⟨b, 0, none⟩))) q (.pointer (some ⟨b1, 0, none⟩))) nm).getD (.pointer none) = .pointer (some ⟨b, 0, none⟩)) := by
    unfold Hid
    rw [upd_other _ _ (fun e => HQN.out e.symm), upd_same]
    rfl
  clear L1 L2
  obtain ⟨S3, F3', F3, hbb, hb1, hbel⟩ := L3
  have HB : Hid (Below w.heap.size w w3) := hbel
  have hbb' : ¬ b1 = b := fun e => hbb e.symm
  have E1 := eql24_other F3' F3 hbb'
  have E2 := neq24_same w3 ⟨b1, 0, none⟩
  have E3 := neq24_same w3 ⟨b, 0, none⟩
  clear hbel hb1 hbb
  go_wp2_with (first
    | (go_at_call_of 12 b1; refine (name_any F3').mono ?_; rintro e w' ⟨rfl, rfl⟩)
    | (go_at_call_of 12 b; refine (name_any F3).mono ?_; rintro e w' ⟨rfl, rfl⟩)
    | (go_at_call_of 10 b1; refine (holders_any F3').mono ?_; rintro e w' ⟨rfl, rfl⟩)
    | (go_at_call_of 10 b; refine (holders_any F3).mono ?_; rintro e w' ⟨rfl, rfl⟩)
    | (go_at_call 13; refine (started_any F3').mono ?_; rintro e w' ⟨rfl, rfl⟩)
    | (go_at_call 14; refine (ended_any F3').mono ?_; rintro e w' ⟨rfl, rfl⟩)
    | (go_at_call 15; refine (broken_nil F3').mono ?_; rintro e w' ⟨rfl, rfl⟩)
    | (go_at_call 16; refine (gone_any F3').mono ?_; rintro e w' ⟨rfl, rfl⟩)
    | (go_at_call_of 11 q; refine (lookup_any S3 q hql (.pointer (some ⟨b1, 0, none⟩)) HU1.out).mono ?_; rintro e w' ⟨rfl, rfl⟩)
    | (go_at_call_of 11 nm; refine (lookup_any S3 nm hnl (.pointer (some ⟨b, 0, none⟩)) HU2.out).mono ?_; rintro e w' ⟨rfl, rfl⟩))
  go_ret
  exact ⟨rfl, HB.out⟩

set_option maxRecDepth 100000 in
set_option maxHeartbeats 1600000 in
theorem walk3_le_other_tf (nm q : ByteArray) (h : Int) (w : World) (h1 : nm.size + q.size ≤ 1048576) (h2 : 0 ≤ h) (h3 : h ≤ 9223372036854775805) (hqn : q ≠ nm) :
    Calls Try.prog 3 #[.string nm, .string q, .bool true, .bool false, .bool false, .int .i64 h] w fun e w' => e = .returned (.bool true) ∧ Below w.heap.size w w' := by
  have hnl : nm.size ≤ maxLen := by unfold maxLen; omega
  have hql : q.size ≤ maxLen := by unfold maxLen; omega
  have qn : (q.toList == nm.toList) = false := by
    rw [beq_eq_false_iff_ne]
    intro e
    rw [ByteArray.toList_eq, ByteArray.toList_eq] at e
    exact hqn (bytes_inj e)
  have HQN : Hid (q ≠ nm) := hqn
  clear hqn
  go_enter Try.func3, Try.ntmps3
  go_wp2_with (go_at_call 6; refine (bytes6_ok _ _ _ _ _ _ _ h1).mono ?_; rintro e w' ⟨rfl, rfl⟩)
  refine (holding_any _ nm hnl _ _ h).mono ?_
  rintro e w1 ⟨s, mb, b, rfl, L1⟩
  go_wp2_with fail
  refine (leads L1 q hql (Or.inl HQN.out)).mono ?_
  rintro e w2 ⟨b1, rfl, L2⟩
  go_wp2_with fail
  refine (follows_led L2 hql).mono ?_
  rintro e w3 ⟨rfl, L3⟩
  have HU1 : Hid (((upd (upd (fun _ => none) nm (.pointer (some ⟨b, 0, none⟩))) q (.pointer (some ⟨b1, 0, none⟩))) q).getD (.pointer none) = .pointer (some ⟨b1, 0, none⟩)) := by simp [Hid, upd]
  have HU2 : Hid (((upd (upd (fun _ => none) nm (.pointer (some ⟨b, 0, none⟩))) q (.pointer (some ⟨b1, 0, none⟩))) nm).getD (.pointer none) = .pointer (some ⟨b, 0, none⟩)) := by
    unfold Hid
    rw [upd_other _ _ (fun e => HQN.out e.symm), upd_same]
    rfl
  clear L1 L2
  obtain ⟨S3, F3', F3, hbb, hb1, hbel⟩ := L3
  have HB : Hid (Below w.heap.size w w3) := hbel
  have hbb' : ¬ b1 = b := fun e => hbb e.symm
  have E1 := eql24_other F3' F3 hbb'
  have E2 := neq24_same w3 ⟨b1, 0, none⟩
  have E3 := neq24_same w3 ⟨b, 0, none⟩
  clear hbel hb1 hbb
  go_wp2_with (first
    | (go_at_call_of 12 b1; refine (name_any F3').mono ?_; rintro e w' ⟨rfl, rfl⟩)
    | (go_at_call_of 12 b; refine (name_any F3).mono ?_; rintro e w' ⟨rfl, rfl⟩)
    | (go_at_call_of 10 b1; refine (holders_any F3').mono ?_; rintro e w' ⟨rfl, rfl⟩)
    | (go_at_call_of 10 b; refine (holders_any F3).mono ?_; rintro e w' ⟨rfl, rfl⟩)
    | (go_at_call 13; refine (started_any F3').mono ?_; rintro e w' ⟨rfl, rfl⟩)
    | (go_at_call 14; refine (ended_any F3').mono ?_; rintro e w' ⟨rfl, rfl⟩)
    | (go_at_call 15; refine (broken_nil F3').mono ?_; rintro e w' ⟨rfl, rfl⟩)
    | (go_at_call 16; refine (gone_any F3').mono ?_; rintro e w' ⟨rfl, rfl⟩)
    | (go_at_call_of 11 q; refine (lookup_any S3 q hql (.pointer (some ⟨b1, 0, none⟩)) HU1.out).mono ?_; rintro e w' ⟨rfl, rfl⟩)
    | (go_at_call_of 11 nm; refine (lookup_any S3 nm hnl (.pointer (some ⟨b, 0, none⟩)) HU2.out).mono ?_; rintro e w' ⟨rfl, rfl⟩))
  go_ret
  exact ⟨rfl, HB.out⟩

end Go.Proofs.Qxb6612987a
