/-
  Seat Qxb6612987a: the law FnJoinFollowsOnlyAUsefulFlight: more walks.
-/
import Derived.Test.Qxb6612987aFollowA
namespace Go.Proofs.Qxb6612987a
open Go.RowKit Go.Maps Go.MuLone
set_option linter.unusedVariables false

set_option maxRecDepth 100000 in
set_option maxHeartbeats 1600000 in
theorem walk3_fo_f (nm : ByteArray) (st : Bool) (h : Int) (w : World) (h1 : nm.size + nm.size ≤ 1048576) (h2 : 0 ≤ h) (h3 : h ≤ 9223372036854775805) :
    Calls Try.prog 3 #[.string nm, .string nm, .bool st, .bool false, .bool false, .int .i64 h] w fun e w' => e = .returned (.bool true) ∧ Below w.heap.size w w' := by
  have hnl : nm.size ≤ maxLen := by unfold maxLen; omega
  have W1 : Hid (wrap64 (h + 1) = h + 1) := by unfold Hid wrap64; omega
  have W2 : Hid (wrap64 (h + 1 + 1) = h + 2) := by unfold Hid wrap64; omega
  go_enter Try.func3, Try.ntmps3
  go_wp2_with (go_at_call 6; refine (bytes6_ok _ _ _ _ _ _ _ h1).mono ?_; rintro e w' ⟨rfl, rfl⟩)
  refine (holding_any _ nm hnl _ _ h).mono ?_
  rintro e w1 ⟨s, mb, b, rfl, S1, F1, hg1, hs1, hm1, hb1⟩
  go_wp2_with fail
  refine (follows S1 nm hnl b (upd_same _ _ _) F1 (fun w F => hold_yes_f F)).mono ?_
  rintro e w2 ⟨rfl, S2, F2, hg2⟩
  rw [W1.out] at F2
  go_wp2_with fail
  refine (follows S2 nm hnl b (upd_same _ _ _) F2 (fun w F => hold_yes_f F)).mono ?_
  rintro e w3 ⟨rfl, S3, F3, hg3⟩
  rw [W2.out] at F3
  have HB : Hid (Below w.heap.size w w3) := (((Below.refl _ _).grown hg1 (Nat.le_refl _) (by simp)).grown hg2 hg1.size (by simp; omega)).grown hg3 (Nat.le_trans hg1.size hg2.size) (by simp; omega)
  have HU1 : Hid (((upd (fun _ => none) nm (.pointer (some ⟨b, 0, none⟩))) nm).getD (.pointer none) = .pointer (some ⟨b, 0, none⟩)) := by simp [Hid, upd]
  have E1 := eql24_same w3 ⟨b, 0, none⟩
  clear S1 F1 hg1 S2 F2 hg2 hg3 hs1 hm1 hb1
  go_wp2_with (first
    | (go_at_call 10; refine (holders_any F3).mono ?_; rintro e w' ⟨rfl, rfl⟩)
    | (go_at_call 11; refine (lookup_any S3 nm hnl (.pointer (some ⟨b, 0, none⟩)) HU1.out).mono ?_; rintro e w' ⟨rfl, rfl⟩))
  go_ret
  exact ⟨rfl, HB.out⟩

set_option maxRecDepth 100000 in
set_option maxHeartbeats 1600000 in
theorem walk3_fo_t (nm : ByteArray) (h : Int) (w : World) (h1 : nm.size + nm.size ≤ 1048576) (h2 : 0 ≤ h) (h3 : h ≤ 9223372036854775805) :
    Calls Try.prog 3 #[.string nm, .string nm, .bool true, .bool true, .bool false, .int .i64 h] w fun e w' => e = .returned (.bool true) ∧ Below w.heap.size w w' := by
  have hnl : nm.size ≤ maxLen := by unfold maxLen; omega
  have W1 : Hid (wrap64 (h + 1) = h + 1) := by unfold Hid wrap64; omega
  have W2 : Hid (wrap64 (h + 1 + 1) = h + 2) := by unfold Hid wrap64; omega
  go_enter Try.func3, Try.ntmps3
  go_wp2_with (go_at_call 6; refine (bytes6_ok _ _ _ _ _ _ _ h1).mono ?_; rintro e w' ⟨rfl, rfl⟩)
  refine (holding_any _ nm hnl _ _ h).mono ?_
  rintro e w1 ⟨s, mb, b, rfl, S1, F1, hg1, hs1, hm1, hb1⟩
  go_wp2_with fail
  refine (follows S1 nm hnl b (upd_same _ _ _) F1 (fun w F => hold_yes_t F)).mono ?_
  rintro e w2 ⟨rfl, S2, F2, hg2⟩
  rw [W1.out] at F2
  go_wp2_with fail
  refine (follows S2 nm hnl b (upd_same _ _ _) F2 (fun w F => hold_yes_t F)).mono ?_
  rintro e w3 ⟨rfl, S3, F3, hg3⟩
  rw [W2.out] at F3
  have HB : Hid (Below w.heap.size w w3) := (((Below.refl _ _).grown hg1 (Nat.le_refl _) (by simp)).grown hg2 hg1.size (by simp; omega)).grown hg3 (Nat.le_trans hg1.size hg2.size) (by simp; omega)
  have HU1 : Hid (((upd (fun _ => none) nm (.pointer (some ⟨b, 0, none⟩))) nm).getD (.pointer none) = .pointer (some ⟨b, 0, none⟩)) := by simp [Hid, upd]
  have E1 := eql24_same w3 ⟨b, 0, none⟩
  clear S1 F1 hg1 S2 F2 hg2 hg3 hs1 hm1 hb1
  go_wp2_with (first
    | (go_at_call 10; refine (holders_any F3).mono ?_; rintro e w' ⟨rfl, rfl⟩)
    | (go_at_call 11; refine (lookup_any S3 nm hnl (.pointer (some ⟨b, 0, none⟩)) HU1.out).mono ?_; rintro e w' ⟨rfl, rfl⟩))
  go_ret
  exact ⟨rfl, HB.out⟩

set_option maxRecDepth 100000 in
set_option maxHeartbeats 1600000 in
theorem walk3_le_same (nm : ByteArray) (h : Int) (w : World) (h1 : nm.size + nm.size ≤ 1048576) (h2 : 0 ≤ h) (h3 : h ≤ 9223372036854775805) :
    Calls Try.prog 3 #[.string nm, .string nm, .bool false, .bool true, .bool false, .int .i64 h] w fun e w' => e = .returned (.bool true) ∧ Below w.heap.size w w' := by
  have hnl : nm.size ≤ maxLen := by unfold maxLen; omega
  have hql : nm.size ≤ maxLen := by unfold maxLen; omega
  go_enter Try.func3, Try.ntmps3
  go_wp2_with (go_at_call 6; refine (bytes6_ok _ _ _ _ _ _ _ h1).mono ?_; rintro e w' ⟨rfl, rfl⟩)
  refine (holding_any _ nm hnl _ _ h).mono ?_
  rintro e w1 ⟨s, mb, b, rfl, L1⟩
  go_wp2_with fail
  refine (leads L1 nm hql (Or.inr ⟨rfl, fun w F => hold_no_f F⟩)).mono ?_
  rintro e w2 ⟨b1, rfl, L2⟩
  go_wp2_with fail
  refine (follows_led L2 hql).mono ?_
  rintro e w3 ⟨rfl, L3⟩
  have HU1 : Hid (((upd (upd (fun _ => none) nm (.pointer (some ⟨b, 0, none⟩))) nm (.pointer (some ⟨b1, 0, none⟩))) nm).getD (.pointer none) = .pointer (some ⟨b1, 0, none⟩)) := by simp [Hid, upd]
  clear L1 L2
  obtain ⟨S3, F3', F3, hbb, hb1, hbel⟩ := L3
  have HB : Hid (Below w.heap.size w w3) := hbel
  have hbb' : ¬ b1 = b := fun e => hbb e.symm
  have E1 := eql24_other F3' F3 hbb'
  have E2 := neq24_same w3 ⟨b1, 0, none⟩
  have E3 := neq24_same w3 ⟨b, 0, none⟩
  clear hbel hb1 hbb
  go_wp2_with (first
    | (go_at_call_of 12 b1; refine (name_any F3').mono ?_; rintro e w' ⟨rfl, rfl⟩)
    | (go_at_call_of 12 b; refine (name_any F3).mono ?_; rintro e w' ⟨rfl, rfl⟩)
    | (go_at_call_of 10 b1; refine (holders_any F3').mono ?_; rintro e w' ⟨rfl, rfl⟩)
    | (go_at_call_of 10 b; refine (holders_any F3).mono ?_; rintro e w' ⟨rfl, rfl⟩)
    | (go_at_call 13; refine (started_any F3').mono ?_; rintro e w' ⟨rfl, rfl⟩)
    | (go_at_call 14; refine (ended_any F3').mono ?_; rintro e w' ⟨rfl, rfl⟩)
    | (go_at_call 15; refine (broken_nil F3').mono ?_; rintro e w' ⟨rfl, rfl⟩)
    | (go_at_call 16; refine (gone_any F3').mono ?_; rintro e w' ⟨rfl, rfl⟩)
    | (go_at_call 11; refine (lookup_any S3 nm hnl (.pointer (some ⟨b1, 0, none⟩)) HU1.out).mono ?_; rintro e w' ⟨rfl, rfl⟩))
  go_ret
  exact ⟨rfl, HB.out⟩

set_option maxRecDepth 100000 in
set_option maxHeartbeats 1600000 in
theorem walk3_le_samebr (nm : ByteArray) (h : Int) (w : World) (h1 : nm.size + nm.size ≤ 1048576) (h2 : 0 ≤ h) (h3 : h ≤ 9223372036854775805) :
    Calls Try.prog 3 #[.string nm, .string nm, .bool true, .bool true, .bool true, .int .i64 h] w fun e w' => e = .returned (.bool true) ∧ Below w.heap.size w w' := by
  have hnl : nm.size ≤ maxLen := by unfold maxLen; omega
  have hql : nm.size ≤ maxLen := by unfold maxLen; omega
  go_enter Try.func3, Try.ntmps3
  go_wp2_with (go_at_call 6; refine (bytes6_ok _ _ _ _ _ _ _ h1).mono ?_; rintro e w' ⟨rfl, rfl⟩)
  refine (brokenFl_any _ nm hnl h).mono ?_
  rintro e w1 ⟨s, mb, b, v, rfl, L1⟩
  go_wp2_with fail
  refine (leads L1 nm hql (Or.inr ⟨rfl, fun w F => hold_no_t F⟩)).mono ?_
  rintro e w2 ⟨b1, rfl, L2⟩
  go_wp2_with fail
  refine (follows_led L2 hql).mono ?_
  rintro e w3 ⟨rfl, L3⟩
  have HU1 : Hid (((upd (upd (fun _ => none) nm (.pointer (some ⟨b, 0, none⟩))) nm (.pointer (some ⟨b1, 0, none⟩))) nm).getD (.pointer none) = .pointer (some ⟨b1, 0, none⟩)) := by simp [Hid, upd]
  clear L1 L2
  obtain ⟨S3, F3', F3, hbb, hb1, hbel⟩ := L3
  have HB : Hid (Below w.heap.size w w3) := hbel
  have hbb' : ¬ b1 = b := fun e => hbb e.symm
  have E1 := eql24_other F3' F3 hbb'
  have E2 := neq24_same w3 ⟨b1, 0, none⟩
  have E3 := neq24_same w3 ⟨b, 0, none⟩
  clear hbel hb1 hbb
  go_wp2_with (first
    | (go_at_call_of 12 b1; refine (name_any F3').mono ?_; rintro e w' ⟨rfl, rfl⟩)
    | (go_at_call_of 12 b; refine (name_any F3).mono ?_; rintro e w' ⟨rfl, rfl⟩)
    | (go_at_call_of 10 b1; refine (holders_any F3').mono ?_; rintro e w' ⟨rfl, rfl⟩)
    | (go_at_call_of 10 b; refine (holders_any F3).mono ?_; rintro e w' ⟨rfl, rfl⟩)
    | (go_at_call 13; refine (started_any F3').mono ?_; rintro e w' ⟨rfl, rfl⟩)
    | (go_at_call 14; refine (ended_any F3').mono ?_; rintro e w' ⟨rfl, rfl⟩)
    | (go_at_call 15; refine (broken_nil F3').mono ?_; rintro e w' ⟨rfl, rfl⟩)
    | (go_at_call 16; refine (gone_any F3').mono ?_; rintro e w' ⟨rfl, rfl⟩)
    | (go_at_call 11; refine (lookup_any S3 nm hnl (.pointer (some ⟨b1, 0, none⟩)) HU1.out).mono ?_; rintro e w' ⟨rfl, rfl⟩))
  go_ret
  exact ⟨rfl, HB.out⟩

end Go.Proofs.Qxb6612987a
