/-
  Seat Qxb6612987a: the law FnNewFlightFreshHeldOnceUnlisted: the walk.
-/
import Derived.Test.Qxb6612987aJoin
import Derived.Test.Qxb6612987aEq
import Derived.Deep.RegionWith
namespace Go.Proofs.Qxb6612987a
open Go.RowKit Go.Maps Go.MuLone

theorem bytes20_ok (nm : ByteArray) (k : Int) (w : World) (h : nm.size ≤ 1048576) :
    Calls Try.prog 20 #[.string nm, .int .i64 k] w fun e w' => e = .returned (.bool true) ∧ w = w' := by
  go_enter Try.func20, Try.ntmps20
  go_wp2
  go_ret
  exact ⟨rfl, rfl⟩

theorem bytes20_no (nm : ByteArray) (k : Int) (w : World) (h : 1048576 < nm.size) :
    Calls Try.prog 20 #[.string nm, .int .i64 k] w fun e w' => e = .returned (.bool false) ∧ w = w' := by
  go_enter Try.func20, Try.ntmps20
  go_wp2
  go_ret
  exact ⟨rfl, rfl⟩

theorem zznew_any (w : World) (s mb rb cb : Nat) (lk : Int) (hs : w.heap[s]? = some (flightsObj mb rb cb lk)) (nm : ByteArray) :
    Calls Try.prog 21 #[.pointer (some ⟨s, 0, none⟩), .string nm] w fun e w' => ∃ b, e = .returned (.pointer (some ⟨b, 0, none⟩)) ∧ FlightIs w' b nm false false .nilIface 1 ∧ w.grownBy w' none ∧ w.heap.size ≤ b := by
  have HS : Hid (w.heap[s]? = some (flightsObj mb rb cb lk)) := hs
  clear hs
  go_enter Try.func21, Try.ntmps21
  go_wp2_with fail
  refine (newFlight_any _ s mb rb cb lk HS.out nm).mono ?_
  rintro e w2 ⟨b, rfl, F2, hg2, hbl⟩
  go_wp2
  go_ret
  exact ⟨b, rfl, F2, hg2, hbl⟩

theorem zzhold_yes {w : World} {b : Nat} {nm : ByteArray} {h : Int} (H : FlightIs w b nm false false .nilIface h) :
    Calls Try.prog 23 #[.pointer (some ⟨b, 0, none⟩)] w fun e w' => e = .returned (.bool true) ∧ FlightIs w' b nm false false .nilIface (wrap64 (h + 1)) ∧ w.grownBy w' (some b) := by
  go_enter Try.func23, Try.ntmps23
  go_wp2_with fail
  refine (hold_yes_f H).mono ?_
  rintro e w2 ⟨rfl, F2, hg2⟩
  go_wp2
  go_ret
  exact ⟨rfl, F2, hg2⟩

theorem FlightIs.apart {w : World} {b b' : Nat} {nm nm' : ByteArray} {st en st' en' : Bool} {er er' : Value} {h h' : Int} (H : FlightIs w b nm st en er h) (H' : FlightIs w b' nm' st' en' er' h') (hne : h ≠ h') : b ≠ b' := by
  obtain ⟨sv, cv, hb⟩ := H
  obtain ⟨sv', cv', hb'⟩ := H'
  intro e
  rw [e, hb'] at hb
  simp [flightObj] at hb
  exact hne hb.2.2.2.2.2.2.symm

set_option maxRecDepth 100000 in
set_option maxHeartbeats 1600000 in
theorem walk5_main (nm : ByteArray) (k : Nat) (w : World) (h : nm.size ≤ 1048576) (hk : k ≤ 65536) :
    Calls Try.prog 5 #[.string nm, .int .i64 k] w fun e w' => e = .returned (.bool true) ∧ Below w.heap.size w w' := by
  have hnl : nm.size ≤ maxLen := by unfold maxLen; omega
  go_enter Try.func5, Try.ntmps5
  go_wp2_with (go_at_call 20; refine (bytes20_ok _ _ _ h).mono ?_; rintro e w' ⟨rfl, rfl⟩)
  refine (newFlights_any _).mono ?_
  rintro e w1 ⟨s, mb, rfl, S1, hg1, hs1, hm1⟩
  go_wp2_with fail
  have hsl := S1.lt
  have S1' := S1
  obtain ⟨⟨rb, cb, hs⟩, hm⟩ := S1
  have HS : Hid (w1.heap[s]? = some (flightsObj mb rb cb 0)) := hs
  clear hs
  refine (zznew_any _ s mb rb cb 0 HS.out nm).mono ?_
  rintro e w2 ⟨b, rfl, F2, hg2, hbl⟩
  go_wp2_with fail
  refine (zznew_any _ s mb rb cb 0 ((hg2.block s hsl (by simp)).trans HS.out) nm).mono ?_
  rintro e w3 ⟨b', rfl, F3', hg3, hbl'⟩
  have hbb : b < b' := Nat.lt_of_lt_of_le F2.lt hbl'
  have F3 : FlightIs w3 b nm false false .nilIface 1 := F2.kept (hg3.block b F2.lt (by simp))
  have S3 : FlightsIs w3 s mb 0 (fun _ => none) := (S1'.kept (hg2.block s hsl (by simp)) (hg2.block mb S1'.2.lt (by simp))).kept (hg3.block s (Nat.lt_of_lt_of_le hsl hg2.size) (by simp)) (hg3.block mb (Nat.lt_of_lt_of_le S1'.2.lt hg2.size) (by simp))
  have hbne : ¬ b = b' := by omega
  have E1 := eql24_other F3 F3' hbne
  go_wp2_with (first
    | (go_at_call_of 12 b; refine (name_any F3).mono ?_; rintro e w' ⟨rfl, rfl⟩)
    | (go_at_call_of 12 b'; refine (name_any F3').mono ?_; rintro e w' ⟨rfl, rfl⟩)
    | (go_at_call_of 10 b; refine (holders_any F3).mono ?_; rintro e w' ⟨rfl, rfl⟩)
    | (go_at_call_of 10 b'; refine (holders_any F3').mono ?_; rintro e w' ⟨rfl, rfl⟩)
    | (go_at_call 13; refine (started_any F3).mono ?_; rintro e w' ⟨rfl, rfl⟩)
    | (go_at_call 14; refine (ended_any F3).mono ?_; rintro e w' ⟨rfl, rfl⟩)
    | (go_at_call 15; refine (broken_nil F3).mono ?_; rintro e w' ⟨rfl, rfl⟩)
    | (go_at_call 16; refine (gone_any F3).mono ?_; rintro e w' ⟨rfl, rfl⟩)
    | (go_at_call 22; refine (size_any F3).mono ?_; rintro e w' ⟨rfl, rfl⟩)
    | (go_at_call 11; refine (lookup_any S3 nm hnl (.pointer none) rfl).mono ?_; rintro e w' ⟨rfl, rfl⟩))
  have HB : Hid (Below w.heap.size w w3) := ((((Below.refl _ _).grown hg1 (Nat.le_refl _) (by simp)).grown hg2 hg1.size (by simp)).grown hg3 (Nat.le_trans hg1.size hg2.size) (by simp))
  have hwb : w.heap.size ≤ b := Nat.le_trans hg1.size hbl
  clear S3 E1 HS hm S1' hsl hs1 hm1 hg1 hg2 hg3 hbl hbl' F2
  go_loopw [8] (fun i wr => ∃ j : Nat, j ≤ k ∧ i = .int .i64 j ∧ FlightIs wr b nm false false .nilIface (1 + j) ∧ FlightIs wr b' nm false false .nilIface 1 ∧ Hid (Below w.heap.size w wr)) (fun i _ => k - (intOf i).toNat)
  case atStart => exact ⟨0, Nat.zero_le _, rfl, F3, F3', HB⟩
  case round =>
    obtain ⟨j, hj, rfl, G, G', HBr⟩ := hrel
    by_cases hlt : j < k
    · go_wp2_with fail
      refine (zzhold_yes G).mono ?_
      rintro e w5 ⟨rfl, G5, hg5⟩
      rw [show wrap64 (1 + (j : Int) + 1) = 1 + ((j + 1 : Nat) : Int) from by unfold wrap64; omega] at G5
      have G5' := G'.kept (hg5.block b' G'.lt (by simp; omega))
      have HB5 : Hid (Below w.heap.size w w5) := HBr.out.grown hg5 HBr.out.size (by simp; omega)
      clear hg5
      go_wp2
      go_roundw
      case rel => exact ⟨j + 1, by omega, by go_num, G5, G5', HB5⟩
      case measure => simp [intOf]; omega
    · have hjk : j = k := by omega
      subst hjk
      go_wp2_with (first
        | (go_at_call_of 10 b; refine (holders_any G).mono ?_; rintro e w' ⟨rfl, rfl⟩)
        | (go_at_call_of 10 b'; refine (holders_any G').mono ?_; rintro e w' ⟨rfl, rfl⟩))
      go_ret
      exact ⟨rfl, HBr.out⟩

theorem walk5_big (nm : ByteArray) (k : Int) (w : World) (h : 1048576 < nm.size) :
    Calls Try.prog 5 #[.string nm, .int .i64 k] w fun e w' => e = .returned (.bool true) ∧ Below w.heap.size w w' := by
  go_enter Try.func5, Try.ntmps5
  go_wp2_with (go_at_call 20; refine (bytes20_no _ _ _ h).mono ?_; rintro e w' ⟨rfl, rfl⟩)
  go_ret
  exact ⟨rfl, Below.refl _ _⟩

theorem walk5_neg (nm : ByteArray) (k : Int) (w : World) (h : nm.size ≤ 1048576) (hk : k < 0) :
    Calls Try.prog 5 #[.string nm, .int .i64 k] w fun e w' => e = .returned (.bool true) ∧ Below w.heap.size w w' := by
  go_enter Try.func5, Try.ntmps5
  go_wp2_with (go_at_call 20; refine (bytes20_ok _ _ _ h).mono ?_; rintro e w' ⟨rfl, rfl⟩)
  go_ret
  exact ⟨rfl, Below.refl _ _⟩

theorem walk5_far (nm : ByteArray) (k : Int) (w : World) (h : nm.size ≤ 1048576) (hk : 65536 < k) :
    Calls Try.prog 5 #[.string nm, .int .i64 k] w fun e w' => e = .returned (.bool true) ∧ Below w.heap.size w w' := by
  go_enter Try.func5, Try.ntmps5
  go_wp2_with (go_at_call 20; refine (bytes20_ok _ _ _ h).mono ?_; rintro e w' ⟨rfl, rfl⟩)
  go_ret
  exact ⟨rfl, Below.refl _ _⟩

theorem walk5 (nm : ByteArray) (k : Int) (w : World) :
    Calls Try.prog 5 #[.string nm, .int .i64 k] w fun e w' => e = .returned (.bool true) ∧ Below w.heap.size w w' := by
  by_cases h : 1048576 < nm.size
  · exact walk5_big nm k w h
  · have h' : nm.size ≤ 1048576 := by omega
    by_cases h1 : k < 0
    · exact walk5_neg nm k w h' h1
    · by_cases h2 : 65536 < k
      · exact walk5_far nm k w h' h2
      · obtain ⟨j, rfl⟩ := Int.eq_ofNat_of_zero_le (show 0 ≤ k by omega)
        exact walk5_main nm j w h' (by omega)

end Go.Proofs.Qxb6612987a
