/-
  Seat Qxb6612987a: the blocks that the program makes (a flight, a set of flights), and the contracts of the small readers.
-/
import Derived.Test.Qxb6612987aRows
import Derived.Test.Qxb6612987aLocks
import Derived.Conc.MuLone
import Derived.Maps.OwnSet
import Derived.WalkKit
import Derived.WalkSpells
import Derived.WalkLawsBesides
namespace Go.Proofs.Qxb6612987a
open Go.RowKit Go.Maps Go.MuLone

/-- A flight's block: 15 cells. lk: the lock's state word; sv, cv: the two channels; er: the error. -/
def flightObj (nm : ByteArray) (sv cv : Value) (lk : Int) (st en : Bool) (er : Value) (h : Int) : Obj :=
  .cells #[.string nm, sv, .int .i32 lk, .int .u32 0, cv, .bool st, .bool en, er, .int .i64 0, .int .i64 h, .nilFunc, .bool false, .map none, .string ByteArray.empty, .pointer none] 66

/-- Block b of w is a flight, its lock free. -/
def FlightIs (w : World) (b : Nat) (nm : ByteArray) (st en : Bool) (er : Value) (h : Int) : Prop :=
  ∃ sv cv, w.heap[b]? = some (flightObj nm sv cv 0 st en er h)

section
variable {w : World} {b : Nat} {nm : ByteArray} {sv cv : Value} {lk : Int} {st en : Bool} {er : Value} {h : Int}

theorem fl_c0 (hb : w.heap[b]? = some (flightObj nm sv cv lk st en er h)) : w.cell? ⟨b, 0, none⟩ = some (.string nm) := by simp [World.cell?, hb, flightObj]
theorem fl_c2 (hb : w.heap[b]? = some (flightObj nm sv cv lk st en er h)) : w.cell? ⟨b, 2, none⟩ = some (.int .i32 lk) := by simp [World.cell?, hb, flightObj]
theorem fl_c5 (hb : w.heap[b]? = some (flightObj nm sv cv lk st en er h)) : w.cell? ⟨b, 5, none⟩ = some (.bool st) := by simp [World.cell?, hb, flightObj]
theorem fl_c6 (hb : w.heap[b]? = some (flightObj nm sv cv lk st en er h)) : w.cell? ⟨b, 6, none⟩ = some (.bool en) := by simp [World.cell?, hb, flightObj]
theorem fl_c7 (hb : w.heap[b]? = some (flightObj nm sv cv lk st en er h)) : w.cell? ⟨b, 7, none⟩ = some er := by simp [World.cell?, hb, flightObj]
theorem fl_c8 (hb : w.heap[b]? = some (flightObj nm sv cv lk st en er h)) : w.cell? ⟨b, 8, none⟩ = some (.int .i64 0) := by simp [World.cell?, hb, flightObj]
theorem fl_c9 (hb : w.heap[b]? = some (flightObj nm sv cv lk st en er h)) : w.cell? ⟨b, 9, none⟩ = some (.int .i64 h) := by simp [World.cell?, hb, flightObj]
theorem fl_c11 (hb : w.heap[b]? = some (flightObj nm sv cv lk st en er h)) : w.cell? ⟨b, 11, none⟩ = some (.bool false) := by simp [World.cell?, hb, flightObj]
theorem fl_fz (hb : w.heap[b]? = some (flightObj nm sv cv lk st en er h)) (o : Nat) : w.frozen? ⟨b, o, none⟩ = false := by simp [World.frozen?, hb, flightObj]

end

theorem name_any {w : World} {b : Nat} {nm : ByteArray} {st en : Bool} {er : Value} {h : Int} (H : FlightIs w b nm st en er h) :
    Calls Try.prog 12 #[.pointer (some ⟨b, 0, none⟩)] w fun e w' => e = .returned (.string nm) ∧ w = w' := by
  obtain ⟨sv, cv, hb⟩ := H
  have c := fl_c0 hb
  clear hb
  go_enter Try.func12, Try.ntmps12
  go_wp2
  go_ret
  exact ⟨rfl, rfl⟩

theorem holders_any {w : World} {b : Nat} {nm : ByteArray} {st en : Bool} {er : Value} {h : Int} (H : FlightIs w b nm st en er h) :
    Calls Try.prog 10 #[.pointer (some ⟨b, 0, none⟩)] w fun e w' => e = .returned (.int .i64 h) ∧ w = w' := by
  obtain ⟨sv, cv, hb⟩ := H
  have c := fl_c9 hb
  clear hb
  go_enter Try.func10, Try.ntmps10
  go_wp2
  go_ret
  exact ⟨rfl, rfl⟩

theorem started_any {w : World} {b : Nat} {nm : ByteArray} {st en : Bool} {er : Value} {h : Int} (H : FlightIs w b nm st en er h) :
    Calls Try.prog 13 #[.pointer (some ⟨b, 0, none⟩)] w fun e w' => e = .returned (.bool st) ∧ w = w' := by
  obtain ⟨sv, cv, hb⟩ := H
  have c := fl_c5 hb
  clear hb
  go_enter Try.func13, Try.ntmps13
  go_wp2
  go_ret
  exact ⟨rfl, rfl⟩

theorem ended_any {w : World} {b : Nat} {nm : ByteArray} {st en : Bool} {er : Value} {h : Int} (H : FlightIs w b nm st en er h) :
    Calls Try.prog 14 #[.pointer (some ⟨b, 0, none⟩)] w fun e w' => e = .returned (.bool en) ∧ w = w' := by
  obtain ⟨sv, cv, hb⟩ := H
  have c := fl_c6 hb
  clear hb
  go_enter Try.func14, Try.ntmps14
  go_wp2
  go_ret
  exact ⟨rfl, rfl⟩

theorem broken_nil {w : World} {b : Nat} {nm : ByteArray} {st en : Bool} {h : Int} (H : FlightIs w b nm st en .nilIface h) :
    Calls Try.prog 15 #[.pointer (some ⟨b, 0, none⟩)] w fun e w' => e = .returned (.bool false) ∧ w = w' := by
  obtain ⟨sv, cv, hb⟩ := H
  have c := fl_c7 hb
  clear hb
  go_enter Try.func15, Try.ntmps15
  go_wp2
  go_ret
  exact ⟨rfl, rfl⟩

theorem gone_any {w : World} {b : Nat} {nm : ByteArray} {st en : Bool} {er : Value} {h : Int} (H : FlightIs w b nm st en er h) :
    Calls Try.prog 16 #[.pointer (some ⟨b, 0, none⟩)] w fun e w' => e = .returned (.bool false) ∧ w = w' := by
  obtain ⟨sv, cv, hb⟩ := H
  have c := fl_c11 hb
  clear hb
  go_enter Try.func16, Try.ntmps16
  go_wp2
  go_ret
  exact ⟨rfl, rfl⟩

theorem size_any {w : World} {b : Nat} {nm : ByteArray} {st en : Bool} {er : Value} {h : Int} (H : FlightIs w b nm st en er h) :
    Calls Try.prog 22 #[.pointer (some ⟨b, 0, none⟩)] w fun e w' => e = .returned (.int .i64 0) ∧ w = w' := by
  obtain ⟨sv, cv, hb⟩ := H
  have c := fl_c8 hb
  clear hb
  go_enter Try.func22, Try.ntmps22
  go_wp2
  go_ret
  exact ⟨rfl, rfl⟩

end Go.Proofs.Qxb6612987a
