/-
  Seat Qxb6612987a: hold, newFlight, newFlights, the look-up, join: their contracts.
-/
import Derived.Test.Qxb6612987aBase
import Derived.RegionTactic
namespace Go.Proofs.Qxb6612987a
open Go.RowKit Go.Maps Go.MuLone

theorem heap_set {w : World} {b : Nat} {c : Array Value} {t : TypeId} (hb : w.heap[b]? = some (.cells c t)) (o : Nat) (v : Value) :
    (w.setCell ⟨b, o, none⟩ v).heap[b]? = some (.cells (c.setIfInBounds o v) t) := by
  simp [World.setCell, Array.getElem?_modify, hb]

theorem grown_set (w : World) (b o : Nat) (v : Value) : w.grownBy (w.setCell ⟨b, o, none⟩ v) (some b) :=
  ⟨rfl, rfl, rfl, by simp [World.setCell], fun k _ hk => Below.heap_setCell _ _ _ _ (fun e => hk (by rw [e]))⟩

theorem FlightIs.kept {w w' : World} {b : Nat} {nm : ByteArray} {st en : Bool} {er : Value} {h : Int} (H : FlightIs w b nm st en er h) (hk : w'.heap[b]? = w.heap[b]?) : FlightIs w' b nm st en er h := by
  obtain ⟨sv, cv, hb⟩ := H
  exact ⟨sv, cv, hk.trans hb⟩

theorem FlightIs.lt {w : World} {b : Nat} {nm : ByteArray} {st en : Bool} {er : Value} {h : Int} (H : FlightIs w b nm st en er h) : b < w.heap.size := by
  obtain ⟨sv, cv, hb⟩ := H
  exact (Array.getElem?_eq_some_iff.1 hb).1

theorem heap_taken {w : World} {b : Nat} {nm : ByteArray} {sv cv : Value} {st en : Bool} {er : Value} {h : Int} (hb : w.heap[b]? = some (flightObj nm sv cv 0 st en er h)) :
    (w.setCell ⟨b, 2, none⟩ (.int .i32 1)).heap[b]? = some (flightObj nm sv cv 1 st en er h) := by
  unfold flightObj at hb ⊢
  rw [heap_set hb]
  rfl
theorem heap_freed {w : World} {b : Nat} {nm : ByteArray} {sv cv : Value} {st en : Bool} {er : Value} {h : Int} (hb : w.heap[b]? = some (flightObj nm sv cv 1 st en er h)) :
    (w.setCell ⟨b, 2, none⟩ (.int .i32 0)).heap[b]? = some (flightObj nm sv cv 0 st en er h) := by
  unfold flightObj at hb ⊢
  rw [heap_set hb]
  rfl
theorem heap_counted {w : World} {b : Nat} {nm : ByteArray} {sv cv : Value} {lk : Int} {st en : Bool} {er : Value} {h : Int} (hb : w.heap[b]? = some (flightObj nm sv cv lk st en er h)) (h' : Int) :
    (w.setCell ⟨b, 9, none⟩ (.int .i64 h')).heap[b]? = some (flightObj nm sv cv lk st en er h') := by
  unfold flightObj at hb ⊢
  rw [heap_set hb]
  rfl

theorem hold_yes_f {w : World} {b : Nat} {nm : ByteArray} {st : Bool} {er : Value} {h : Int} (H : FlightIs w b nm st false er h) :
    Calls Try.prog 27 #[.pointer (some ⟨b, 0, none⟩)] w fun e w' => e = .returned (.bool true) ∧ FlightIs w' b nm st false er (wrap64 (h + 1)) ∧ w.grownBy w' (some b) := by
  obtain ⟨sv, cv, hb⟩ := H
  have c2 := fl_c2 hb
  have c6 := fl_c6 hb
  have c9 := fl_c9 hb
  have fz := fl_fz hb
  have HB : Hid (w.heap[b]? = some (flightObj nm sv cv 0 st false er h)) := hb
  clear hb
  go_enter_defers Try.func27, Try.ntmps27
  go_wp2_with (go_at_call 28; refine (lock_free Try.muLib ⟨b, 2, none⟩ _ c2 (fz 2)).mono ?_; rintro e w' ⟨rfl, rfl⟩)
  refine leaves_cons (f := 29) (args := #[.pointer (some ⟨b, 2, none⟩)]) (by simp) (by simp [go_sem]) ?_
  have hb1 := heap_counted (heap_taken HB.out) (wrap64 (h + 1))
  refine (unlock_deferred Try.muLib ⟨b, 2, none⟩ .returning _ (fl_c2 hb1) (fl_fz hb1 2)).mono ?_
  rintro e u' w'' ⟨rfl, rfl, rfl⟩
  exact ⟨_, results_tmp rfl _ _ _, rfl, ⟨sv, cv, heap_freed hb1⟩, ((grown_set _ _ _ _).trans (grown_set _ _ _ _)).trans (grown_set _ _ _ _)⟩

theorem hold_yes_t {w : World} {b : Nat} {nm : ByteArray} {h : Int} (H : FlightIs w b nm true true .nilIface h) :
    Calls Try.prog 27 #[.pointer (some ⟨b, 0, none⟩)] w fun e w' => e = .returned (.bool true) ∧ FlightIs w' b nm true true .nilIface (wrap64 (h + 1)) ∧ w.grownBy w' (some b) := by
  obtain ⟨sv, cv, hb⟩ := H
  have c2 := fl_c2 hb
  have c5 := fl_c5 hb
  have c6 := fl_c6 hb
  have c7 := fl_c7 hb
  have c9 := fl_c9 hb
  have fz := fl_fz hb
  have HB : Hid (w.heap[b]? = some (flightObj nm sv cv 0 true true .nilIface h)) := hb
  clear hb
  go_enter_defers Try.func27, Try.ntmps27
  go_wp2_with (go_at_call 28; refine (lock_free Try.muLib ⟨b, 2, none⟩ _ c2 (fz 2)).mono ?_; rintro e w' ⟨rfl, rfl⟩)
  refine leaves_cons (f := 29) (args := #[.pointer (some ⟨b, 2, none⟩)]) (by simp) (by simp [go_sem]) ?_
  have hb1 := heap_counted (heap_taken HB.out) (wrap64 (h + 1))
  refine (unlock_deferred Try.muLib ⟨b, 2, none⟩ .returning _ (fl_c2 hb1) (fl_fz hb1 2)).mono ?_
  rintro e u' w'' ⟨rfl, rfl, rfl⟩
  exact ⟨_, results_tmp rfl _ _ _, rfl, ⟨sv, cv, heap_freed hb1⟩, ((grown_set _ _ _ _).trans (grown_set _ _ _ _)).trans (grown_set _ _ _ _)⟩

theorem hold_no_f {w : World} {b : Nat} {nm : ByteArray} {er : Value} {h : Int} (H : FlightIs w b nm false true er h) :
    Calls Try.prog 27 #[.pointer (some ⟨b, 0, none⟩)] w fun e w' => e = .returned (.bool false) ∧ FlightIs w' b nm false true er h ∧ w.grownBy w' (some b) := by
  obtain ⟨sv, cv, hb⟩ := H
  have c2 := fl_c2 hb
  have c5 := fl_c5 hb
  have c6 := fl_c6 hb
  have fz := fl_fz hb
  have HB : Hid (w.heap[b]? = some (flightObj nm sv cv 0 false true er h)) := hb
  clear hb
  go_enter_defers Try.func27, Try.ntmps27
  go_wp2_with (go_at_call 28; refine (lock_free Try.muLib ⟨b, 2, none⟩ _ c2 (fz 2)).mono ?_; rintro e w' ⟨rfl, rfl⟩)
  refine leaves_cons (f := 29) (args := #[.pointer (some ⟨b, 2, none⟩)]) (by simp) (by simp [go_sem]) ?_
  have hb1 := heap_taken HB.out
  refine (unlock_deferred Try.muLib ⟨b, 2, none⟩ .returning _ (fl_c2 hb1) (fl_fz hb1 2)).mono ?_
  rintro e u' w'' ⟨rfl, rfl, rfl⟩
  exact ⟨_, results_tmp rfl _ _ _, rfl, ⟨sv, cv, heap_freed hb1⟩, (grown_set _ _ _ _).trans (grown_set _ _ _ _)⟩

theorem hold_no_t {w : World} {b : Nat} {nm : ByteArray} {t : TypeId} {v : Value} {h : Int} (H : FlightIs w b nm true true (.iface t v) h) :
    Calls Try.prog 27 #[.pointer (some ⟨b, 0, none⟩)] w fun e w' => e = .returned (.bool false) ∧ FlightIs w' b nm true true (.iface t v) h ∧ w.grownBy w' (some b) := by
  obtain ⟨sv, cv, hb⟩ := H
  have c2 := fl_c2 hb
  have c5 := fl_c5 hb
  have c6 := fl_c6 hb
  have c7 := fl_c7 hb
  have fz := fl_fz hb
  have HB : Hid (w.heap[b]? = some (flightObj nm sv cv 0 true true (.iface t v) h)) := hb
  clear hb
  go_enter_defers Try.func27, Try.ntmps27
  go_wp2_with (go_at_call 28; refine (lock_free Try.muLib ⟨b, 2, none⟩ _ c2 (fz 2)).mono ?_; rintro e w' ⟨rfl, rfl⟩)
  refine leaves_cons (f := 29) (args := #[.pointer (some ⟨b, 2, none⟩)]) (by simp) (by simp [go_sem]) ?_
  have hb1 := heap_taken HB.out
  refine (unlock_deferred Try.muLib ⟨b, 2, none⟩ .returning _ (fl_c2 hb1) (fl_fz hb1 2)).mono ?_
  rintro e u' w'' ⟨rfl, rfl, rfl⟩
  exact ⟨_, results_tmp rfl _ _ _, rfl, ⟨sv, cv, heap_freed hb1⟩, (grown_set _ _ _ _).trans (grown_set _ _ _ _)⟩

end Go.Proofs.Qxb6612987a
