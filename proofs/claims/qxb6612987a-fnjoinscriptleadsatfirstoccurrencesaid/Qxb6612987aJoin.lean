/-
  Seat Qxb6612987a: newFlights, newFlight, the look-up, join: their contracts.
-/
import Derived.Test.Qxb6612987aFlights
import Derived.Test.Qxb6612987aMaps
import Derived.RegionTactic
namespace Go.Proofs.Qxb6612987a
open Go.RowKit Go.Maps Go.MuLone

def flightsObj (mb rb cb : Nat) (lk : Int) : Obj :=
  .cells #[.int .i32 lk, .int .u32 0, .map (some mb), .map (some rb), .pointer none, .chan (some cb), .bool false] 55

/-- Block s of w is a set of flights, its lock free; block mb, its map, holds f. -/
def FlightsIs (w : World) (s mb n : Nat) (f : ByteArray → Option Value) : Prop :=
  (∃ rb cb, w.heap[s]? = some (flightsObj mb rb cb 0)) ∧ MapIs w mb n f

theorem run_chan (w : World) : (Instr.makeChan 53 (.int .i64 0)).run Try.prog w = .ok (.chan (some w.heap.size)) (w.alloc (.chan 0 #[] false 0 0 false)) := by kernel_rfl

theorem heap_new (w : World) (o : Obj) : (w.alloc o).heap[w.heap.size]? = some o := (MapKept.heap_alloc w o).1
theorem heap_old (w : World) (o : Obj) (k : Nat) (h : k < w.heap.size) : (w.alloc o).heap[k]? = w.heap[k]? := Below.heap_alloc w o k h
theorem size_new (w : World) (o : Obj) : (w.alloc o).heap.size = w.heap.size + 1 := by simp

theorem grown_drew (w : World) (row : Option Nat) : w.grownBy w.drew row := ⟨rfl, rfl, rfl, Nat.le_refl _, fun _ _ _ => rfl⟩

set_option maxRecDepth 100000 in
set_option maxHeartbeats 400000 in
theorem newFlights_any (w : World) :
    Calls Try.prog 19 #[] w fun e w' => ∃ s mb, e = .returned (.pointer (some ⟨s, 0, none⟩)) ∧ FlightsIs w' s mb 0 (fun _ => none) ∧ w.grownBy w' none ∧ w.heap.size ≤ s ∧ w.heap.size ≤ mb := by
  have hmm := @run_makeMap Try.prog
  have hch := run_chan
  go_enter Try.func19, Try.ntmps19
  go_wp2
  go_ret
  refine ⟨w.heap.size + 1 + 1 + 1, w.heap.size, rfl, ⟨⟨w.heap.size + 1, w.heap.size + 1 + 1, ?_⟩, ?_⟩, ?_, by omega, Nat.le_refl _⟩
  · have h := heap_new (((w.alloc (.map #[] 0)).alloc (.map #[] 0)).alloc (.chan 0 #[] false 0 0 false)) (flightsObj w.heap.size (w.heap.size + 1) (w.heap.size + 1 + 1) 0)
    rw [size_new, size_new, size_new] at h
    exact h
  · refine (MapIs.made w).kept ?_
    rw [heap_old _ _ _ (by rw [size_new, size_new, size_new]; omega), heap_old _ _ _ (by rw [size_new, size_new]; omega), heap_old _ _ _ (by rw [size_new]; omega)]
  · exact (((World.grownBy_alloc _ _ _).trans (World.grownBy_alloc _ _ _)).trans (World.grownBy_alloc _ _ _)).trans (World.grownBy_alloc _ _ _)

set_option maxHeartbeats 400000 in
theorem newFlight_any (w : World) (s mb rb cb : Nat) (lk : Int) (hs : w.heap[s]? = some (flightsObj mb rb cb lk)) (nm : ByteArray) :
    Calls Try.prog 26 #[.pointer (some ⟨s, 0, none⟩), .string nm] w fun e w' => ∃ b, e = .returned (.pointer (some ⟨b, 0, none⟩)) ∧ FlightIs w' b nm false false .nilIface 1 ∧ w.grownBy w' none ∧ w.heap.size ≤ b := by
  have c5 : w.cell? ⟨s, 5, none⟩ = some (.chan (some cb)) := by simp [World.cell?, hs, flightsObj]
  have hlt : s < w.heap.size := (Array.getElem?_eq_some_iff.1 hs).1
  have c5' : (w.alloc (.chan 0 #[] false 0 0 false)).cell? ⟨s, 5, none⟩ = some (.chan (some cb)) := by rw [World.cell?_alloc_past _ _ _ hlt]; exact c5
  clear hs
  have hch := run_chan
  go_enter Try.func26, Try.ntmps26
  go_wp2
  go_region
  go_wp2
  go_ret
  refine ⟨w.heap.size + 1, rfl, ⟨.chan (some cb), .chan (some w.heap.size), ?_⟩, ?_, by omega⟩
  · have h := heap_new (w.alloc (.chan 0 #[] false 0 0 false)) (flightObj nm (.chan (some cb)) (.chan (some w.heap.size)) 0 false false .nilIface 1)
    rw [size_new] at h
    exact h
  · exact ((World.grownBy_alloc _ _ _).trans (World.grownBy_alloc _ _ _)).trans (grown_drew _ _)

theorem FlightsIs.at2 {w : World} {s mb rb cb : Nat} {lk : Int} (hs : w.heap[s]? = some (flightsObj mb rb cb lk)) : w.cell? ⟨s, 2, none⟩ = some (.map (some mb)) := by simp [World.cell?, hs, flightsObj]
theorem FlightsIs.at0 {w : World} {s mb rb cb : Nat} {lk : Int} (hs : w.heap[s]? = some (flightsObj mb rb cb lk)) : w.cell? ⟨s, 0, none⟩ = some (.int .i32 lk) := by simp [World.cell?, hs, flightsObj]
theorem FlightsIs.fz {w : World} {s mb rb cb : Nat} {lk : Int} (hs : w.heap[s]? = some (flightsObj mb rb cb lk)) (o : Nat) : w.frozen? ⟨s, o, none⟩ = false := by simp [World.frozen?, hs, flightsObj]
theorem FlightsIs.set0 {w : World} {s mb rb cb : Nat} {lk : Int} (hs : w.heap[s]? = some (flightsObj mb rb cb lk)) (lk' : Int) : (w.setCell ⟨s, 0, none⟩ (.int .i32 lk')).heap[s]? = some (flightsObj mb rb cb lk') := by
  unfold flightsObj at hs ⊢
  rw [heap_set hs]
  rfl

theorem FlightsIs.ne {w : World} {s mb n : Nat} {f : ByteArray → Option Value} (H : FlightsIs w s mb n f) : mb ≠ s := by
  obtain ⟨⟨rb, cb, hs⟩, hm⟩ := H
  obtain ⟨es, c, hb⟩ := hm.isMap
  intro e
  rw [e, hs] at hb
  simp [flightsObj] at hb

theorem FlightsIs.lt {w : World} {s mb n : Nat} {f : ByteArray → Option Value} (H : FlightsIs w s mb n f) : s < w.heap.size := by
  obtain ⟨⟨rb, cb, hs⟩, hm⟩ := H
  exact (Array.getElem?_eq_some_iff.1 hs).1

theorem FlightsIs.kept {w w' : World} {s mb n : Nat} {f : ByteArray → Option Value} (H : FlightsIs w s mb n f) (h1 : w'.heap[s]? = w.heap[s]?) (h2 : w'.heap[mb]? = w.heap[mb]?) : FlightsIs w' s mb n f := by
  obtain ⟨⟨rb, cb, hs⟩, hm⟩ := H
  exact ⟨⟨rb, cb, h1.trans hs⟩, hm.kept h2⟩

/-- A flight's block is neither the set's nor the map's. -/
theorem FlightIs.ne_s {w : World} {s mb n b : Nat} {f : ByteArray → Option Value} (H : FlightsIs w s mb n f) {nm : ByteArray} {st en : Bool} {er : Value} {h : Int} (F : FlightIs w b nm st en er h) : b ≠ s ∧ b ≠ mb := by
  obtain ⟨⟨rb, cb, hs⟩, hm⟩ := H
  obtain ⟨sv, cv, hb⟩ := F
  refine ⟨fun e => ?_, fun e => ?_⟩
  · rw [e, hs] at hb
    simp [flightsObj, flightObj] at hb
  · obtain ⟨es, c, hc⟩ := hm.isMap
    rw [e, hc] at hb
    simp [flightObj] at hb

theorem lookup_any {w : World} {s mb n : Nat} {f : ByteArray → Option Value} (H : FlightsIs w s mb n f) (nm : ByteArray) (hn : nm.size ≤ maxLen) (v : Value) (hv : (f nm).getD (.pointer none) = v) :
    Calls Try.prog 11 #[.pointer (some ⟨s, 0, none⟩), .string nm] w fun e w' => e = .returned v ∧ w = w' := by
  obtain ⟨⟨rb, cb, hs⟩, hm⟩ := H
  have c2 := FlightsIs.at2 hs
  clear hs
  have HV : Hid ((f nm).getD (.pointer none) = v) := hv
  clear hv
  go_enter Try.func11, Try.ntmps11
  go_wp2_with (at_lookup; refine wpList_look _ rfl _ _ 50 rfl 24 Try.underlying50 _ (zero24 _) mb n f rfl hm nm rfl hn v HV.out ?_)
  go_ret
  exact ⟨rfl, rfl⟩

/-- What 'hold' answers at this flight, whatever the world. -/
def Holding (b : Nat) (nm : ByteArray) (st en : Bool) (er : Value) (h : Int) (r : Bool) (h' : Int) : Prop :=
  ∀ w, FlightIs w b nm st en er h → Calls Try.prog 27 #[.pointer (some ⟨b, 0, none⟩)] w fun e w' => e = .returned (.bool r) ∧ FlightIs w' b nm st en er h' ∧ w.grownBy w' (some b)

theorem join_hit {w : World} {s mb n : Nat} {f : ByteArray → Option Value} (H : FlightsIs w s mb n f) (nm : ByteArray) (hn : nm.size ≤ maxLen) (b : Nat) (hv : f nm = some (.pointer (some ⟨b, 0, none⟩)))
    {nm' : ByteArray} {st en : Bool} {er : Value} {h h' : Int} (F : FlightIs w b nm' st en er h) (hh : Holding b nm' st en er h true h') :
    Calls Try.prog 25 #[.pointer (some ⟨s, 0, none⟩), .string nm] w fun e w' => e = .returned (.tuple #[.pointer (some ⟨b, 0, none⟩), .bool false]) ∧ FlightsIs w' s mb n f ∧ FlightIs w' b nm' st en er h' ∧ w.grownBy w' (some b) := by
  have hne := FlightIs.ne_s H F
  have hms := H.ne
  have hsl := H.lt
  have hbl := F.lt
  obtain ⟨⟨rb, cb, hs⟩, hm⟩ := H
  have hml := hm.lt
  have c0 := FlightsIs.at0 hs
  have c2 := FlightsIs.at2 hs
  have fz := FlightsIs.fz hs
  have hs1 := FlightsIs.set0 hs 1
  have hg1 := grown_set w s 0 (.int .i32 1)
  have hm1 : MapIs (w.setCell ⟨s, 0, none⟩ (.int .i32 1)) mb n f := hm.kept (hg1.block mb hml (by simp; exact hms))
  have F1 : FlightIs (w.setCell ⟨s, 0, none⟩ (.int .i32 1)) b nm' st en er h := F.kept (hg1.block b hbl (by simp; exact hne.1))
  have HV : Hid ((f nm).getD (.pointer none) = .pointer (some ⟨b, 0, none⟩)) := by simp [Hid, hv]
  have HS : Hid (w.heap[s]? = some (flightsObj mb rb cb 0)) := hs
  have HS1 : Hid ((w.setCell ⟨s, 0, none⟩ (.int .i32 1)).heap[s]? = some (flightsObj mb rb cb 1)) := hs1
  clear hs hs1 hv
  go_enter_defers Try.func25, Try.ntmps25
  go_wp2_with (first
    | (go_at_call 28; refine (lock_free Try.muLib ⟨s, 0, none⟩ _ c0 (fz 0)).mono ?_; rintro e w' ⟨rfl, rfl⟩)
    | (at_lookup; refine wpList_look _ rfl _ _ 50 rfl 24 Try.underlying50 _ (zero24 _) mb n f rfl hm1 nm rfl hn (.pointer (some ⟨b, 0, none⟩)) HV.out ?_)
    | (go_at_call 27; refine (hh _ F1).mono ?_; rintro e w2 ⟨rfl, F2, hg2⟩))
  refine leaves_cons (f := 29) (args := #[.pointer (some ⟨s, 0, none⟩)]) (by simp) (by simp [go_sem]) ?_
  have hs2 : w2.heap[s]? = some (flightsObj mb rb cb 1) := (hg2.block s (Nat.lt_of_lt_of_le hsl hg1.size) (by simp; exact fun e => hne.1 e.symm)).trans HS1.out
  refine (unlock_deferred Try.muLib ⟨s, 0, none⟩ .returning _ (FlightsIs.at0 hs2) (FlightsIs.fz hs2 0)).mono ?_
  rintro e u' w'' ⟨rfl, rfl, rfl⟩
  have hg3 := grown_set w2 s 0 (.int .i32 0)
  have hs3 := FlightsIs.set0 hs2 0
  have hl2 : w.heap.size ≤ w2.heap.size := Nat.le_trans hg1.size hg2.size
  have hk : ∀ k, k < w.heap.size → k ≠ b → (w2.setCell ⟨s, 0, none⟩ (.int .i32 0)).heap[k]? = w.heap[k]? := by
    intro k hk hkb
    by_cases hks : k = s
    · rw [hks, hs3, HS.out]
    · rw [hg3.block k (by omega) (by simp; exact hks), hg2.block k (Nat.lt_of_lt_of_le hk hg1.size) (by simp; exact hkb), hg1.block k hk (by simp; exact hks)]
  refine ⟨_, results_tmp2 rfl _ _ _, rfl, ⟨⟨rb, cb, hs3⟩, hm.kept (hk mb hml (fun e => hne.2 e.symm))⟩, F2.kept (hg3.block b (by omega) (by simp; exact hne.1)), ?_⟩
  exact ⟨hg3.os.trans (hg2.os.trans hg1.os), hg3.tape.trans (hg2.tape.trans hg1.tape), hg3.output.trans (hg2.output.trans hg1.output), Nat.le_trans hl2 hg3.size, fun k h1 h2 => hk k h1 (fun e => h2 (by rw [e]))⟩

theorem join_new {w : World} {s mb n : Nat} {f : ByteArray → Option Value} (H : FlightsIs w s mb n f) (hnl : n < maxLen) (nm : ByteArray) (hn : nm.size ≤ maxLen) (hv : f nm = none) :
    Calls Try.prog 25 #[.pointer (some ⟨s, 0, none⟩), .string nm] w fun e w' => ∃ b, e = .returned (.tuple #[.pointer (some ⟨b, 0, none⟩), .bool true]) ∧ FlightsIs w' s mb (n + 1) (upd f nm (.pointer (some ⟨b, 0, none⟩))) ∧ FlightIs w' b nm false false .nilIface 1 ∧ w.grownBy w' (some mb) ∧ w.heap.size ≤ b := by
  have hms := H.ne
  have hsl := H.lt
  obtain ⟨⟨rb, cb, hs⟩, hm⟩ := H
  have hml := hm.lt
  have c0 := FlightsIs.at0 hs
  have c2 := FlightsIs.at2 hs
  have fz := FlightsIs.fz hs
  have hs1 := FlightsIs.set0 hs 1
  have hg1 := grown_set w s 0 (.int .i32 1)
  have hm1 : MapIs (w.setCell ⟨s, 0, none⟩ (.int .i32 1)) mb n f := hm.kept (hg1.block mb hml (by simp; exact hms))
  have HV : Hid ((f nm).getD (.pointer none) = .pointer none) := by simp [Hid, hv]
  have HS : Hid (w.heap[s]? = some (flightsObj mb rb cb 0)) := hs
  have HS1 : Hid ((w.setCell ⟨s, 0, none⟩ (.int .i32 1)).heap[s]? = some (flightsObj mb rb cb 1)) := hs1
  clear hs hs1 hv
  go_enter_defers Try.func25, Try.ntmps25
  go_wp2_with (first
    | (go_at_call 28; refine (lock_free Try.muLib ⟨s, 0, none⟩ _ c0 (fz 0)).mono ?_; rintro e w' ⟨rfl, rfl⟩)
    | (at_lookup; refine wpList_look _ rfl _ _ 50 rfl 24 Try.underlying50 _ (zero24 _) mb n f rfl hm1 nm rfl hn (.pointer none) HV.out ?_))
  refine (newFlight_any _ s mb rb cb 1 HS1.out nm).mono ?_
  rintro e w2 ⟨b, rfl, F2, hg2, hbl⟩
  have hs2 : w2.heap[s]? = some (flightsObj mb rb cb 1) := (hg2.block s (Nat.lt_of_lt_of_le hsl hg1.size) (by simp)).trans HS1.out
  have d2 := FlightsIs.at2 hs2
  have hm2 : MapIs w2 mb n f := hm1.kept (hg2.block mb (Nat.lt_of_lt_of_le hml hg1.size) (by simp))
  have HS2 : Hid (w2.heap[s]? = some (flightsObj mb rb cb 1)) := hs2
  clear hs2
  go_wp2_with (at_mapUpdate; refine wpList_put _ rfl _ _ _ 50 rfl 24 Try.underlying50 mb n f rfl hm2 hnl nm rfl hn (.pointer (some ⟨b, 0, none⟩)) rfl ?_; intro w3 hm3 hg3)
  have hl2 : w.heap.size ≤ w2.heap.size := Nat.le_trans hg1.size hg2.size
  have hl3 : w.heap.size ≤ w3.heap.size := Nat.le_trans hl2 hg3.size
  have hbl' : w.heap.size ≤ b := Nat.le_trans hg1.size hbl
  have hs3 : w3.heap[s]? = some (flightsObj mb rb cb 1) := (hg3.block s (Nat.lt_of_lt_of_le hsl hl2) (by simp; exact fun e => hms e.symm)).trans HS2.out
  refine leaves_cons (f := 29) (args := #[.pointer (some ⟨s, 0, none⟩)]) (by simp) (by simp [go_sem]) ?_
  refine (unlock_deferred Try.muLib ⟨s, 0, none⟩ .returning _ (FlightsIs.at0 hs3) (FlightsIs.fz hs3 0)).mono ?_
  rintro e u' w'' ⟨rfl, rfl, rfl⟩
  have hg4 := grown_set w3 s 0 (.int .i32 0)
  have hs4 := FlightsIs.set0 hs3 0
  have hk : ∀ k, k < w.heap.size → k ≠ mb → (w3.setCell ⟨s, 0, none⟩ (.int .i32 0)).heap[k]? = w.heap[k]? := by
    intro k hk hkb
    by_cases hks : k = s
    · rw [hks, hs4, HS.out]
    · rw [hg4.block k (by omega) (by simp; exact hks), hg3.block k (by omega) (by simp; exact hkb), hg2.block k (Nat.lt_of_lt_of_le hk hg1.size) (by simp), hg1.block k hk (by simp; exact hks)]
  refine ⟨_, results_tmp2 rfl _ _ _, b, rfl, ⟨⟨rb, cb, hs4⟩, hm3.kept (hg4.block mb (by omega) (by simp; exact hms))⟩, (F2.kept (hg3.block b F2.lt (by simp; omega))).kept (hg4.block b (by have := F2.lt; have := hg3.size; omega) (by simp; omega)), ?_, hbl'⟩
  exact ⟨hg4.os.trans (hg3.os.trans (hg2.os.trans hg1.os)), hg4.tape.trans (hg3.tape.trans (hg2.tape.trans hg1.tape)), hg4.output.trans (hg3.output.trans (hg2.output.trans hg1.output)), Nat.le_trans hl3 hg4.size, fun k h1 h2 => hk k h1 (fun e => h2 (by rw [e]))⟩

theorem join_stale {w : World} {s mb n : Nat} {f : ByteArray → Option Value} (H : FlightsIs w s mb n f) (hnl : n < maxLen) (nm : ByteArray) (hn : nm.size ≤ maxLen) (b0 : Nat) (hv : f nm = some (.pointer (some ⟨b0, 0, none⟩)))
    {nm' : ByteArray} {st en : Bool} {er : Value} {h : Int} (F : FlightIs w b0 nm' st en er h) (hh : Holding b0 nm' st en er h false h) :
    Calls Try.prog 25 #[.pointer (some ⟨s, 0, none⟩), .string nm] w fun e w' => ∃ b, e = .returned (.tuple #[.pointer (some ⟨b, 0, none⟩), .bool true]) ∧ FlightsIs w' s mb (n + 1) (upd f nm (.pointer (some ⟨b, 0, none⟩))) ∧ FlightIs w' b nm false false .nilIface 1 ∧ FlightIs w' b0 nm' st en er h ∧ (∀ k, k < w.heap.size → k ≠ mb → k ≠ b0 → w'.heap[k]? = w.heap[k]?) ∧ w.heap.size ≤ b ∧ w'.os = w.os ∧ w'.tape = w.tape ∧ w'.output = w.output ∧ w.heap.size ≤ w'.heap.size := by
  have hne := FlightIs.ne_s H F
  have hbl0 := F.lt
  have hms := H.ne
  have hsl := H.lt
  obtain ⟨⟨rb, cb, hs⟩, hm⟩ := H
  have hml := hm.lt
  have c0 := FlightsIs.at0 hs
  have c2 := FlightsIs.at2 hs
  have fz := FlightsIs.fz hs
  have hs0 := FlightsIs.set0 hs 1
  have hg0 := grown_set w s 0 (.int .i32 1)
  have hm0 : MapIs (w.setCell ⟨s, 0, none⟩ (.int .i32 1)) mb n f := hm.kept (hg0.block mb hml (by simp; exact hms))
  have F0 : FlightIs (w.setCell ⟨s, 0, none⟩ (.int .i32 1)) b0 nm' st en er h := F.kept (hg0.block b0 hbl0 (by simp; exact hne.1))
  have HV : Hid ((f nm).getD (.pointer none) = .pointer (some ⟨b0, 0, none⟩)) := by simp [Hid, hv]
  have HS : Hid (w.heap[s]? = some (flightsObj mb rb cb 0)) := hs
  have HS0 : Hid ((w.setCell ⟨s, 0, none⟩ (.int .i32 1)).heap[s]? = some (flightsObj mb rb cb 1)) := hs0
  clear hs hs0 hv
  go_enter_defers Try.func25, Try.ntmps25
  go_wp2_with (first
    | (go_at_call 28; refine (lock_free Try.muLib ⟨s, 0, none⟩ _ c0 (fz 0)).mono ?_; rintro e w' ⟨rfl, rfl⟩)
    | (at_lookup; refine wpList_look _ rfl _ _ 50 rfl 24 Try.underlying50 _ (zero24 _) mb n f rfl hm0 nm rfl hn (.pointer (some ⟨b0, 0, none⟩)) HV.out ?_)
    | (go_at_call 27; refine (hh _ F0).mono ?_; rintro e w1 ⟨rfl, F1, hg1⟩))
  have hl1 : w.heap.size ≤ w1.heap.size := Nat.le_trans hg0.size hg1.size
  have hs1 : w1.heap[s]? = some (flightsObj mb rb cb 1) := (hg1.block s (Nat.lt_of_lt_of_le hsl hg0.size) (by simp; exact fun e => hne.1 e.symm)).trans HS0.out
  have hm1 : MapIs w1 mb n f := hm0.kept (hg1.block mb (Nat.lt_of_lt_of_le hml hg0.size) (by simp; exact fun e => hne.2 e.symm))
  refine (newFlight_any _ s mb rb cb 1 hs1 nm).mono ?_
  rintro e w2 ⟨b, rfl, F2, hg2, hbl⟩
  have hs2 : w2.heap[s]? = some (flightsObj mb rb cb 1) := (hg2.block s (Nat.lt_of_lt_of_le hsl hl1) (by simp)).trans hs1
  have d2 := FlightsIs.at2 hs2
  have hm2 : MapIs w2 mb n f := hm1.kept (hg2.block mb (Nat.lt_of_lt_of_le hml hl1) (by simp))
  have HS2 : Hid (w2.heap[s]? = some (flightsObj mb rb cb 1)) := hs2
  clear hs2 hs1
  go_wp2_with (at_mapUpdate; refine wpList_put _ rfl _ _ _ 50 rfl 24 Try.underlying50 mb n f rfl hm2 hnl nm rfl hn (.pointer (some ⟨b, 0, none⟩)) rfl ?_; intro w3 hm3 hg3)
  have hl2 : w.heap.size ≤ w2.heap.size := Nat.le_trans hl1 hg2.size
  have hl3 : w.heap.size ≤ w3.heap.size := Nat.le_trans hl2 hg3.size
  have hbl' : w.heap.size ≤ b := Nat.le_trans hl1 hbl
  have hs3 : w3.heap[s]? = some (flightsObj mb rb cb 1) := (hg3.block s (Nat.lt_of_lt_of_le hsl hl2) (by simp; exact fun e => hms e.symm)).trans HS2.out
  refine leaves_cons (f := 29) (args := #[.pointer (some ⟨s, 0, none⟩)]) (by simp) (by simp [go_sem]) ?_
  refine (unlock_deferred Try.muLib ⟨s, 0, none⟩ .returning _ (FlightsIs.at0 hs3) (FlightsIs.fz hs3 0)).mono ?_
  rintro e u' w'' ⟨rfl, rfl, rfl⟩
  have hg4 := grown_set w3 s 0 (.int .i32 0)
  have hs4 := FlightsIs.set0 hs3 0
  have hk : ∀ k, k < w.heap.size → k ≠ mb → k ≠ b0 → (w3.setCell ⟨s, 0, none⟩ (.int .i32 0)).heap[k]? = w.heap[k]? := by
    intro k hk hkb hk0
    by_cases hks : k = s
    · rw [hks, hs4, HS.out]
    · rw [hg4.block k (by omega) (by simp; exact hks), hg3.block k (by omega) (by simp; exact hkb), hg2.block k (by omega) (by simp), hg1.block k (Nat.lt_of_lt_of_le hk hg0.size) (by simp; exact hk0), hg0.block k hk (by simp; exact hks)]
  refine ⟨_, results_tmp2 rfl _ _ _, b, rfl, ⟨⟨rb, cb, hs4⟩, hm3.kept (hg4.block mb (by omega) (by simp; exact hms))⟩, (F2.kept (hg3.block b F2.lt (by simp; omega))).kept (hg4.block b (by have := F2.lt; have := hg3.size; omega) (by simp; omega)), ?_, hk, hbl', ?_⟩
  · exact ((F1.kept (hg2.block b0 F1.lt (by simp))).kept (hg3.block b0 (by omega) (by simp; exact hne.2))).kept (hg4.block b0 (by omega) (by simp; exact hne.1))
  · exact ⟨hg4.os.trans (hg3.os.trans (hg2.os.trans (hg1.os.trans hg0.os))), hg4.tape.trans (hg3.tape.trans (hg2.tape.trans (hg1.tape.trans hg0.tape))), hg4.output.trans (hg3.output.trans (hg2.output.trans (hg1.output.trans hg0.output))), Nat.le_trans hl3 hg4.size⟩

end Go.Proofs.Qxb6612987a
