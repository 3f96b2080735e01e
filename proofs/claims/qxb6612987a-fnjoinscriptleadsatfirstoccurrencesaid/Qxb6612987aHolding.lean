/-
  Seat Qxb6612987a: ZZflightsHolding, ZZflightsHoldingBroken, ZZjoin: their contracts.
-/
import Derived.Test.Qxb6612987aJoin
import Derived.Test.Qxb6612987aEq
import Derived.Deep.RegionWith
namespace Go.Proofs.Qxb6612987a
open Go.RowKit Go.Maps Go.MuLone
set_option linter.unusedVariables false

theorem Hid.mk {p : Prop} (h : p) : Hid p := h

/-- ONE FLIGHT, LISTED UNDER ITS NAME. -/
def Listed (w w' : World) (s mb b : Nat) (nm : ByteArray) (st en : Bool) (er : Value) (h : Int) : Prop :=
  FlightsIs w' s mb 1 (upd (fun _ => none) nm (.pointer (some ⟨b, 0, none⟩))) ∧ FlightIs w' b nm st en er h ∧ w.grownBy w' none ∧ w.heap.size ≤ s ∧ w.heap.size ≤ mb ∧ w.heap.size ≤ b

set_option maxHeartbeats 800000 in
theorem holding_any (w : World) (nm : ByteArray) (hn : nm.size ≤ maxLen) (st en : Bool) (h : Int) :
    Calls Try.prog 8 #[.string nm, .bool st, .bool en, .int .i64 h] w fun e w' => ∃ s mb b, e = .returned (.tuple #[.pointer (some ⟨s, 0, none⟩), .pointer (some ⟨b, 0, none⟩)]) ∧ Listed w w' s mb b nm st en .nilIface h := by
  have hch := run_chan
  go_enter Try.func8, Try.ntmps8
  go_wp2_with fail
  refine (newFlights_any _).mono ?_
  rintro e w1 ⟨s, mb, rfl, S1, hg1, hs1, hm1⟩
  have hsl := S1.lt
  have hms := S1.ne
  obtain ⟨⟨rb, cb, hs⟩, hm⟩ := S1
  have hml := hm.lt
  have c5 : w1.cell? ⟨s, 5, none⟩ = some (.chan (some cb)) := by simp [World.cell?, hs, flightsObj]
  have c5' : (w1.alloc (.chan 0 #[] false 0 0 false)).cell? ⟨s, 5, none⟩ = some (.chan (some cb)) := by rw [World.cell?_alloc_past _ _ _ hsl]; exact c5
  have HS : Hid (w1.heap[s]? = some (flightsObj mb rb cb 0)) := hs
  clear hs
  go_wp2
  go_region
  obtain ⟨w2, hw2⟩ : ∃ w2, w2 = ((w1.alloc (.chan 0 #[] false 0 0 false)).alloc (flightObj nm (.chan (some cb)) (.chan (some w1.heap.size)) 0 st en .nilIface h)).drew := ⟨_, rfl⟩
  have e2 : ((w1.alloc (.chan 0 #[] false 0 0 false)).alloc (.cells #[.string nm, .chan (some cb), .int .i32 0, .int .u32 0, .chan (some w1.heap.size), .bool st, .bool en, .nilIface, .int .i64 0, .int .i64 h, .nilFunc, .bool false, .map none, .string ⟨#[]⟩, .pointer none] 66)).drew = w2 := hw2.symm
  have hg2 : w1.grownBy w2 none := by rw [hw2]; exact ((World.grownBy_alloc _ _ _).trans (World.grownBy_alloc _ _ _)).trans (grown_drew _ _)
  have F2 : FlightIs w2 (w1.heap.size + 1) nm st en .nilIface h := by
    refine ⟨.chan (some cb), .chan (some w1.heap.size), ?_⟩
    have h := heap_new (w1.alloc (.chan 0 #[] false 0 0 false)) (flightObj nm (.chan (some cb)) (.chan (some w1.heap.size)) 0 st en .nilIface h)
    rw [size_new] at h
    rw [hw2]
    exact h
  rw [e2]
  clear e2 hw2
  have hs2 : w2.heap[s]? = some (flightsObj mb rb cb 0) := (hg2.block s hsl (by simp)).trans HS.out
  have d2 := FlightsIs.at2 hs2
  have hm2 : MapIs w2 mb 0 (fun _ => none) := hm.kept (hg2.block mb hml (by simp))
  have HS2 : Hid (w2.heap[s]? = some (flightsObj mb rb cb 0)) := hs2
  clear hs2
  have h0 : 0 < maxLen := by unfold maxLen; omega
  go_wp2_with (at_mapUpdate; refine wpList_put _ rfl _ _ _ 50 rfl 24 Try.underlying50 mb 0 (fun _ => none) rfl hm2 h0 nm rfl hn (.pointer (some ⟨w1.heap.size + 1, 0, none⟩)) rfl ?_; intro w3 hm3 hg3)
  go_ret2
  have l12 := hg2.size
  refine ⟨s, mb, w1.heap.size + 1, rfl, ⟨⟨rb, cb, (hg3.block s (by omega) (by simp; exact fun e => hms e.symm)).trans HS2.out⟩, hm3⟩, F2.kept (hg3.block _ F2.lt (by simp; omega)), ?_, hs1, hm1, by have := hg1.size; omega⟩
  exact ⟨hg3.os.trans (hg2.os.trans hg1.os), hg3.tape.trans (hg2.tape.trans hg1.tape), hg3.output.trans (hg2.output.trans hg1.output), Nat.le_trans hg1.size (Nat.le_trans hg2.size hg3.size), fun k h1 _ => by
    have := hg1.size
    rw [hg3.block k (by omega) (by simp; omega), hg2.block k (by omega) (by simp), hg1.block k h1 (by simp)]⟩

theorem errnew_any (w : World) (s : ByteArray) :
    Calls Try.prog 24 #[.string s] w fun e w' => ∃ v, e = .returned (.iface 70 v) ∧ ∃ o, w.alloc o = w' := by
  go_enter Try.func24, Try.ntmps24
  go_wp2
  go_ret
  exact ⟨_, rfl, _, rfl⟩

theorem zzjoin_of {s : Nat} {nm : ByteArray} {w : World} {Q : Ending → World → Prop}
    (h : Calls Try.prog 25 #[.pointer (some ⟨s, 0, none⟩), .string nm] w fun e w' => ∃ b c, e = .returned (.tuple #[.pointer (some ⟨b, 0, none⟩), .bool c]) ∧ Q (.returned (.tuple #[.pointer (some ⟨b, 0, none⟩), .bool c])) w') :
    Calls Try.prog 9 #[.pointer (some ⟨s, 0, none⟩), .string nm] w Q := by
  have H : Hid (Calls Try.prog 25 #[.pointer (some ⟨s, 0, none⟩), .string nm] w fun e w' => ∃ b c, e = .returned (.tuple #[.pointer (some ⟨b, 0, none⟩), .bool c]) ∧ Q (.returned (.tuple #[.pointer (some ⟨b, 0, none⟩), .bool c])) w') := h
  clear h
  go_enter Try.func9, Try.ntmps9
  go_wp2_with fail
  refine H.out.mono ?_
  clear H
  rintro e w' ⟨p, c, rfl, hq⟩
  have HQ : Hid (Q (.returned (.tuple #[.pointer (some ⟨p, 0, none⟩), .bool c])) w') := hq
  clear hq
  go_wp2
  exact HQ.out

end Go.Proofs.Qxb6612987a
