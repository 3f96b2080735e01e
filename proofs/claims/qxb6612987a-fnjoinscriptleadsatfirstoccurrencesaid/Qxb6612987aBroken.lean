/-
  Seat Qxb6612987a: ZZflightsHoldingBroken: its contract (the region that makes the flight draws its order: six ways).
-/
import Derived.Test.Qxb6612987aHolding
namespace Go.Proofs.Qxb6612987a
open Go.RowKit Go.Maps Go.MuLone
set_option linter.unusedVariables false

set_option maxHeartbeats 800000 in
theorem brokenFl_any (w : World) (nm : ByteArray) (hn : nm.size ≤ maxLen) (h : Int) :
    Calls Try.prog 7 #[.string nm, .int .i64 h] w fun e w' => ∃ s mb b v, e = .returned (.tuple #[.pointer (some ⟨s, 0, none⟩), .pointer (some ⟨b, 0, none⟩)]) ∧ Listed w w' s mb b nm true true (.iface 70 v) h := by
  have hch := run_chan
  go_enter Try.func7, Try.ntmps7
  go_wp2_with fail
  refine (newFlights_any _).mono ?_
  rintro e w1 ⟨s, mb, rfl, S1, hg1, hs1, hm1⟩
  have hsl := S1.lt
  have hms := S1.ne
  obtain ⟨⟨rb, cb, hs⟩, hm⟩ := S1
  have hml := hm.lt
  have c5 : w1.cell? ⟨s, 5, none⟩ = some (.chan (some cb)) := by simp [World.cell?, hs, flightsObj]
  have c5' : ∀ o, (w1.alloc o).cell? ⟨s, 5, none⟩ = some (.chan (some cb)) := fun o => by rw [World.cell?_alloc_past _ _ _ hsl]; exact c5
  have c5'' : ∀ o o', ((w1.alloc o).alloc o').cell? ⟨s, 5, none⟩ = some (.chan (some cb)) := fun o o' => by rw [World.cell?_alloc_past _ _ _ (by rw [size_new]; show s < _; omega)]; exact c5' o
  have HS : Hid (w1.heap[s]? = some (flightsObj mb rb cb 0)) := hs
  clear hs
  have d2 : ∀ o1 o2 o3, (((w1.alloc o1).alloc o2).alloc o3).cell? ⟨s, 2, none⟩ = some (.map (some mb)) := fun o1 o2 o3 => by
    rw [World.cell?_alloc_past _ _ _ (by rw [size_new, size_new]; show s < _; omega), World.cell?_alloc_past _ _ _ (by rw [size_new]; show s < _; omega), World.cell?_alloc_past _ _ _ hsl]
    exact FlightsIs.at2 HS.out
  have hgW : ∀ o1 o2 o3, w1.grownBy (((w1.alloc o1).alloc o2).alloc o3).drew none := fun o1 o2 o3 => (((World.grownBy_alloc _ _ _).trans (World.grownBy_alloc _ _ _)).trans (World.grownBy_alloc _ _ _)).trans (grown_drew _ _)
  have hmW : ∀ o1 o2 o3, MapIs (((w1.alloc o1).alloc o2).alloc o3).drew mb 0 (fun _ => none) := fun o1 o2 o3 => hm.kept ((hgW o1 o2 o3).block mb hml (by simp))
  have hsW : ∀ o1 o2 o3, (((w1.alloc o1).alloc o2).alloc o3).drew.heap[s]? = some (flightsObj mb rb cb 0) := fun o1 o2 o3 => ((hgW o1 o2 o3).block s hsl (by simp)).trans HS.out
  have fW : ∀ o1 o2 o3, (((w1.alloc o1).alloc o2).alloc o3).drew.heap[w1.heap.size + 1 + 1]? = some o3 := fun o1 o2 o3 => by
    have h := heap_new ((w1.alloc o1).alloc o2) o3
    rw [size_new, size_new] at h
    exact h
  have HsW := Hid.mk hsW
  have HfW := Hid.mk fW
  clear hsW fW
  have h0 : 0 < maxLen := by unfold maxLen; omega
  go_wp2_with fail
  go_region_with (go_at_call 24; refine (errnew_any _ _).mono ?_; rintro e w' ⟨v, rfl, o, rfl⟩)
  all_goals
    go_wp2_with (at_mapUpdate; refine wpList_put _ rfl _ _ _ 50 rfl 24 Try.underlying50 mb 0 (fun _ => none) rfl (hmW _ _ _) h0 nm rfl hn (.pointer (some ⟨w1.heap.size + 1 + 1, 0, none⟩)) rfl ?_; intro w3 hm3 hg3)
    go_ret2
    have l2 : w1.heap.size ≤ w3.heap.size := Nat.le_trans (hgW _ _ _).size hg3.size
    have F2 : FlightIs w3 (w1.heap.size + 1 + 1) nm true true (.iface 70 v) h := FlightIs.kept ⟨_, _, HfW.out _ _ _⟩ (hg3.block _ (by simp) (by simp; omega))
    refine ⟨s, mb, w1.heap.size + 1 + 1, v, rfl, ⟨⟨rb, cb, (hg3.block s (Nat.lt_of_lt_of_le hsl (hgW _ _ _).size) (by simp; exact fun e => hms e.symm)).trans (HsW.out _ _ _)⟩, hm3⟩, F2, ?_, hs1, hm1, by have := hg1.size; omega⟩
    exact ⟨hg3.os.trans ((hgW _ _ _).os.trans hg1.os), hg3.tape.trans ((hgW _ _ _).tape.trans hg1.tape), hg3.output.trans ((hgW _ _ _).output.trans hg1.output), Nat.le_trans hg1.size l2, fun k h1 _ => by
      have := hg1.size
      rw [hg3.block k (Nat.lt_of_lt_of_le (by omega) (hgW _ _ _).size) (by simp; omega), (hgW _ _ _).block k (by omega) (by simp), hg1.block k h1 (by simp)]⟩

end Go.Proofs.Qxb6612987a
