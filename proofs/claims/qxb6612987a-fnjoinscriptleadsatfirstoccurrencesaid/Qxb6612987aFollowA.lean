/-
  Seat Qxb6612987a: the law FnJoinFollowsOnlyAUsefulFlight: the walks.
-/
import Derived.Test.Qxb6612987aHolding
import Derived.Test.Qxb6612987aBroken
namespace Go.Proofs.Qxb6612987a
open Go.RowKit Go.Maps Go.MuLone
set_option linter.unusedVariables false

/-- Behind a join that leads: the old flight, the new one, both listed. -/
def Led (w w' : World) (s mb b b1 : Nat) (nm q : ByteArray) (st en : Bool) (er : Value) (h h1 : Int) : Prop :=
  FlightsIs w' s mb 2 (upd (upd (fun _ => none) nm (.pointer (some ⟨b, 0, none⟩))) q (.pointer (some ⟨b1, 0, none⟩))) ∧ FlightIs w' b1 q false false .nilIface h1 ∧ FlightIs w' b nm st en er h ∧ b ≠ b1 ∧ w.heap.size ≤ b1 ∧ Below w.heap.size w w'

theorem leads {w w1 : World} {s mb b : Nat} {nm : ByteArray} {st en : Bool} {er : Value} {h : Int} (L : Listed w w1 s mb b nm st en er h) (q : ByteArray) (hq : q.size ≤ maxLen) (hc : q ≠ nm ∨ (q = nm ∧ Holding b nm st en er h false h)) :
    Calls Try.prog 9 #[.pointer (some ⟨s, 0, none⟩), .string q] w1 fun e w' => ∃ b1, e = .returned (.tuple #[.pointer (some ⟨b1, 0, none⟩), .bool true]) ∧ Led w w' s mb b b1 nm q st en er h 1 := by
  obtain ⟨S, F, hg, hs, hm, hb⟩ := L
  have hne := FlightIs.ne_s S F
  have h1 : 1 < maxLen := by unfold maxLen; omega
  have hbel : Below w.heap.size w w1 := (Below.refl _ _).grown hg (Nat.le_refl _) (by simp)
  rcases hc with hc | ⟨rfl, hh⟩
  · refine zzjoin_of ((join_new S h1 q hq (by rw [upd_other _ _ hc])).mono ?_)
    rintro e w2 ⟨b1, rfl, S2, F2, hg2, hbl⟩
    have hlt := F.lt
    exact ⟨b1, true, rfl, b1, rfl, S2, F2, F.kept (hg2.block b F.lt (by simp; exact hne.2)), by omega, by have := hg.size; omega, hbel.grown hg2 hg.size (by simp; omega)⟩
  · refine zzjoin_of ((join_stale S h1 q hq b (upd_same _ _ _) F hh).mono ?_)
    rintro e w2 ⟨b1, rfl, S2, F2, F3, hk, hbl, ho, ht, hu, hz⟩
    have hlt := F.lt
    refine ⟨b1, true, rfl, b1, rfl, S2, F2, F3, by omega, by have := hg.size; omega, ?_⟩
    have := hg.size
    exact hbel.trans ⟨ho, ht, hu, hz, fun k hkk => hk k (by omega) (by omega) (by omega)⟩

theorem follows {w : World} {s mb n : Nat} {f : ByteArray → Option Value} (S : FlightsIs w s mb n f) (q : ByteArray) (hq : q.size ≤ maxLen) (b : Nat) (hv : f q = some (.pointer (some ⟨b, 0, none⟩)))
    {nm' : ByteArray} {st en : Bool} {er : Value} {h h' : Int} (F : FlightIs w b nm' st en er h) (hh : Holding b nm' st en er h true h') :
    Calls Try.prog 9 #[.pointer (some ⟨s, 0, none⟩), .string q] w fun e w' => e = .returned (.tuple #[.pointer (some ⟨b, 0, none⟩), .bool false]) ∧ FlightsIs w' s mb n f ∧ FlightIs w' b nm' st en er h' ∧ w.grownBy w' (some b) := by
  refine zzjoin_of ((join_hit S q hq b hv F hh).mono ?_)
  rintro e w2 ⟨rfl, r⟩
  exact ⟨b, false, rfl, rfl, r⟩

theorem follows_led {w w1 : World} {s mb b b1 : Nat} {nm q : ByteArray} {st en : Bool} {er : Value} {h : Int} (L : Led w w1 s mb b b1 nm q st en er h 1) (hq : q.size ≤ maxLen) :
    Calls Try.prog 9 #[.pointer (some ⟨s, 0, none⟩), .string q] w1 fun e w' => e = .returned (.tuple #[.pointer (some ⟨b1, 0, none⟩), .bool false]) ∧ Led w w' s mb b b1 nm q st en er h 2 := by
  obtain ⟨S, F1, F, hne, hb1, hbel⟩ := L
  refine (follows S q hq b1 (upd_same _ _ _) F1 (fun w F => hold_yes_f F)).mono ?_
  rintro e w2 ⟨rfl, S2, F2, hg⟩
  rw [show wrap64 (1 + 1) = 2 from by unfold wrap64; omega] at F2
  exact ⟨rfl, S2, F2, F.kept (hg.block b F.lt (by simp; exact hne)), hne, hb1, hbel.grown hg hbel.size (by simp; omega)⟩

theorem bytes6_ok (nm q : ByteArray) (st en br : Bool) (h : Int) (w : World) (h1 : nm.size + q.size ≤ 1048576) :
    Calls Try.prog 6 #[.string nm, .string q, .bool st, .bool en, .bool br, .int .i64 h] w fun e w' => e = .returned (.bool true) ∧ w = w' := by
  go_enter Try.func6, Try.ntmps6
  go_wp2
  go_ret
  exact ⟨rfl, rfl⟩

theorem bytes6_no (nm q : ByteArray) (st en br : Bool) (h : Int) (w : World) (h1 : 1048576 < nm.size + q.size) (hn : nm.size ≤ maxLen) (hq : q.size ≤ maxLen) :
    Calls Try.prog 6 #[.string nm, .string q, .bool st, .bool en, .bool br, .int .i64 h] w fun e w' => e = .returned (.bool false) ∧ w = w' := by
  unfold maxLen at hn hq
  by_cases h2 : 1048576 < nm.size
  · go_enter Try.func6, Try.ntmps6
    go_wp2
    go_ret
    exact ⟨rfl, rfl⟩
  · by_cases h3 : 1048576 < q.size
    · go_enter Try.func6, Try.ntmps6
      go_wp2
      go_ret
      exact ⟨rfl, rfl⟩
    · go_enter Try.func6, Try.ntmps6
      go_wp2
      go_ret
      exact ⟨rfl, rfl⟩

end Go.Proofs.Qxb6612987a
