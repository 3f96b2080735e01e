/-
  Seat Qxb6612987a: '==' and '!=' on two pointers to flights.
-/
import Derived.Test.Qxb6612987aBase
import Derived.LaidEql
namespace Go.Proofs.Qxb6612987a
open Go.RowKit

theorem size66 : Try.prog.info? 66 = none → False := by
  intro h
  have : (Try.prog.info? 66).isSome = true := by kernel_rfl
  rw [h] at this
  cases this

theorem info66 : ∃ j, Try.prog.info? 66 = some j ∧ j.size ≠ 0 := by
  cases h : Try.prog.info? 66 with
  | none => exact (size66 h).elim
  | some j =>
    refine ⟨j, rfl, ?_⟩
    have e : (Try.prog.info? 66).map (fun i => decide (i.size = 0)) = some false := by kernel_rfl
    rw [h] at e
    simpa using e

theorem run_eq24_same (w : World) (a : Addr) : (Op.equal 24 (.pointer (some a)) (.pointer (some a))).run Try.prog w = .ok true w := by
  obtain ⟨j, hj, hz⟩ := info66
  have h : ∀ d : Nat, (Op.equalIn (d + 1) 24 (.pointer (some a)) (.pointer (some a))).run Try.prog w = .ok true w := fun d => by
    simp [Op.equalIn, run_underlying Try.underlying24, sizeOf, typeInfo, hj, run_sameAddr_same]
  exact h 9999

theorem run_eq24_other (w : World) {a b : Addr} {ca cb : Array Value} {ta tb : TypeId} (hne : a ≠ b) (ha : w.heap[a.block]? = some (.cells ca ta (0, 0))) (hb : w.heap[b.block]? = some (.cells cb tb (0, 0))) :
    (Op.equal 24 (.pointer (some a)) (.pointer (some b))).run Try.prog w = .ok false w := by
  obtain ⟨j, hj, hz⟩ := info66
  have h : ∀ d : Nat, (Op.equalIn (d + 1) 24 (.pointer (some a)) (.pointer (some b))).run Try.prog w = .ok false w := fun d => by
    simp [Op.equalIn, run_underlying Try.underlying24, sizeOf, typeInfo, hj, hz, run_sameAddr_other w hne ha hb]
  exact h 9999

theorem eql24_same (w : World) (a : Addr) : (binOp .eql 24 (.pointer (some a)) (.pointer (some a))).run Try.prog w = .ok (.bool true) w := by
  simp only [binOp]
  simp [run_eq24_same w a]
theorem neq24_same (w : World) (a : Addr) : (binOp .neq 24 (.pointer (some a)) (.pointer (some a))).run Try.prog w = .ok (.bool false) w := by
  simp only [binOp]
  simp [run_eq24_same w a]

theorem eql24_other {w : World} {b b' : Nat} {nm nm' : ByteArray} {st en st' en' : Bool} {er er' : Value} {h h' : Int} (F : FlightIs w b nm st en er h) (F' : FlightIs w b' nm' st' en' er' h') (hne : b ≠ b') :
    (binOp .eql 24 (.pointer (some ⟨b, 0, none⟩)) (.pointer (some ⟨b', 0, none⟩))).run Try.prog w = .ok (.bool false) w := by
  obtain ⟨sv, cv, hb⟩ := F
  obtain ⟨sv', cv', hb'⟩ := F'
  simp only [binOp]
  simp [run_eq24_other w (a := ⟨b, 0, none⟩) (b := ⟨b', 0, none⟩) (fun e => hne (congrArg Addr.block e)) hb hb']
theorem neq24_other {w : World} {b b' : Nat} {nm nm' : ByteArray} {st en st' en' : Bool} {er er' : Value} {h h' : Int} (F : FlightIs w b nm st en er h) (F' : FlightIs w b' nm' st' en' er' h') (hne : b ≠ b') :
    (binOp .neq 24 (.pointer (some ⟨b, 0, none⟩)) (.pointer (some ⟨b', 0, none⟩))).run Try.prog w = .ok (.bool true) w := by
  obtain ⟨sv, cv, hb⟩ := F
  obtain ⟨sv', cv', hb'⟩ := F'
  simp only [binOp]
  simp [run_eq24_other w (a := ⟨b, 0, none⟩) (b := ⟨b', 0, none⟩) (fun e => hne (congrArg Addr.block e)) hb hb']

end Go.Proofs.Qxb6612987a
